import JvmDerived
import JvmDerived.Pilot.@@N@@Statement
import JvmDerived.Pilot.@@N@@Code
set_option linter.unusedVariables false
set_option linter.unusedSimpArgs false
/- laws to paste: Road.backV, Road.lenW, Road.chN, Road.codOf (cut by pick.py; bodies as the Statement names them) -/
namespace Jvm.Pilot.@@N@@
namespace StrChars
open Jvm Sem ClassFile Op Lib Jvm.Stand Jvm.Free.XT Jvm.Free.ALB Jvm.Free.JM Jvm.Free
open Jvm.Lib.Cold (StaticIs)
/-- a char array whose places are chars -/
def Ch (a : Addr) (A : Cell) (U : State) : Prop := Arr .char a A U ∧ Typed .char A
theorem Ch.mv {a : Addr} {A : Cell} {U U' : State} (h : Ch a A U) (hal : U.vm.Alike U'.vm) (hh : U'.heap = U.heap) : Ch a A U' := ⟨h.1.mv hal hh, h.2⟩
theorem Ch.keep {a : Addr} {A : Cell} {U U' : State} (h : Ch a A U) (hal : U.vm.Alike U'.vm) (hk : U'.heap[a]? = some A) : Ch a A U' := ⟨h.1.keep hal hk, h.2⟩
/-- what place i of a char[]'s cell holds -/
def cv (A : Cell) (i : Nat) : Int32 := match A.slots[i]? with | some (.int x) => x | _ => 0
theorem Ch.get {a : Addr} {A : Cell} {U : State} (h : Ch a A U) {i : Nat} (hi : i < A.slots.size) : A.slots[i]? = some (.int (cv A i)) := by
  have e := Array.getElem?_eq_getElem hi
  have f := h.2 i _ e
  unfold cv; rw [e]
  generalize A.slots[i] = v at f
  cases v <;> simp [fits] at f ⊢
/-- the byte that i2b leaves of a char -/
def lo8 (x : Int32) : Int32 := x.toInt8.toInt32
theorem fits_lo8 (y : Int32) : fits .byte (.int (lo8 y)) = true := by
  have h1 := y.toInt8.le_toInt
  have h2 := y.toInt8.toInt_lt
  simp only [lo8, fits, Bool.and_eq_true, decide_eq_true_eq, Int32.le_iff_toInt_le, Int8.toInt_toInt32, show (-128 : Int32).toInt = -128 from by decide, show (127 : Int32).toInt = 127 from by decide]
  omega
/-- A' is A but that each place j of lo .. hi - 1 holds f j -/
def Laid (A A' : Cell) (lo hi : Nat) (f : Nat → Value) : Prop := A'.cls = A.cls ∧ A'.vm = A.vm ∧ A'.slots.size = A.slots.size ∧ ∀ i, A'.slots[i]? = if lo ≤ i ∧ i < hi then some (f i) else A.slots[i]?
theorem Laid.zero (A : Cell) (lo : Nat) (f : Nat → Value) : Laid A A lo (lo + 0) f := ⟨rfl, rfl, rfl, fun i => by rw [if_neg (by omega)]⟩
theorem Laid.step {A Ak : Cell} {lo k : Nat} {f : Nat → Value} {v : Value} (h : Laid A Ak lo k f) (hlo : lo ≤ k) (hk : k < Ak.slots.size) (hv : v = f k) : Laid A (Ak.setSlot k v) lo (k + 1) f := by
  refine ⟨h.1, h.2.1, by simpa [Cell.setSlot] using h.2.2.1, fun i => ?_⟩
  by_cases e : k = i
  · subst e; rw [Cell.slots_setSlot_self v hk, if_pos (by omega), hv]
  · rw [Cell.slots_setSlot_ne v e, h.2.2.2 i]
    by_cases q : lo ≤ i ∧ i < k
    · rw [if_pos q, if_pos (by omega)]
    · rw [if_neg q, if_neg (by omega)]
def U16 : String := "java/lang/StringUTF16"
namespace Cmp5
def yN : MethodName := ⟨"java/lang/StringUTF16", "compress", "([CI[BII)I"⟩
abbrev yB : ByteArray := jdk_52_method_21_code
theorem d0 : decode yB 0 = .ok (.iconst 0, 1) := by decide +kernel
theorem d1 : decode yB 1 = .ok (.istore 5, 2) := by decide +kernel
theorem d3 : decode yB 3 = .ok (.iload 5, 2) := by decide +kernel
theorem d5 : decode yB 5 = .ok (.iload 4, 2) := by decide +kernel
theorem d7 : decode yB 7 = .ok (.if_icmp (.ge) 37, 3) := by decide +kernel
theorem d10 : decode yB 10 = .ok (.aload_n 0, 1) := by decide +kernel
theorem d11 : decode yB 11 = .ok (.iload_n 1, 1) := by decide +kernel
theorem d12 : decode yB 12 = .ok (.caload, 1) := by decide +kernel
theorem d13 : decode yB 13 = .ok (.istore 6, 2) := by decide +kernel
theorem d15 : decode yB 15 = .ok (.iload 6, 2) := by decide +kernel
theorem d17 : decode yB 17 = .ok (.sipush 255, 3) := by decide +kernel
theorem d20 : decode yB 20 = .ok (.if_icmp (.le) 6, 3) := by decide +kernel
theorem d26 : decode yB 26 = .ok (.aload_n 2, 1) := by decide +kernel
theorem d27 : decode yB 27 = .ok (.iload_n 3, 1) := by decide +kernel
theorem d28 : decode yB 28 = .ok (.iload 6, 2) := by decide +kernel
theorem d30 : decode yB 30 = .ok (.i2b, 1) := by decide +kernel
theorem d31 : decode yB 31 = .ok (.bastore, 1) := by decide +kernel
theorem d32 : decode yB 32 = .ok (.iinc 1 1, 3) := by decide +kernel
theorem d35 : decode yB 35 = .ok (.iinc 3 1, 3) := by decide +kernel
theorem d38 : decode yB 38 = .ok (.iinc 5 1, 3) := by decide +kernel
theorem d41 : decode yB 41 = .ok (.goto (-38), 3) := by decide +kernel
theorem d44 : decode yB 44 = .ok (.iload 4, 2) := by decide +kernel
theorem d46 : decode yB 46 = .ok (.ireturn, 1) := by decide +kernel
def site : List Cond := []
def tab : Cond := tabOf yN yB 7 (some .int) site
def P (b : Addr) (A : Cell) (d : Addr) (B : Cell) (o q len : Nat) (args : Array Value) (s : State) : Prop := args = #[.ref b, .int (Int32.ofNat o), .ref d, .int (Int32.ofNat q), .int (Int32.ofNat len)] ∧ Ch b A s ∧ Arr .byte d B s ∧ b ≠ d ∧ o + len ≤ A.slots.size ∧ q + len ≤ B.slots.size ∧ ∀ i, i < len → ¬ 255 < cv A (o + i)
def E (b : Addr) (A : Cell) (d : Addr) (B : Cell) (o q len : Nat) (r : Option Value) (s u : State) : Prop := r = some (.int (Int32.ofNat len)) ∧ ∃ B', Put d B' s u ∧ Laid B B' q (q + len) (fun j => Value.int (lo8 (cv A (o + (j - q)))))
/-- no char of the range above 255: len; the places written hold each char's low byte -/
theorem law (l : Launch) (b : Addr) (A : Cell) (d : Addr) (B : Cell) (o q len : Nat) : Law l yN 5 5 0 0 yB 7 (some .int) site (P b A d B o q len) (E b A d B o q len) (copyLocs d q len) 0 0 := by
  refine Law.of_walk (plainFor_of_name (by decide +kernel)) (by decide +kernel) (by decide +kernel) (by decide) (fun _ _ h => by rw [h.1]; rfl) (fun _ U U' hal hh h => ⟨h.1, h.2.1.mv hal hh, h.2.2.1.mv hal hh, h.2.2.2⟩) (fun r U U' V V' h1 hal h2 h => ⟨h.1, h.2.elim fun B' q => ⟨B', q.1.mv h1 h2, q.2⟩⟩) ?_
  intro p e s m args below meth c s₁ X0 hexec hbytes hml hret hlk hnm hown hh0 W hP
  obtain ⟨rfl, hA, hB, hne, l1, l2, hp⟩ := hP
  have c1 : Steps p.tables e below (s₁.setTop (entryFrame m #[.ref b, .int (Int32.ofNat o), .ref d, .int (Int32.ofNat q), .int (Int32.ofNat len)] 7)) (s₁.setTop (mkF m 0 #[.val (.ref b), .val (.int (Int32.ofNat o)), .val (.ref d), .val (.int (Int32.ofNat q)), .val (.int (Int32.ofNat len)), .unset, .unset] [])) := entry rfl
  have hA0 := hA.1.mv X0.warmed.alike hh0
  have hB0 := hB.mv X0.warmed.alike hh0
  have a31 := hA.1.2.2.2
  have c2 : Steps p.tables e below (s₁.setTop (entryFrame m #[.ref b, .int (Int32.ofNat o), .ref d, .int (Int32.ofNat q), .int (Int32.ofNat len)] 7)) (s₁.setTop (mkF m 3 #[.val (.ref b), .val (.int (Int32.ofNat o)), .val (.ref d), .val (.int (Int32.ofNat q)), .val (.int (Int32.ofNat len)), .val (.int 0), .unset] [])) := c1.trans (by
    refine iconstV X0.here hexec rfl 0 (hb hbytes d0) (by decide) ?_
    refine XS.istore X0.here hexec rfl (hb hbytes d1) rfl rfl ?_
    exact Steps.refl _)
  have loop : ∀ (r i : Nat), i + r = len → ∀ (z : Slot), (z = .unset ∨ ∃ w, z = .val w ∧ w.category = 1) → ∀ (Tl : State) (Bk : Cell), Stand p l e { frames := 0, locals := 0, cells := 0, slots := 0 } s m #[.ref b, .int (Int32.ofNat o), .ref d, .int (Int32.ofNat q), .int (Int32.ofNat len)] below meth c Tl ([] ++ copyLocs d q i) 0 0 → Put d Bk s₁ Tl → Laid B Bk q (q + i) (fun j => Value.int (lo8 (cv A (o + (j - q))))) →
      Steps p.tables e below (s₁.setTop (entryFrame m #[.ref b, .int (Int32.ofNat o), .ref d, .int (Int32.ofNat q), .int (Int32.ofNat len)] 7)) (Tl.setTop (mkF m 3 #[.val (.ref b), .val (.int (Int32.ofNat (o + i))), .val (.ref d), .val (.int (Int32.ofNat (q + i))), .val (.int (Int32.ofNat len)), .val (.int (Int32.ofNat i)), z] [])) → ∃ (T' : State) (B' : Cell) (z' : Slot), Stand p l e { frames := 0, locals := 0, cells := 0, slots := 0 } s m #[.ref b, .int (Int32.ofNat o), .ref d, .int (Int32.ofNat q), .int (Int32.ofNat len)] below meth c T' ([] ++ copyLocs d q len) 0 0 ∧ Put d B' s₁ T' ∧ Laid B B' q (q + len) (fun j => Value.int (lo8 (cv A (o + (j - q))))) ∧
      Steps p.tables e below (s₁.setTop (entryFrame m #[.ref b, .int (Int32.ofNat o), .ref d, .int (Int32.ofNat q), .int (Int32.ofNat len)] 7)) (T'.setTop (mkF m 3 #[.val (.ref b), .val (.int (Int32.ofNat (o + len))), .val (.ref d), .val (.int (Int32.ofNat (q + len))), .val (.int (Int32.ofNat len)), .val (.int (Int32.ofNat len)), z'] [])) := by
    intro r
    induction r with
    | zero =>
      intro i hi z hz Tl Bk Xl pl fl cl
      have hil : i = len := by omega
      rw [hil] at Xl fl cl
      exact ⟨Tl, Bk, z, Xl, pl, fl, cl⟩
    | succ r ih =>
      intro i hi z hz Tl Bk Xl pl fl cl
      have all := X0.warmed.alike.symm.trans Xl.warmed.alike
      have hAl := hA0.keep all (pl.other hne hA0.1)
      have hBk := hB0.like all pl.1 fl.1 fl.2.1 fl.2.2.1
      have hlt : q + i < Bk.slots.size := by rw [fl.2.2.1]; omega
      have c3 : Steps p.tables e below (s₁.setTop (entryFrame m #[.ref b, .int (Int32.ofNat o), .ref d, .int (Int32.ofNat q), .int (Int32.ofNat len)] 7)) (Tl.setTop (mkF m 12 #[.val (.ref b), .val (.int (Int32.ofNat (o + i))), .val (.ref d), .val (.int (Int32.ofNat (q + i))), .val (.int (Int32.ofNat len)), .val (.int (Int32.ofNat i)), z] [.int (Int32.ofNat (o + i)), .ref b])) := cl.trans (by
        refine XS.iload Xl.here hexec rfl (hb hbytes d3) rfl ?_
        refine XS.iload Xl.here hexec rfl (hb hbytes d5) rfl ?_
        refine XS.icmpNo Xl.here hexec rfl (hb hbytes d7) rfl (ii_ge_f (lt32 (by omega) (by omega))) ?_
        refine XS.aloadN Xl.here hexec rfl (hb hbytes d10) rfl rfl ?_
        refine XS.iloadN Xl.here hexec rfl (hb hbytes d11) rfl ?_
        exact Steps.refl _)
      have c4 : Steps p.tables e below (s₁.setTop (entryFrame m #[.ref b, .int (Int32.ofNat o), .ref d, .int (Int32.ofNat q), .int (Int32.ofNat len)] 7)) (Tl.setTop (mkF m 13 #[.val (.ref b), .val (.int (Int32.ofNat (o + i))), .val (.ref d), .val (.int (Int32.ofNat (q + i))), .val (.int (Int32.ofNat len)), .val (.int (Int32.ofNat i)), z] [.int (cv A (o + i))])) := c3.trans (by
        refine Xl.aget hexec hAl rfl (hA.get (i := o + i) (by omega)) rfl rfl (hb hbytes d12) ?_
        exact Steps.refl _)
      have c5 : Steps p.tables e below (s₁.setTop (entryFrame m #[.ref b, .int (Int32.ofNat o), .ref d, .int (Int32.ofNat q), .int (Int32.ofNat len)] 7)) (Tl.setTop (mkF m 15 #[.val (.ref b), .val (.int (Int32.ofNat (o + i))), .val (.ref d), .val (.int (Int32.ofNat (q + i))), .val (.int (Int32.ofNat len)), .val (.int (Int32.ofNat i)), .val (.int (cv A (o + i)))] [])) := c4.trans (by
        refine XS.istoreS Xl.here hexec rfl (hb hbytes d13) rfl rfl hz ?_
        exact Steps.refl _)
      have c6 : Steps p.tables e below (s₁.setTop (entryFrame m #[.ref b, .int (Int32.ofNat o), .ref d, .int (Int32.ofNat q), .int (Int32.ofNat len)] 7)) (Tl.setTop (mkF m 31 #[.val (.ref b), .val (.int (Int32.ofNat (o + i))), .val (.ref d), .val (.int (Int32.ofNat (q + i))), .val (.int (Int32.ofNat len)), .val (.int (Int32.ofNat i)), .val (.int (cv A (o + i)))] [.int (lo8 (cv A (o + i))), .int (Int32.ofNat (q + i)), .ref d])) := c5.trans (by
        refine XS.iload Xl.here hexec rfl (hb hbytes d15) rfl ?_
        refine sipushV Xl.here hexec rfl 255 (hb hbytes d17) (by decide) ?_
        refine XS.icmpYes Xl.here hexec rfl (pc0 := 20) rfl (hb hbytes d20) rfl (ii_le_t (hp i (by omega))) (by decide) rfl ?_
        refine XS.aloadN Xl.here hexec rfl (hb hbytes d26) rfl rfl ?_
        refine XS.iloadN Xl.here hexec rfl (hb hbytes d27) rfl ?_
        refine XS.iload Xl.here hexec rfl (hb hbytes d28) rfl ?_
        refine i2b Xl.here hexec rfl (hb hbytes d30) rfl ?_
        exact Steps.refl _)
      obtain ⟨T7, X7, p7, st7⟩ := Xl.aput hexec hBk rfl hlt rfl (fits_lo8 (cv A (o + i))) (g := (mkF m 31 #[.val (.ref b), .val (.int (Int32.ofNat (o + i))), .val (.ref d), .val (.int (Int32.ofNat (q + i))), .val (.int (Int32.ofNat len)), .val (.int (Int32.ofNat i)), .val (.int (cv A (o + i)))] [.int (lo8 (cv A (o + i))), .int (Int32.ofNat (q + i)), .ref d])) rfl (rest := []) rfl (hb hbytes d31)
      have c8 : Steps p.tables e below (s₁.setTop (entryFrame m #[.ref b, .int (Int32.ofNat o), .ref d, .int (Int32.ofNat q), .int (Int32.ofNat len)] 7)) (T7.setTop (mkF m 32 #[.val (.ref b), .val (.int (Int32.ofNat (o + i))), .val (.ref d), .val (.int (Int32.ofNat (q + i))), .val (.int (Int32.ofNat len)), .val (.int (Int32.ofNat i)), .val (.int (cv A (o + i)))] [])) := c6.trans (st7 _ (Steps.refl _))
      have c9 : Steps p.tables e below (s₁.setTop (entryFrame m #[.ref b, .int (Int32.ofNat o), .ref d, .int (Int32.ofNat q), .int (Int32.ofNat len)] 7)) (T7.setTop (mkF m 3 #[.val (.ref b), .val (.int (Int32.ofNat (o + i) + 1)), .val (.ref d), .val (.int (Int32.ofNat (q + i) + 1)), .val (.int (Int32.ofNat len)), .val (.int (Int32.ofNat i + 1)), .val (.int (cv A (o + i)))] [])) := c8.trans (by
        refine iincV X7.here hexec rfl 1 (hb hbytes d32) (by decide) rfl rfl ?_
        refine iincV X7.here hexec rfl 1 (hb hbytes d35) (by decide) rfl rfl ?_
        refine iincV X7.here hexec rfl 1 (hb hbytes d38) (by decide) rfl rfl ?_
        refine XS.goto X7.here hexec rfl (pc0 := 41) rfl (hb hbytes d41) (by decide) rfl ?_
        exact Steps.refl _)
      have c10 : Steps p.tables e below (s₁.setTop (entryFrame m #[.ref b, .int (Int32.ofNat o), .ref d, .int (Int32.ofNat q), .int (Int32.ofNat len)] 7)) (T7.setTop (mkF m 3 #[.val (.ref b), .val (.int (Int32.ofNat (o + (i + 1)))), .val (.ref d), .val (.int (Int32.ofNat (q + (i + 1)))), .val (.int (Int32.ofNat len)), .val (.int (Int32.ofNat (i + 1))), .val (.int (cv A (o + i)))] [])) := by
        have := c9
        rw [succ32, succ32, succ32] at this
        exact this
      exact ih (i + 1) (by omega) _ (Or.inr ⟨_, rfl, rfl⟩) T7 _ (by rw [copyLocs_step, ← List.append_assoc]; exact X7) (pl.trans p7) (fl.step (by omega) hlt (by simp)) c10
  obtain ⟨T9, B9, z9, X9, p9, f9, g9⟩ := loop len 0 (by omega) .unset (Or.inl rfl) s₁ B (by simpa [copyLocs] using X0) ⟨hB0.1, fun _ _ => rfl, rfl⟩ (Laid.zero _ _ _) c2
  have c11 : Steps p.tables e below (s₁.setTop (entryFrame m #[.ref b, .int (Int32.ofNat o), .ref d, .int (Int32.ofNat q), .int (Int32.ofNat len)] 7)) (T9.setTop (mkF m 46 #[.val (.ref b), .val (.int (Int32.ofNat (o + len))), .val (.ref d), .val (.int (Int32.ofNat (q + len))), .val (.int (Int32.ofNat len)), .val (.int (Int32.ofNat len)), z9] [.int (Int32.ofNat len)])) := g9.trans (by
    refine XS.iload X9.here hexec rfl (hb hbytes d3) rfl ?_
    refine XS.iload X9.here hexec rfl (hb hbytes d5) rfl ?_
    refine XS.icmpYes X9.here hexec rfl (pc0 := 7) rfl (hb hbytes d7) rfl (ii_ge_t (nlt32 (by omega) (Nat.le_refl _))) (by decide) rfl ?_
    refine XS.iload X9.here hexec rfl (hb hbytes d44) rfl ?_
    exact Steps.refl _)
  exact ⟨T9, some (.int (Int32.ofNat len)), _, _, _, X9, by simp, rfl, rfl, (fun h => by cases h), ⟨rfl, B9, p9.from hh0, f9⟩, fun fs hl => c11.trans (X9.ireturnOut hexec hret rfl (Or.inl rfl) (hb hbytes d46) hl)⟩
end Cmp5
namespace Cmp3
def yN : MethodName := ⟨"java/lang/StringUTF16", "compress", "([CII)[B"⟩
abbrev yB : ByteArray := jdk_52_method_16_code
theorem d0 : decode yB 0 = .ok (.iload_n 2, 1) := by decide +kernel
theorem d1 : decode yB 1 = .ok (.newarray .byte, 2) := by decide +kernel
theorem d3 : decode yB 3 = .ok (.astore_n 3, 1) := by decide +kernel
theorem d4 : decode yB 4 = .ok (.aload_n 0, 1) := by decide +kernel
theorem d5 : decode yB 5 = .ok (.iload_n 1, 1) := by decide +kernel
theorem d6 : decode yB 6 = .ok (.aload_n 3, 1) := by decide +kernel
theorem d7 : decode yB 7 = .ok (.iconst 0, 1) := by decide +kernel
theorem d8 : decode yB 8 = .ok (.iload_n 2, 1) := by decide +kernel
theorem d9 : decode yB 9 = .ok (.invokestatic 115, 3) := by decide +kernel
theorem d12 : decode yB 12 = .ok (.istore 4, 2) := by decide +kernel
theorem d14 : decode yB 14 = .ok (.iload 4, 2) := by decide +kernel
theorem d16 : decode yB 16 = .ok (.iload_n 2, 1) := by decide +kernel
theorem d17 : decode yB 17 = .ok (.if_icmp (.eq) 40, 3) := by decide +kernel
theorem d57 : decode yB 57 = .ok (.aload_n 3, 1) := by decide +kernel
theorem d58 : decode yB 58 = .ok (.areturn, 1) := by decide +kernel
def site : List Cond := [.arrayClass .byte, Cmp5.tab] ++ staticW U16 115 Cmp5.yN
def tab : Cond := tabOf yN yB 6 (some (.array .byte)) site
def P (b : Addr) (A : Cell) (o len : Nat) (args : Array Value) (s : State) : Prop := args = #[.ref b, .int (Int32.ofNat o), .int (Int32.ofNat len)] ∧ Ch b A s ∧ o + len ≤ A.slots.size ∧ len ≤ 536870912 ∧ ∀ i, i < len → ¬ 255 < cv A (o + i)
def E (b : Addr) (A : Cell) (o len : Nat) (r : Option Value) (s u : State) : Prop := NewArr .byte "[B" len (fun j => .int (lo8 (cv A (o + j)))) r s u ∧ u.heap.size = s.heap.size + 1
/-- no char of the range above 255: a new byte[] of their low bytes -/
theorem law (l : Launch) (b : Addr) (A : Cell) (o len : Nat) : Law l yN 3 3 1 18 yB 6 (some (.array .byte)) site (P b A o len) (E b A o len) [] 1 len := by
  refine Law.of_walk (plainFor_of_name (by decide +kernel)) (by decide +kernel) (by decide +kernel) (by decide) (fun _ _ h => by rw [h.1]; rfl) (fun _ U U' hal hh h => ⟨h.1, h.2.1.mv hal hh, h.2.2⟩) (fun r U U' V V' h1 hal h2 h => ⟨NewArr.mv r U U' V V' h1 hal h2 h.1, by rw [h1, h2]; exact h.2⟩) ?_
  intro p e s m args below meth c s₁ X0 hexec hbytes hml hret hlk hnm hown hh0 W hP
  obtain ⟨rfl, hA, l1, l2, hp⟩ := hP
  have a31 := hA.1.2.2.2
  have c1 : Steps p.tables e below (s₁.setTop (entryFrame m #[.ref b, .int (Int32.ofNat o), .int (Int32.ofNat len)] 6)) (s₁.setTop (mkF m 0 #[.val (.ref b), .val (.int (Int32.ofNat o)), .val (.int (Int32.ofNat len)), .unset, .unset, .unset] [])) := entry rfl
  have c2 : Steps p.tables e below (s₁.setTop (entryFrame m #[.ref b, .int (Int32.ofNat o), .int (Int32.ofNat len)] 6)) (s₁.setTop (mkF m 1 #[.val (.ref b), .val (.int (Int32.ofNat o)), .val (.int (Int32.ofNat len)), .unset, .unset, .unset] [.int (Int32.ofNat len)])) := c1.trans (by
    refine XS.iloadN X0.here hexec rfl (hb hbytes d0) rfl ?_
    exact Steps.refl _)
  obtain ⟨T3, B3, X3, ba3, bs3, bv3, bh3, bf3, st3⟩ := X0.anew hexec (atype := .byte) (wk W (.arrayClass .byte)) rfl (by show len * 1 ≤ _; omega) (by omega) (g := (mkF m 1 #[.val (.ref b), .val (.int (Int32.ofNat o)), .val (.int (Int32.ofNat len)), .unset, .unset, .unset] [.int (Int32.ofNat len)])) rfl (hb hbytes d1) (rest := []) rfl (Nat.le_refl _) (by show 0 + len ≤ len; omega)
  rw [hh0] at ba3 st3
  have kp3 : XT.Kept s T3 := (XT.Kept.of_eq hh0).push bh3
  have hA3 := hA.keep X3.warmed.alike (kp3 _ _ hA.1.1)
  have hne : b ≠ s.heap.size := hA.1.ne
  have c4 : Steps p.tables e below (s₁.setTop (entryFrame m #[.ref b, .int (Int32.ofNat o), .int (Int32.ofNat len)] 6)) (T3.setTop (mkF m 3 #[.val (.ref b), .val (.int (Int32.ofNat o)), .val (.int (Int32.ofNat len)), .unset, .unset, .unset] [.ref s.heap.size])) := c2.trans (st3 _ (Steps.refl _))
  have c5 : Steps p.tables e below (s₁.setTop (entryFrame m #[.ref b, .int (Int32.ofNat o), .int (Int32.ofNat len)] 6)) (T3.setTop (mkF m 9 #[.val (.ref b), .val (.int (Int32.ofNat o)), .val (.int (Int32.ofNat len)), .val (.ref s.heap.size), .unset, .unset] [.int (Int32.ofNat len), .int 0, .ref s.heap.size, .int (Int32.ofNat o), .ref b])) := c4.trans (by
    refine XS.astoreN X3.here hexec rfl (hb hbytes d3) rfl rfl rfl ?_
    refine XS.aloadN X3.here hexec rfl (hb hbytes d4) rfl rfl ?_
    refine XS.iloadN X3.here hexec rfl (hb hbytes d5) rfl ?_
    refine XS.aloadN X3.here hexec rfl (hb hbytes d6) rfl rfl ?_
    refine iconstV X3.here hexec rfl 0 (hb hbytes d7) (by decide) ?_
    refine XS.iloadN X3.here hexec rfl (hb hbytes d8) rfl ?_
    exact Steps.refl _)
  obtain ⟨v6, T6, X6, E6, g6⟩ := X3.callS hexec (Cmp5.law l b A s.heap.size B3 o 0 len) hown (wks W (staticW U16 115 Cmp5.yN)) (wk W Cmp5.tab) (W := 0) (Nat.le_of_ble_eq_true rfl) (Nat.le_of_ble_eq_true rfl) (Nat.le_refl _) (by show 0 + len + 0 ≤ len; omega) (g := (mkF m 9 #[.val (.ref b), .val (.int (Int32.ofNat o)), .val (.int (Int32.ofNat len)), .val (.ref s.heap.size), .unset, .unset] [.int (Int32.ofNat len), .int (Int32.ofNat 0), .ref s.heap.size, .int (Int32.ofNat o), .ref b])) rfl (by rw [hml]; rfl) c5 (argsL := [.ref b, .int (Int32.ofNat o), .ref s.heap.size, .int (Int32.ofNat 0), .int (Int32.ofNat len)]) (rest := []) rfl rfl (by show 2 * 0 + 0 ≤ _; decide) (hb hbytes d9) (⟨rfl, hA3, ba3, hne, l1, by rw [bs3]; simp, hp⟩)
  obtain ⟨rfl, B6, p6, f6⟩ := E6
  have c7 : Steps p.tables e below (s₁.setTop (entryFrame m #[.ref b, .int (Int32.ofNat o), .int (Int32.ofNat len)] 6)) (T6.setTop (mkF m 12 #[.val (.ref b), .val (.int (Int32.ofNat o)), .val (.int (Int32.ofNat len)), .val (.ref s.heap.size), .unset, .unset] [.int (Int32.ofNat len)])) := g6
  have c8 : Steps p.tables e below (s₁.setTop (entryFrame m #[.ref b, .int (Int32.ofNat o), .int (Int32.ofNat len)] 6)) (T6.setTop (mkF m 58 #[.val (.ref b), .val (.int (Int32.ofNat o)), .val (.int (Int32.ofNat len)), .val (.ref s.heap.size), .val (.int (Int32.ofNat len)), .unset] [.ref s.heap.size])) := c7.trans (by
    refine XS.istore X6.here hexec rfl (hb hbytes d12) rfl rfl ?_
    refine XS.iload X6.here hexec rfl (hb hbytes d14) rfl ?_
    refine XS.iloadN X6.here hexec rfl (hb hbytes d16) rfl ?_
    refine XS.icmpYes X6.here hexec rfl (pc0 := 17) rfl (hb hbytes d17) rfl (ii_eq_t rfl) (by decide) rfl ?_
    refine XS.aloadN X6.here hexec rfl (hb hbytes d57) rfl rfl ?_
    exact Steps.refl _)
  have X8 := X6.wide (L' := []) (cells' := 1) (slots' := len) (fun x hx hlt => by
    simp only [List.nil_append, copyLocs, List.mem_map, List.mem_range] at hx
    obtain ⟨i, -, rfl⟩ := hx
    exact absurd hlt (Nat.lt_irrefl _)) (Nat.le_refl _) (by omega)
  exact ⟨T6, some (.ref s.heap.size), _, _, _, X8, rfl, rfl, rfl, (fun h => by cases h), ⟨⟨rfl, B6, ba3.like (X3.warmed.alike.symm.trans X6.warmed.alike) p6.1 f6.1 f6.2.1 f6.2.2.1, f6.2.1.trans bv3, by rw [X6.warmed.alike.findClass, f6.1]; exact bf3, by rw [f6.2.2.1, bs3]; simp, fun j hj => by rw [f6.2.2.2 j, if_pos (by omega)]; rfl, kp3.put p6 (Nat.le_refl _)⟩, by rw [p6.2.2, bh3, hh0]; simp⟩, fun fs hl => c8.trans (X8.areturnOut hexec rfl hret rfl (hb hbytes d58) hl)⟩
end Cmp3
namespace CodL
def yN : MethodName := ⟨"java/lang/StringUTF16", "coderFromArrayLen", "([BI)B"⟩
abbrev yB : ByteArray := jdk_52_method_15_code
theorem d0 : decode yB 0 = .ok (.iload_n 1, 1) := by decide +kernel
theorem d1 : decode yB 1 = .ok (.aload_n 0, 1) := by decide +kernel
theorem d2 : decode yB 2 = .ok (.arraylength, 1) := by decide +kernel
theorem d3 : decode yB 3 = .ok (.isub, 1) := by decide +kernel
theorem d4 : decode yB 4 = .ok (.bipush 31, 2) := by decide +kernel
theorem d6 : decode yB 6 = .ok (.iushr, 1) := by decide +kernel
theorem d7 : decode yB 7 = .ok (.i2b, 1) := by decide +kernel
theorem d8 : decode yB 8 = .ok (.ireturn, 1) := by decide +kernel
def site : List Cond := []
def tab : Cond := tabOf yN yB 2 (some .byte) site
def P (d : Addr) (B : Cell) (args : Array Value) (s : State) : Prop := args = #[.ref d, .int (Int32.ofNat B.slots.size)] ∧ Arr .byte d B s
def E (r : Option Value) (s u : State) : Prop := XT.PureE (some (.int 0)) r s u
/-- an array as long as the number of chars: LATIN1 -/
theorem law (l : Launch) (d : Addr) (B : Cell) : Law l yN 2 2 0 0 yB 2 (some .byte) site (P d B) E [] 0 0 := by
  refine Law.of_walk (plainFor_of_name (by decide +kernel)) (by decide +kernel) (by decide +kernel) (by decide) (fun _ _ h => by rw [h.1]; rfl) (fun _ U U' hal hh h => ⟨h.1, h.2.mv hal hh⟩) (fun r U U' V V' h1 hal h2 h => XT.PureE.mv r U U' V V' h1 hal h2 h) ?_
  intro p e s m args below meth c s₁ X0 hexec hbytes hml hret hlk hnm hown hh0 W hP
  obtain ⟨rfl, hB⟩ := hP
  have hB0 := hB.mv X0.warmed.alike hh0
  have c1 : Steps p.tables e below (s₁.setTop (entryFrame m #[.ref d, .int (Int32.ofNat B.slots.size)] 2)) (s₁.setTop (mkF m 0 #[.val (.ref d), .val (.int (Int32.ofNat B.slots.size))] [])) := entry rfl
  have c2 : Steps p.tables e below (s₁.setTop (entryFrame m #[.ref d, .int (Int32.ofNat B.slots.size)] 2)) (s₁.setTop (mkF m 2 #[.val (.ref d), .val (.int (Int32.ofNat B.slots.size))] [.ref d, .int (Int32.ofNat B.slots.size)])) := c1.trans (by
    refine XS.iloadN X0.here hexec rfl (hb hbytes d0) rfl ?_
    refine XS.aloadN X0.here hexec rfl (hb hbytes d1) rfl rfl ?_
    exact Steps.refl _)
  have c3 : Steps p.tables e below (s₁.setTop (entryFrame m #[.ref d, .int (Int32.ofNat B.slots.size)] 2)) (s₁.setTop (mkF m 8 #[.val (.ref d), .val (.int (Int32.ofNat B.slots.size))] [.int (lo8 (ushr (Int32.ofNat B.slots.size - Int32.ofNat B.slots.size) 31))])) := c2.trans (by
    refine X0.alen hexec hB0 rfl rfl (hb hbytes d2) ?_
    refine XS.isub X0.here hexec rfl (hb hbytes d3) rfl ?_
    refine bipushV X0.here hexec rfl 31 (hb hbytes d4) (by decide) ?_
    refine iushr X0.here hexec rfl (hb hbytes d6) rfl ?_
    refine i2b X0.here hexec rfl (hb hbytes d7) rfl ?_
    exact Steps.refl _)
  have e0 : lo8 (ushr (Int32.ofNat B.slots.size - Int32.ofNat B.slots.size) 31) = 0 := by rw [Int32.sub_self]; decide
  rw [e0] at c3
  exact ⟨s₁, some (.int 0), _, _, _, X0, rfl, rfl, rfl, (fun h => by cases h), ⟨rfl, hh0⟩, fun fs hl => c3.trans (X0.ireturnOut hexec hret rfl (Or.inr (Or.inr (Or.inl rfl))) (hb hbytes d8) hl)⟩
end CodL
/-- the String at a is Latin-1 over a new byte[] (the heap's one new cell): the low bytes of the len chars of A from o on; every cell but a is kept -/
def Got (a : Addr) (D : Cell) (fV fC : Field) (A : Cell) (o len : Nat) (r : Option Value) (s u : State) : Prop := r = none ∧ ∃ D' V : Cell, Blank "java/lang/String" a D' u ∧ Same D D' [fV.slot, fC.slot] ∧ D'.slots[fV.slot]? = some (.ref s.heap.size) ∧ D'.slots[fC.slot]? = some (.int 0) ∧ Arr .byte s.heap.size V u ∧ V.vm = .none ∧ u.vm.findClass "[B" = some V.cls ∧ V.slots.size = len ∧ (∀ j, j < len → V.slots[j]? = some (.int (lo8 (cv A (o + j))))) ∧ (∀ (y : Addr) (c : Cell), y ≠ a → s.heap[y]? = some c → u.heap[y]? = some c) ∧ u.heap.size = s.heap.size + 1
theorem Got.mv {a : Addr} {D A : Cell} {fV fC : Field} {o len : Nat} : ∀ r (U U' V V' : State), U'.heap = U.heap → V.vm.Alike V'.vm → V'.heap = V.heap → Got a D fV fC A o len r U V → Got a D fV fC A o len r U' V' :=
  fun r U U' V V' h1 hal h2 ⟨e0, D', X, a1, a2, a3, a4, a5, a6, a7, a8, a9, a10, a11⟩ => ⟨e0, D', X, a1.mv hal h2, a2, by rw [h1]; exact a3, a4, by rw [h1]; exact a5.mv hal h2, a6, by rw [hal.findClass]; exact a7, a8, a9, by rw [h1, h2]; exact a10, by rw [h1, h2]; exact a11⟩
namespace New4
def yN : MethodName := ⟨"java/lang/String", "<init>", "([CIILjava/lang/Void;)V"⟩
abbrev yB : ByteArray := jdk_42_method_149_code
theorem d0 : decode yB 0 = .ok (.aload_n 0, 1) := by decide +kernel
theorem d1 : decode yB 1 = .ok (.invokespecial 1, 3) := by decide +kernel
theorem d4 : decode yB 4 = .ok (.iload_n 3, 1) := by decide +kernel
theorem d5 : decode yB 5 = .ok (.ifCond (.ne) 22, 3) := by decide +kernel
theorem d27 : decode yB 27 = .ok (.getstatic 38, 3) := by decide +kernel
theorem d30 : decode yB 30 = .ok (.ifCond (.eq) 28, 3) := by decide +kernel
theorem d33 : decode yB 33 = .ok (.aload_n 1, 1) := by decide +kernel
theorem d34 : decode yB 34 = .ok (.iload_n 2, 1) := by decide +kernel
theorem d35 : decode yB 35 = .ok (.iload_n 3, 1) := by decide +kernel
theorem d36 : decode yB 36 = .ok (.invokestatic 177, 3) := by decide +kernel
theorem d39 : decode yB 39 = .ok (.astore 5, 2) := by decide +kernel
theorem d41 : decode yB 41 = .ok (.aload_n 0, 1) := by decide +kernel
theorem d42 : decode yB 42 = .ok (.aload 5, 2) := by decide +kernel
theorem d44 : decode yB 44 = .ok (.iload_n 3, 1) := by decide +kernel
theorem d45 : decode yB 45 = .ok (.invokestatic 47, 3) := by decide +kernel
theorem d48 : decode yB 48 = .ok (.putfield 15, 3) := by decide +kernel
theorem d51 : decode yB 51 = .ok (.aload_n 0, 1) := by decide +kernel
theorem d52 : decode yB 52 = .ok (.aload 5, 2) := by decide +kernel
theorem d54 : decode yB 54 = .ok (.putfield 9, 3) := by decide +kernel
theorem d57 : decode yB 57 = .ok (.return_, 1) := by decide +kernel
def site : List Cond := [.fieldLink "java/lang/String" 38 "java/lang/String" "COMPACT_STRINGS" "Z", Cmp3.tab, CodL.tab, .laysFinal "java/lang/String" "java/lang/String" "value" "[B", .fieldLink "java/lang/String" 9 "java/lang/String" "value" "[B", .laysFinal "java/lang/String" "java/lang/String" "coder" "B", .fieldLink "java/lang/String" 15 "java/lang/String" "coder" "B"] ++ objW "java/lang/String" 1 ++ staticW "java/lang/String" 177 Cmp3.yN ++ staticW "java/lang/String" 47 CodL.yN
def tab : Cond := tabOf yN yB 6 none site
def P (a : Addr) (D : Cell) (fV fC : Field) (b : Addr) (A : Cell) (z : Int32) (o len : Nat) (args : Array Value) (s : State) : Prop := args = #[.ref a, .ref b, .int (Int32.ofNat o), .int (Int32.ofNat len), .null] ∧ Blank "java/lang/String" a D s ∧ Found "java/lang/String" "value" "[B" fV s ∧ Found "java/lang/String" "coder" "B" fC s ∧ Ch b A s ∧ StaticIs s "java/lang/String" "COMPACT_STRINGS" "Z" (.int z) ∧ ¬ z = 0 ∧ 0 < len ∧ o + len ≤ A.slots.size ∧ len ≤ 536870912 ∧ ∀ i, i < len → ¬ 255 < cv A (o + i)
def E (a : Addr) (D : Cell) (fV fC : Field) (A : Cell) (o len : Nat) (r : Option Value) (s u : State) : Prop := Got a D fV fC A o len r s u
/-- len > 0, no char of the range above 255: a Latin-1 String of their low bytes -/
theorem law (l : Launch) (a : Addr) (D : Cell) (fV fC : Field) (b : Addr) (A : Cell) (z : Int32) (o len : Nat) : Law l yN 5 4 2 35 yB 6 none site (P a D fV fC b A z o len) (E a D fV fC A o len) [⟨a, fC.slot⟩, ⟨a, fV.slot⟩] 1 len := by
  refine Law.of_walk (plainFor_of_name (by decide +kernel)) (by decide +kernel) (by decide +kernel) (by decide) (fun _ _ h => by rw [h.1]; rfl) (fun _ U U' hal hh h => ⟨h.1, h.2.1.mv hal hh, h.2.2.1.al hal, h.2.2.2.1.al hal, h.2.2.2.2.1.mv hal hh, h.2.2.2.2.2.1.there hal hh, h.2.2.2.2.2.2⟩) (fun r U U' V V' h1 hal h2 h => Got.mv r U U' V V' h1 hal h2 h) ?_
  intro p e s m args below meth c s₁ X0 hexec hbytes hml hret hlk hnm hown hh0 W hP
  obtain ⟨rfl, hB, f1, f2, hA, s1, hz, l0, l1, l2, hp⟩ := hP
  have a31 := hA.1.2.2.2
  have c1 : Steps p.tables e below (s₁.setTop (entryFrame m #[.ref a, .ref b, .int (Int32.ofNat o), .int (Int32.ofNat len), .null] 6)) (s₁.setTop (mkF m 0 #[.val (.ref a), .val (.ref b), .val (.int (Int32.ofNat o)), .val (.int (Int32.ofNat len)), .val .null, .unset] [])) := entry rfl
  have c2 : Steps p.tables e below (s₁.setTop (entryFrame m #[.ref a, .ref b, .int (Int32.ofNat o), .int (Int32.ofNat len), .null] 6)) (s₁.setTop (mkF m 1 #[.val (.ref a), .val (.ref b), .val (.int (Int32.ofNat o)), .val (.int (Int32.ofNat len)), .val .null, .unset] [.ref a])) := c1.trans (by
    refine XS.aloadN X0.here hexec rfl (hb hbytes d0) rfl rfl ?_
    exact Steps.refl _)
  obtain ⟨T3, X3, q3, st3⟩ := X0.oinit hexec hown (wks W (objW "java/lang/String" 1)) (g := (mkF m 1 #[.val (.ref a), .val (.ref b), .val (.int (Int32.ofNat o)), .val (.int (Int32.ofNat len)), .val .null, .unset] [.ref a])) rfl (by rw [hml]; rfl) (rest := []) rfl (hb hbytes d1) (W := 0) (by show 2 * 0 + 0 ≤ _; decide) (Nat.le_of_ble_eq_true rfl) (Nat.le_of_ble_eq_true rfl)
  have hh3 := q3.trans hh0
  have c4 : Steps p.tables e below (s₁.setTop (entryFrame m #[.ref a, .ref b, .int (Int32.ofNat o), .int (Int32.ofNat len), .null] 6)) (T3.setTop (mkF m 27 #[.val (.ref a), .val (.ref b), .val (.int (Int32.ofNat o)), .val (.int (Int32.ofNat len)), .val .null, .unset] [])) := (c2.trans (st3 _ (Steps.refl _))).trans (by
    refine XS.iloadN X3.here hexec rfl (hb hbytes d4) rfl ?_
    refine XS.ifYes X3.here hexec rfl (pc0 := 5) rfl (hb hbytes d5) rfl (i0_ne_t (nz32 (by omega) l0)) (by decide) rfl ?_
    exact Steps.refl _)
  obtain ⟨T5, X5, q5, st5⟩ := X3.sget hexec hown (wk W (.fieldLink "java/lang/String" 38 "java/lang/String" "COMPACT_STRINGS" "Z")) s1 (fun _ _ h => by rw [hh3]; exact h) (g := (mkF m 27 #[.val (.ref a), .val (.ref b), .val (.int (Int32.ofNat o)), .val (.int (Int32.ofNat len)), .val .null, .unset] [])) rfl (hb hbytes d27)
  have hh5 := q5.trans hh3
  have c6 : Steps p.tables e below (s₁.setTop (entryFrame m #[.ref a, .ref b, .int (Int32.ofNat o), .int (Int32.ofNat len), .null] 6)) (T5.setTop (mkF m 30 #[.val (.ref a), .val (.ref b), .val (.int (Int32.ofNat o)), .val (.int (Int32.ofNat len)), .val .null, .unset] [.int z])) := c4.trans (st5 _ (Steps.refl _))
  have c7 : Steps p.tables e below (s₁.setTop (entryFrame m #[.ref a, .ref b, .int (Int32.ofNat o), .int (Int32.ofNat len), .null] 6)) (T5.setTop (mkF m 36 #[.val (.ref a), .val (.ref b), .val (.int (Int32.ofNat o)), .val (.int (Int32.ofNat len)), .val .null, .unset] [.int (Int32.ofNat len), .int (Int32.ofNat o), .ref b])) := c6.trans (by
    refine XS.ifNo X5.here hexec rfl (hb hbytes d30) rfl (i0_eq_f hz) ?_
    refine XS.aloadN X5.here hexec rfl (hb hbytes d33) rfl rfl ?_
    refine XS.iloadN X5.here hexec rfl (hb hbytes d34) rfl ?_
    refine XS.iloadN X5.here hexec rfl (hb hbytes d35) rfl ?_
    exact Steps.refl _)
  obtain ⟨v8, T8, X8, E8, g8⟩ := X5.callS hexec (Cmp3.law l b A o len) hown (wks W (staticW "java/lang/String" 177 Cmp3.yN)) (wk W Cmp3.tab) (W := 0) (Nat.le_of_ble_eq_true rfl) (Nat.le_of_ble_eq_true rfl) (Nat.le_refl _) (by show 0 + len ≤ len; omega) (g := (mkF m 36 #[.val (.ref a), .val (.ref b), .val (.int (Int32.ofNat o)), .val (.int (Int32.ofNat len)), .val .null, .unset] [.int (Int32.ofNat len), .int (Int32.ofNat o), .ref b])) rfl (by rw [hml]; rfl) c7 (argsL := [.ref b, .int (Int32.ofNat o), .int (Int32.ofNat len)]) (rest := []) rfl rfl (by show 2 * 0 + 0 ≤ _; decide) (hb hbytes d36) (⟨rfl, hA.mv X5.warmed.alike hh5, l1, l2, hp⟩)
  obtain ⟨e8, z8⟩ := E8
  obtain ⟨rfl, N, n1, n2, n3, n4, n5, n6⟩ := NewArr.mv _ T5 s _ _ hh5.symm (Vm.Alike.refl _) rfl e8
  rw [hh5] at z8
  have hB1 := hB.keep X8.warmed.alike (n6 _ _ hB.1)
  have hne : s.heap.size ≠ a := (Nat.ne_of_lt (Array.getElem?_eq_some_iff.mp hB.1).1).symm
  have c9 : Steps p.tables e below (s₁.setTop (entryFrame m #[.ref a, .ref b, .int (Int32.ofNat o), .int (Int32.ofNat len), .null] 6)) (T8.setTop (mkF m 39 #[.val (.ref a), .val (.ref b), .val (.int (Int32.ofNat o)), .val (.int (Int32.ofNat len)), .val .null, .unset] [.ref s.heap.size])) := g8
  have c10 : Steps p.tables e below (s₁.setTop (entryFrame m #[.ref a, .ref b, .int (Int32.ofNat o), .int (Int32.ofNat len), .null] 6)) (T8.setTop (mkF m 45 #[.val (.ref a), .val (.ref b), .val (.int (Int32.ofNat o)), .val (.int (Int32.ofNat len)), .val .null, .val (.ref s.heap.size)] [.int (Int32.ofNat N.slots.size), .ref s.heap.size, .ref a])) := by
    have hc : Steps p.tables e below (s₁.setTop (entryFrame m #[.ref a, .ref b, .int (Int32.ofNat o), .int (Int32.ofNat len), .null] 6)) (T8.setTop (mkF m 45 #[.val (.ref a), .val (.ref b), .val (.int (Int32.ofNat o)), .val (.int (Int32.ofNat len)), .val .null, .val (.ref s.heap.size)] [.int (Int32.ofNat len), .ref s.heap.size, .ref a])) := c9.trans (by
      refine XS.astore X8.here hexec rfl (hb hbytes d39) rfl rfl rfl ?_
      refine XS.aloadN X8.here hexec rfl (hb hbytes d41) rfl rfl ?_
      refine XS.aload X8.here hexec rfl (hb hbytes d42) rfl rfl ?_
      refine XS.iloadN X8.here hexec rfl (hb hbytes d44) rfl ?_
      exact Steps.refl _)
    rw [n4]; exact hc
  obtain ⟨v11, T11, X11, E11, g11⟩ := X8.callS hexec (CodL.law l s.heap.size N) hown (wks W (staticW "java/lang/String" 47 CodL.yN)) (wk W CodL.tab) (W := 1) (Nat.le_of_ble_eq_true rfl) (Nat.le_of_ble_eq_true rfl) (Nat.le_refl _) (by show 0 + len + 0 ≤ len; omega) (g := (mkF m 45 #[.val (.ref a), .val (.ref b), .val (.int (Int32.ofNat o)), .val (.int (Int32.ofNat len)), .val .null, .val (.ref s.heap.size)] [.int (Int32.ofNat N.slots.size), .ref s.heap.size, .ref a])) rfl (by rw [hml]; rfl) c10 (argsL := [.ref s.heap.size, .int (Int32.ofNat N.slots.size)]) (rest := [.ref a]) rfl rfl (by show 2 * 0 + (1 + 0) ≤ _; decide) (hb hbytes d45) (⟨rfl, n1⟩)
  obtain ⟨rfl, q11⟩ := E11
  have hB11 := hB1.mv (X8.warmed.alike.symm.trans X11.warmed.alike) q11
  have c12 : Steps p.tables e below (s₁.setTop (entryFrame m #[.ref a, .ref b, .int (Int32.ofNat o), .int (Int32.ofNat len), .null] 6)) (T11.setTop (mkF m 48 #[.val (.ref a), .val (.ref b), .val (.int (Int32.ofNat o)), .val (.int (Int32.ofNat len)), .val .null, .val (.ref s.heap.size)] [.int 0, .ref a])) := g11
  obtain ⟨T13, X13, p13, bl13, sl13, st13⟩ := X11.finit hexec hown (wk W (.fieldLink "java/lang/String" 15 "java/lang/String" "coder" "B")) (Or.inr ⟨_, (wk W (.laysFinal "java/lang/String" "java/lang/String" "coder" "B"))⟩) (Or.inl ⟨rfl, hnm⟩) f2 (Or.inl rfl) hB11 (t := .byte) (by decide +kernel) rfl (g := (mkF m 48 #[.val (.ref a), .val (.ref b), .val (.int (Int32.ofNat o)), .val (.int (Int32.ofNat len)), .val .null, .val (.ref s.heap.size)] [.int 0, .ref a])) rfl (rest := []) rfl (hb hbytes d48)
  have c14 : Steps p.tables e below (s₁.setTop (entryFrame m #[.ref a, .ref b, .int (Int32.ofNat o), .int (Int32.ofNat len), .null] 6)) (T13.setTop (mkF m 54 #[.val (.ref a), .val (.ref b), .val (.int (Int32.ofNat o)), .val (.int (Int32.ofNat len)), .val .null, .val (.ref s.heap.size)] [.ref s.heap.size, .ref a])) := (c12.trans (st13 _ (Steps.refl _))).trans (by
    refine XS.aloadN X13.here hexec rfl (hb hbytes d51) rfl rfl ?_
    refine XS.aload X13.here hexec rfl (hb hbytes d52) rfl rfl ?_
    exact Steps.refl _)
  obtain ⟨T15, X15, p15, bl15, sl15, st15⟩ := X13.finit hexec hown (wk W (.fieldLink "java/lang/String" 9 "java/lang/String" "value" "[B")) (Or.inr ⟨_, (wk W (.laysFinal "java/lang/String" "java/lang/String" "value" "[B"))⟩) (Or.inl ⟨rfl, hnm⟩) f1 (Or.inl rfl) bl13 (t := (.array .byte)) (by decide +kernel) rfl (g := (mkF m 54 #[.val (.ref a), .val (.ref b), .val (.int (Int32.ofNat o)), .val (.int (Int32.ofNat len)), .val .null, .val (.ref s.heap.size)] [.ref s.heap.size, .ref a])) rfl (rest := []) rfl (hb hbytes d54)
  have c16 : Steps p.tables e below (s₁.setTop (entryFrame m #[.ref a, .ref b, .int (Int32.ofNat o), .int (Int32.ofNat len), .null] 6)) (T15.setTop (mkF m 57 #[.val (.ref a), .val (.ref b), .val (.int (Int32.ofNat o)), .val (.int (Int32.ofNat len)), .val .null, .val (.ref s.heap.size)] [])) := c14.trans (st15 _ (Steps.refl _))
  have ap := apart (Or.inr ⟨_, (wk W (.laysFinal "java/lang/String" "java/lang/String" "value" "[B"))⟩) (Or.inr ⟨_, (wk W (.laysFinal "java/lang/String" "java/lang/String" "coder" "B"))⟩) f1 f2 (t₁ := .array .byte) (t₂ := .byte) (by decide +kernel) (by decide +kernel) (by decide)
  have al := X8.warmed.alike.symm.trans X15.warmed.alike
  have n7 : T11.heap[s.heap.size]? = some N := by rw [q11]; exact n1.1
  exact ⟨T15, none, _, _, _, X15, by simp, rfl, by omega, (fun _ => rfl), ⟨rfl, _, N, bl15, ((Same.refl D _).set _ (by simp)).set _ (by simp), sl15, (Cell.slots_setSlot_ne _ ap).trans sl13, n1.keep al (p15.other hne (p13.other hne n7)), n2, by rw [al.findClass]; exact n3, n4, n5, fun y c h1 h2 => p15.other h1 (p13.other h1 (by rw [q11]; exact n6 y c h2)), by rw [p15.2.2, p13.2.2, q11]; exact z8⟩, fun fs hl => c16.trans (X15.returnOut hexec hret (hb hbytes d57) hl)⟩
end New4
namespace New1
def yN : MethodName := ⟨"java/lang/String", "<init>", "([C)V"⟩
abbrev yB : ByteArray := jdk_42_method_3_code
theorem d0 : decode yB 0 = .ok (.aload_n 0, 1) := by decide +kernel
theorem d1 : decode yB 1 = .ok (.aload_n 1, 1) := by decide +kernel
theorem d2 : decode yB 2 = .ok (.iconst 0, 1) := by decide +kernel
theorem d3 : decode yB 3 = .ok (.aload_n 1, 1) := by decide +kernel
theorem d4 : decode yB 4 = .ok (.arraylength, 1) := by decide +kernel
theorem d5 : decode yB 5 = .ok (.aconst_null, 1) := by decide +kernel
theorem d6 : decode yB 6 = .ok (.invokespecial 27, 3) := by decide +kernel
theorem d9 : decode yB 9 = .ok (.return_, 1) := by decide +kernel
def site : List Cond := [New4.tab] ++ initW "java/lang/String" 27 New4.yN
def tab : Cond := tabOf yN yB 2 none site
def P (a : Addr) (D : Cell) (fV fC : Field) (b : Addr) (A : Cell) (z : Int32) (args : Array Value) (s : State) : Prop := args = #[.ref a, .ref b] ∧ Blank "java/lang/String" a D s ∧ Found "java/lang/String" "value" "[B" fV s ∧ Found "java/lang/String" "coder" "B" fC s ∧ Ch b A s ∧ StaticIs s "java/lang/String" "COMPACT_STRINGS" "Z" (.int z) ∧ ¬ z = 0 ∧ 0 < A.slots.size ∧ A.slots.size ≤ 536870912 ∧ ∀ i, i < A.slots.size → ¬ 255 < cv A i
def E (a : Addr) (D : Cell) (fV fC : Field) (A : Cell) (r : Option Value) (s u : State) : Prop := Got a D fV fC A 0 A.slots.size r s u
/-- new String(chars), not empty, no char above 255: a Latin-1 String of their low bytes -/
theorem law (l : Launch) (a : Addr) (D : Cell) (fV fC : Field) (b : Addr) (A : Cell) (z : Int32) : Law l yN 2 1 3 52 yB 2 none site (P a D fV fC b A z) (E a D fV fC A) [⟨a, fC.slot⟩, ⟨a, fV.slot⟩] 1 A.slots.size := by
  refine Law.of_walk (plainFor_of_name (by decide +kernel)) (by decide +kernel) (by decide +kernel) (by decide) (fun _ _ h => by rw [h.1]; rfl) (fun _ U U' hal hh h => ⟨h.1, h.2.1.mv hal hh, h.2.2.1.al hal, h.2.2.2.1.al hal, h.2.2.2.2.1.mv hal hh, h.2.2.2.2.2.1.there hal hh, h.2.2.2.2.2.2⟩) (fun r U U' V V' h1 hal h2 h => Got.mv r U U' V V' h1 hal h2 h) ?_
  intro p e s m args below meth c s₁ X0 hexec hbytes hml hret hlk hnm hown hh0 W hP
  obtain ⟨rfl, hB, f1, f2, hA, s1, hz, l0, l2, hp⟩ := hP
  have c1 : Steps p.tables e below (s₁.setTop (entryFrame m #[.ref a, .ref b] 2)) (s₁.setTop (mkF m 0 #[.val (.ref a), .val (.ref b)] [])) := entry rfl
  have c2 : Steps p.tables e below (s₁.setTop (entryFrame m #[.ref a, .ref b] 2)) (s₁.setTop (mkF m 6 #[.val (.ref a), .val (.ref b)] [.null, .int (Int32.ofNat A.slots.size), .int 0, .ref b, .ref a])) := c1.trans (by
    refine XS.aloadN X0.here hexec rfl (hb hbytes d0) rfl rfl ?_
    refine XS.aloadN X0.here hexec rfl (hb hbytes d1) rfl rfl ?_
    refine iconstV X0.here hexec rfl 0 (hb hbytes d2) (by decide) ?_
    refine XS.aloadN X0.here hexec rfl (hb hbytes d3) rfl rfl ?_
    refine X0.alen hexec (hA.1.mv X0.warmed.alike hh0) rfl rfl (hb hbytes d4) ?_
    refine XS.aconstNull X0.here hexec rfl (hb hbytes d5) ?_
    exact Steps.refl _)
  obtain ⟨v3, T3, X3, E3, g3⟩ := X0.callN hexec (New4.law l a D fV fC b A z 0 A.slots.size) rfl hown (wks W (initW "java/lang/String" 27 New4.yN)) (W New4.tab (by simp only [site, List.mem_cons, List.mem_append, true_or, or_true])) (W := 0) (Nat.le_of_ble_eq_true rfl) (Nat.le_of_ble_eq_true rfl) (Nat.le_refl _) (by show 0 + A.slots.size ≤ A.slots.size; omega) (g := (mkF m 6 #[.val (.ref a), .val (.ref b)] [.null, .int (Int32.ofNat A.slots.size), .int (Int32.ofNat 0), .ref b, .ref a])) rfl (by rw [hml]; rfl) c2 (argsL := [.ref b, .int (Int32.ofNat 0), .int (Int32.ofNat A.slots.size), .null]) (rest := []) rfl rfl (by show 2 * 0 + 0 ≤ _; decide) (hb hbytes d6) (⟨rfl, hB.mv X0.warmed.alike hh0, f1.al X0.warmed.alike, f2.al X0.warmed.alike, hA.mv X0.warmed.alike hh0, s1.there X0.warmed.alike hh0, hz, l0, by omega, l2, fun i hi => by rw [Nat.zero_add]; exact hp i hi⟩)
  have e0 := Got.mv _ s₁ s _ _ hh0.symm (Vm.Alike.refl _) rfl E3
  obtain rfl := e0.1
  have c4 : Steps p.tables e below (s₁.setTop (entryFrame m #[.ref a, .ref b] 2)) (T3.setTop (mkF m 9 #[.val (.ref a), .val (.ref b)] [])) := g3
  exact ⟨T3, none, _, _, _, X3, by simp, rfl, by omega, (fun _ => rfl), e0, fun fs hl => c4.trans (X3.returnOut hexec hret (hb hbytes d9) hl)⟩
theorem pays {l : Launch} {R : Room} {p : Program} {e : Env} {below : List Frame} {s : State} {sargs : Array Value} {len W : Nat} (a : Addr) (D : Cell) (fV fC : Field) (b : Addr) (A : Cell) (z : Int32) (htab : tab.before sargs s = true) (hfr : 4 ≤ R.frames) (hlo : W + 65 ≤ R.locals) :
    Back l R p e below s sargs yN len W (fun A₁ a₁ => A₁.cells + 1 ≤ R.cells ∧ A₁.slots + A.slots.size ≤ R.slots ∧ P a D fV fC b A z a₁ A₁.U) (fun A₁ _ v₁ B₁ => E a D fV fC A v₁ A₁.U B₁.U ∧ B₁.locs = A₁.locs ++ [⟨a, fC.slot⟩, ⟨a, fV.slot⟩] ∧ B₁.cells = A₁.cells + 1 ∧ B₁.slots = A₁.slots + A.slots.size) :=
  (law l a D fV fC b A z).pays htab hfr (by omega)
end New1
/-- the byte, read back as charAt reads it, is the char -/
theorem lo8_mask {x : Int32} (h0 : ¬ x < 0) (h1 : ¬ 255 < x) : lo8 x &&& 255 = x := by
  have t : ∀ k : Fin 256, lo8 (Int32.ofNat k.val) &&& 255 = Int32.ofNat k.val := by decide +kernel
  rw [Int32.lt_iff_toInt_lt] at h0 h1
  have e0 : (0 : Int32).toInt = 0 := rfl
  have e1 : (255 : Int32).toInt = 255 := rfl
  obtain ⟨k, hk⟩ : ∃ k : Nat, x.toInt = k := ⟨x.toInt.toNat, by omega⟩
  have hx : x = Int32.ofNat k := Int32.toInt_inj.mp (by rw [hk, Int32.toInt_ofNat_small (by omega)])
  rw [hx]
  exact t ⟨k, by omega⟩
end StrChars
namespace StrChars.Road
open Jvm Sem ClassFile Op Lib Jvm.Stand Jvm.Free Jvm.Free.XT
open Jvm.Lib.Cold (StaticIs)
abbrev ST : String := "java/lang/String"
/-- every table word that New1's law asks, flat -/
abbrev words : List Jvm.Cond := [.code New1.yN New1.yB 2 none, .initialized ST, .methodLink ST 27 New4.yN, .instanceMethod New4.yN,
  .code New4.yN New4.yB 6 none, .fieldLink ST 38 ST "COMPACT_STRINGS" "Z", .laysFinal ST ST "value" "[B", .fieldLink ST 9 ST "value" "[B", .laysFinal ST ST "coder" "B", .fieldLink ST 15 ST "coder" "B",
  .methodLink ST 1 Lib.objectInit, .instanceMethod Lib.objectInit, .code Lib.objectInit ⟨#[0xb1]⟩ 1 none, .methodLink ST 177 Cmp3.yN, .static Cmp3.yN, .methodLink ST 47 CodL.yN, .static CodL.yN,
  .code Cmp3.yN Cmp3.yB 6 (some (.array .byte)), .initialized U16, .arrayClass .byte, .methodLink U16 115 Cmp5.yN, .static Cmp5.yN, .code Cmp5.yN Cmp5.yB 7 (some .int), .code CodL.yN CodL.yB 2 (some .byte)]
theorem tab_of {a : Array Value} {s : State} (h : ∀ w ∈ words, w.before a s = true) : New1.tab.before a s = true := by
  have h5 : Cmp5.tab.before a s = true := unparts (wk h (.code Cmp5.yN Cmp5.yB 7 (some .int))) (wks h (.initialized Cmp5.yN.cls :: Cmp5.site))
  have hc : CodL.tab.before a s = true := unparts (wk h (.code CodL.yN CodL.yB 2 (some .byte))) (wks h (.initialized CodL.yN.cls :: CodL.site))
  have q5 : ∀ w ∈ Cmp5.tab :: words, w.before a s = true := fun w hw => (List.mem_cons.mp hw).elim (fun e => e ▸ h5) (h w)
  have h3 : Cmp3.tab.before a s = true := unparts (wk q5 (.code Cmp3.yN Cmp3.yB 6 (some (.array .byte)))) (wks q5 (.initialized Cmp3.yN.cls :: Cmp3.site))
  have q3 : ∀ w ∈ Cmp3.tab :: CodL.tab :: words, w.before a s = true := fun w hw => (List.mem_cons.mp hw).elim (fun e => e ▸ h3) fun hw => (List.mem_cons.mp hw).elim (fun e => e ▸ hc) (h w)
  have h4 : New4.tab.before a s = true := unparts (wk q3 (.code New4.yN New4.yB 6 none)) (wks q3 (.initialized New4.yN.cls :: New4.site))
  have q4 : ∀ w ∈ New4.tab :: words, w.before a s = true := fun w hw => (List.mem_cons.mp hw).elim (fun e => e ▸ h4) (h w)
  exact unparts (wk q4 (.code New1.yN New1.yB 2 none)) (wks q4 (.initialized New1.yN.cls :: New1.site))
/-- the words ride from the start Z to the walk's own state -/
theorem moved {Z s : State} {a0 args : Array Value} (hZ : Z.Warmed39 s.vm) (hw : ∀ d ∈ words, d.before a0 Z = true) : ∀ d ∈ words, d.before args s = true := fun d hd => by
  have q := hw d hd
  have t : ∀ d ∈ words, d = .arrayClass .byte ∨ (d.onTables && d.keepsFace) = true := by decide +kernel
  rcases t d hd with rfl | t
  · exact RoadKit.mvA hZ q
  · exact RoadKit.mv hZ q t
/-- WHAT COMES BACK, over the tables of the start Z: h the heap at the call, h' behind it -/
def Q (Z : State) (x : Addr) (A : Cell) (h : Heap) (v : Option Value) (h' : Heap) (L : List Loc) : Prop := v = none ∧ (∀ y ∈ L, y.base = x) ∧ RoadKit.Keep h h' [x] ∧ h'.size = h.size + 1 ∧ RoadKit.Exa Z h' x ST ∧ RoadKit.Fld Z h' x ST "value" "[B" (.ref h.size) ∧ RoadKit.Fld Z h' x ST "coder" "B" (.int 0) ∧
  (∃ V : Cell, RoadKit.Arr Z h' h.size V .byte ∧ V.vm = .none ∧ Z.vm.findClass "[B" = some V.cls ∧ V.slots.size = A.slots.size ∧ ∀ j, j < A.slots.size → V.slots[j]? = some (.int (lo8 (cv A j)))) ∧
  ∀ (O n d : String) (w : Value), RoadKit.Fld Z h x O n d w → RoadKit.slotOf Z O n d ≠ RoadKit.slotOf Z ST "value" "[B" → RoadKit.slotOf Z O n d ≠ RoadKit.slotOf Z ST "coder" "B" → RoadKit.Fld Z h' x O n d w
/-- **new String(chars) AT A CALL, IN THE ROAD'S FORM**: for specialBack behind newO: x the fresh String, b the char[] with the cell A -/
theorem back {p : Program} {l : Launch} {e : Env} {R : Room} {s : State} {args : Array Value} {below : List Frame} {len W : Nat} {Z : State} {a0 : Array Value} {h : Heap} (hZ : Z.Warmed39 s.vm) (hw : ∀ d ∈ words, d.before a0 Z = true) {kI : Nat} (wi : (Jvm.Cond.instantiable ST kI).before a0 Z = true)
    {x b : Addr} {A : Cell} {z : Int32} {v0 c0 : Value} (E : RoadKit.Exa Z h x ST) (V : RoadKit.Fld Z h x ST "value" "[B" v0) (C : RoadKit.Fld Z h x ST "coder" "B" c0) (K : RoadKit.Arr Z h b A .char) (hty : Typed .char A) (S : RoadKit.Sta Z h ST "COMPACT_STRINGS" "Z" (.int z)) (hz : ¬ z = 0)
    (l0 : 0 < A.slots.size) (l2 : A.slots.size ≤ 536870912) (hp : ∀ i, i < A.slots.size → ¬ 255 < cv A i) (hfr : 4 ≤ R.frames) (hlo : W + 65 ≤ R.locals) :
    Back l R p e below s args New1.yN len W (fun P a => a = #[.ref x, .ref b] ∧ P.U.heap = h ∧ P.cells + 1 ≤ R.cells ∧ P.slots + A.slots.size ≤ R.slots)
      (fun P _ v B => ∃ L, Q Z x A h v B.U.heap L ∧ B.locs = P.locs ++ L ∧ B.cells = P.cells + 1 ∧ B.slots = P.slots + A.slots.size) := by
  intro m meth c P g ig mk a X hg hsize hdg hW hn hp'
  obtain ⟨rfl, rfl, r1, r2⟩ := hp'
  have al : Z.vm.Alike P.U.vm := hZ.alike.trans X.warmed.alike
  obtain ⟨D, cfV, kV, iV, fV, hD, gV, stV, knV, obV, asV, slV⟩ := id V
  obtain ⟨D', cfC, kC, iC, fC, hD', gC, stC, -, -, asC, slC⟩ := id C
  cases hD.symm.trans hD'
  obtain ⟨D2, kD, e1, e2, e3, e4, e5⟩ := id E
  cases hD.symm.trans e1
  obtain ⟨c2, k2, i1, i2, i3, -⟩ := Cond.instantiable_spec wi
  cases e2.symm.trans i1
  cases e3.symm.trans i2
  obtain ⟨kU, u1, u2⟩ := al.2.2 _ _ e3
  have hB : Blank ST x D P.U := ⟨hD, ⟨knV, fun q hq => by rw [hq] at obV; cases obV⟩, by rw [al.findClass]; exact e2, kU, u1, by rw [u2]; exact i3, by rw [u2]; exact e5 i3⟩
  have F1 : Found ST "value" "[B" fV P.U := ⟨SBG.found_only al ⟨cfV, kV, iV, gV⟩, stV⟩
  have F2 : Found ST "coder" "B" fC P.U := ⟨SBG.found_only al ⟨cfC, kC, iC, gC⟩, stC⟩
  have hA : Ch b A P.U := ⟨⟨K.1, State.isArrayOf_alike al K.2.1, K.2.2, by omega⟩, hty⟩
  have hS : StaticIs P.U ST "COMPACT_STRINGS" "Z" (.int z) := by
    obtain ⟨cfS, iS, kS, fS, st, cS, t1, t2, t3, t4, t5, t6, t7⟩ := S
    exact StaticIs.there (s := { Z with heap := P.U.heap }) ⟨cfS, iS, kS, fS, st, cS, t1, t2, t3, t4, t5, (fun q => by rw [q] at t6; cases t6), t7⟩ al rfl
  obtain ⟨v, B, X', ⟨⟨hv, E', V', q1, q2, q3, q4, q5, q6, q7, q8, q9, q10, q11⟩, hl, hc, hs⟩, st⟩ := New1.pays x D fV fC b A z (tab_of (moved hZ hw)) hfr hlo m meth c P g ig mk _ X hg hsize hdg hW hn ⟨r1, r2, rfl, hB, F1, F2, hA, hS, hz, l0, l2, hp⟩
  have al' : Z.vm.Alike B.U.vm := hZ.alike.trans X'.warmed.alike
  have hsz : E'.slots.size = D.slots.size := by
    obtain ⟨-, -, -, kB, w1, w2, w3⟩ := q1
    obtain ⟨kB', y1, y2⟩ := al'.2.2 _ _ e3
    rw [q2.2.1] at w1
    cases w1.symm.trans y1
    rw [w3, e5 i3, y2]
  refine ⟨v, B, X', ⟨_, ⟨hv, ?_, ⟨by omega, fun y cy hy hn' => q10 y cy (by simpa using hn') hy, fun y cy hy => ?_⟩, q11, ⟨E', _, q1.1, by rw [q2.2.1]; exact e2, by rw [q2.2.1]; exact e3, by rw [q2.1]; exact obV, fun _ => by rw [hsz]; exact e5 i3⟩,
    ⟨E', cfV, kV, iV, fV, q1.1, gV, stV, by rw [q2.1]; exact knV, by rw [q2.1]; exact obV, by rw [q2.2.1]; exact asV, q3⟩, ⟨E', cfC, kC, iC, fC, q1.1, gC, stC, by rw [q2.1]; exact knV, by rw [q2.1]; exact obV, by rw [q2.2.1]; exact asC, q4⟩,
    ⟨V', ⟨q5.1, State.isArrayOf_alike al'.symm q5.2.1, q5.2.2.1⟩, q6, by rw [← al'.findClass]; exact q7, q8, fun j hj => by have := q9 j hj; rwa [Nat.zero_add] at this⟩, fun O n d w F n1 n2 => ?_⟩, hl, hc, hs⟩, st⟩
  · intro y hy
    simp only [List.mem_cons, List.not_mem_nil, or_false] at hy
    rcases hy with rfl | rfl <;> rfl
  · by_cases q : y = x
    · subst q
      cases hD.symm.trans hy
      exact ⟨E', q1.1, q2.2.1, q2.1, hsz⟩
    · exact ⟨cy, q10 y cy q hy, rfl, rfl, rfl⟩
  · obtain ⟨D3, cf, k, i, f, g1, g2, g3, g4, g5, g6, g7⟩ := F
    cases hD.symm.trans g1
    simp only [RoadKit.slotOf, g2, gV, gC, Option.map_some, Option.getD_some] at n1 n2
    exact ⟨E', cf, k, i, f, q1.1, g2, g3, by rw [q2.1]; exact g4, by rw [q2.1]; exact g5, by rw [q2.2.1]; exact g6, by rw [q2.2.2 f.slot (by simp [n1, n2])]; exact g7⟩
end StrChars.Road
namespace StrChars.Road
open Jvm Sem ClassFile Op Lib Jvm.Stand Jvm.Free Jvm.Free.XT
/-- WHAT COMES BACK, the byte[] as a list of values -/
def QA (Z : State) (x : Addr) (zn : Int32) (cs : List Int32) (h : Heap) (v : Option Value) (h' : Heap) (L : List Loc) : Prop := v = none ∧ (∀ y ∈ L, y.base = x) ∧ RoadKit.Keep h h' [x] ∧ h'.size = h.size + 1 ∧ RoadKit.Exa Z h' x ST ∧ RoadKit.Fld Z h' x ST "value" "[B" (.ref h.size) ∧ RoadKit.Fld Z h' x ST "coder" "B" (.int 0) ∧
  (∃ kb, Z.vm.findClass "[B" = some kb ∧ RoadKit.Arv Z h' h.size kb .byte zn (cs.map fun c => .int (lo8 c)) (.int 0)) ∧
  ∀ (O n d : String) (w : Value), RoadKit.Fld Z h x O n d w → RoadKit.slotOf Z O n d ≠ RoadKit.slotOf Z ST "value" "[B" → RoadKit.slotOf Z O n d ≠ RoadKit.slotOf Z ST "coder" "B" → RoadKit.Fld Z h' x O n d w
/-- **new String(chars) AT A CALL, THE ARRAYS AS LISTS**: the char[] at b holds cs, not empty, no char above 255 -/
theorem backArv {p : Program} {l : Launch} {e : Env} {R : Room} {s : State} {args : Array Value} {below : List Frame} {len W : Nat} {Z : State} {a0 : Array Value} {h : Heap} (hZ : Z.Warmed39 s.vm) (hw : ∀ d ∈ words, d.before a0 Z = true) {kI : Nat} (wi : (Jvm.Cond.instantiable ST kI).before a0 Z = true)
    {x b : Addr} {k : ClassId} {zn z : Int32} {cs : List Int32} {dv v0 c0 : Value} (E : RoadKit.Exa Z h x ST) (V : RoadKit.Fld Z h x ST "value" "[B" v0) (C : RoadKit.Fld Z h x ST "coder" "B" c0) (K : RoadKit.Arv Z h b k .char zn (cs.map Value.int) dv) (S : RoadKit.Sta Z h ST "COMPACT_STRINGS" "Z" (.int z)) (hz : ¬ z = 0)
    (hlen : zn.toNatClampNeg = cs.length) (h0 : 0 < cs.length) (hbig : cs.length ≤ 536870912) (hall : ∀ c ∈ cs, ¬ 255 < c) (hfr : 4 ≤ R.frames) (hlo : W + 65 ≤ R.locals) :
    Back l R p e below s args New1.yN len W (fun P a => a = #[.ref x, .ref b] ∧ P.U.heap = h ∧ P.cells + 1 ≤ R.cells ∧ P.slots + cs.length ≤ R.slots)
      (fun P _ v B => ∃ L, QA Z x zn cs h v B.U.heap L ∧ B.locs = P.locs ++ L ∧ B.cells = P.cells + 1 ∧ B.slots = P.slots + cs.length) := by
  obtain ⟨A, K1, K2, K3, K4, K5, K6⟩ := K
  have e : A.slots.size = cs.length := K3.trans hlen
  have hat : ∀ (i : Nat) (hi : i < cs.length), A.slots[i]? = some (.int cs[i]) := fun i hi => by rw [K5 i (by omega)]; simp [List.getD_eq_getElem?_getD, hi]
  have hcv : ∀ (i : Nat) (hi : i < cs.length), cv A i = cs[i] := fun i hi => by unfold cv; rw [hat i hi]
  have hty : Typed .char A := fun i v hv => by
    have hi : i < A.slots.size := (Array.getElem?_eq_some_iff.mp hv).1
    have q := K5 i hi
    rw [hv] at q
    rw [Option.some.inj q]
    exact K6 i hi
  refine Back.mono (back hZ hw wi E V C K1 hty S hz (by omega) (by omega) (fun i hi => by rw [hcv i (by omega)]; exact hall _ (List.getElem_mem _)) hfr hlo) (fun P a hp => ⟨hp.1, hp.2.1, hp.2.2.1, by rw [e]; exact hp.2.2.2⟩) (fun P a v B hp hq => ?_)
  obtain ⟨L, ⟨q1, q2, q3, q4, q5, q6, q7, ⟨V', v1, v2, v3, v4, v5⟩, q9⟩, hl, hc, hs⟩ := hq
  refine ⟨L, ⟨q1, q2, q3, q4, q5, q6, q7, ⟨V'.cls, v3, V', v1, rfl, by rw [v4, e, hlen], K4, fun i hi => ?_, fun i hi => ?_⟩, q9⟩, hl, hc, by rw [hs, e]⟩
  · have hi' : i < cs.length := by omega
    rw [v5 i (by omega), hcv i hi']; simp [List.getD_eq_getElem?_getD, hi']
  · have hi' : i < cs.length := by omega
    simp only [List.getD_eq_getElem?_getD, List.getElem?_map, List.getElem?_eq_getElem hi', Option.map_some, Option.getD_some]
    exact fits_lo8 _
end StrChars.Road
namespace StrChars.Road
open Jvm Sem ClassFile Op Lib Jvm.Stand Jvm.Free Jvm.Free.XT
/-- WHAT COMES BACK, in the writer's own shape -/
def QV (Z : State) (x : Addr) (N : Int32) (bs : List Int32) (h : Heap) (n0 : Nat) (v : Option Value) (h' : Heap) (L : List Loc) : Prop := v = none ∧ RoadKit.Fr n0 L ∧ RoadKit.Keep h h' [x] ∧ RoadKit.Exa Z h' x ST ∧ RoadKit.Fld Z h' x ST "coder" "B" (.int 0) ∧
  ∃ (t : Addr) (kb : ClassId), n0 ≤ t ∧ h.size ≤ t ∧ ¬ t = x ∧ RoadKit.Fld Z h' x ST "value" "[B" (.ref t) ∧ RoadKit.Arv Z h' t kb .byte N (bs.map Value.int) (.int 0)
/-- **new String(chars) AT A CALL, FOR THE WRITER**: a char[] of n known ints, each 0 to 255 -/
theorem backV {p : Program} {l : Launch} {e : Env} {R : Room} {s : State} {args : Array Value} {below : List Frame} {len W : Nat} {Z : State} {a0 : Array Value} {h : Heap} (hZ : Z.Warmed39 s.vm) (hw : ∀ d ∈ words, d.before a0 Z = true) {kI : Nat} (wi : (Jvm.Cond.instantiable ST kI).before a0 Z = true)
    {x b : Addr} {kC : ClassId} {cs bs : List Int32} {d v0 c0 : Value} {z N : Int32} {n n0 : Nat} (hx0 : n0 ≤ x) (hh0 : n0 ≤ h.size) (E : RoadKit.Exa Z h x ST) (V : RoadKit.Fld Z h x ST "value" "[B" v0) (C : RoadKit.Fld Z h x ST "coder" "B" c0) (K : RoadKit.Arv Z h b kC .char N (cs.map Value.int) d) (S : RoadKit.Sta Z h ST "COMPACT_STRINGS" "Z" (.int z)) (hz : ¬ z = 0)
    (hn : cs.length = n) (hN : N = Int32.ofNat n) (l0 : 0 < n) (l2 : n ≤ 4000) (hp : ∀ c ∈ cs, ¬ c < 0 ∧ ¬ (255 : Int32) < c) (hb : bs = cs.map (fun c => c.toInt8.toInt32)) (hfr : 4 ≤ R.frames) (hlo : W + 65 ≤ R.locals) :
    Back l R p e below s args (⟨"java/lang/String", "<init>", "([C)V"⟩ : MethodName) len W (fun P a => a = #[.ref x, .ref b] ∧ P.U.heap = h ∧ P.cells + 1 ≤ R.cells ∧ P.slots + n ≤ R.slots)
      (fun P _ v B => ∃ L, QV Z x N bs h n0 v B.U.heap L ∧ B.locs = P.locs ++ L ∧ B.cells = P.cells + 1 ∧ B.slots = P.slots + n) := by
  subst hn hN hb
  refine Back.mono (backArv hZ hw wi E V C K S hz (n32 (by omega)) l0 (by omega) (fun c hc => (hp c hc).2) hfr hlo) (fun P a hp => hp) (fun P a v B hp hq => ?_)
  obtain ⟨L, ⟨q1, q2, q3, q4, q5, q6, q7, ⟨kb, v1, v2⟩, q9⟩, hl, hc, hs⟩ := hq
  exact ⟨L, ⟨q1, fun y hy => by rw [q2 y hy]; exact hx0, q3, q5, q7, h.size, kb, hh0, Nat.le_refl _, Nat.ne_of_gt E.lt, q6, by rw [List.map_map]; exact v2⟩, hl, hc, hs⟩
end StrChars.Road
namespace StrChars
open Jvm Sem ClassFile Op Lib Jvm.Stand Jvm.Free.XT Jvm.Free.ALB Jvm.Free.JM Jvm.Free
open Jvm.Lib.Cold (StaticIs)
def hi8 (x : Int32) : Int32 := lo8 (x >>> ((8 : Int32) &&& 31))
/-- what StringUTF16.getChar makes of two bytes -/
def pairCh (u v : Int32) : Int32 := (((u &&& 255) <<< ((0 : Int32) &&& 31)) ||| ((v &&& 255) <<< ((8 : Int32) &&& 31))).toUInt32.toUInt16.toUInt32.toInt32
theorem shr0 (c : Int32) : c >>> ((0 : Int32) &&& 31) = c := by
  have e : ((0 : Int32) &&& 31) = 0 := by decide
  rw [e]
  apply Int32.toBitVec_inj.mp
  rw [Int32.toBitVec_shiftRight]
  have e1 : ((0 : Int32).toBitVec.smod 32) = 0#32 := by decide
  rw [e1, BitVec.sshiftRight_eq']
  exact BitVec.sshiftRight_zero
theorem lo8_and (x : Int32) : (lo8 x &&& 255).toBitVec.toNat = x.toBitVec.toNat % 256 := by
  have h : (lo8 x).toBitVec = (x.toBitVec.signExtend 8).signExtend 32 := by rw [lo8, Int8.toBitVec_toInt32, Int32.toBitVec_toInt8]
  rw [Int32.toBitVec_and, BitVec.toNat_and, h]
  have e : ((x.toBitVec.signExtend 8).signExtend 32).toNat % 256 = x.toBitVec.toNat % 256 := by
    rw [BitVec.toNat_signExtend]
    have hlt := x.toBitVec.isLt
    simp only [BitVec.toNat_setWidth, BitVec.toNat_signExtend]
    split <;> split <;> omega
  rw [← e]
  exact Nat.and_two_pow_sub_one_eq_mod _ 8
theorem pair_says {c : Int32} (h0 : ¬ c < 0) (h1 : ¬ 65535 < c) : pairCh (lo8 c) (hi8 c) = c := by
  rw [Int32.lt_iff_toInt_lt] at h0 h1
  have e0 : (0 : Int32).toInt = 0 := rfl
  have e1 : (65535 : Int32).toInt = 65535 := rfl
  have hc : c.toInt = c.toBitVec.toNat := by
    have := c.toBitVec.isLt
    have e : c.toInt = c.toBitVec.toInt := rfl
    rw [e] at h0 h1
    rw [e]
    rw [BitVec.toInt_eq_toNat_cond] at h0 h1 ⊢
    split at h0 <;> split <;> omega
  have hn : c.toBitVec.toNat < 65536 := by omega
  have a1 := lo8_and c
  have a2 : (hi8 c &&& 255).toBitVec.toNat = c.toBitVec.toNat / 256 := by
    rw [hi8, lo8_and]
    have e : ((8 : Int32) &&& 31) = 8 := by decide
    rw [e, Int32.toBitVec_shiftRight]
    have e2 : ((8 : Int32).toBitVec.smod 32) = 8#32 := by decide
    rw [e2, BitVec.sshiftRight_eq', BitVec.toNat_sshiftRight_of_msb_false (by rw [BitVec.msb_eq_false_iff_two_mul_lt]; omega)]
    show c.toBitVec.toNat >>> 8 % 256 = _
    rw [Nat.shiftRight_eq_div_pow]
    omega
  unfold pairCh
  apply Int32.toBitVec_inj.mp
  apply BitVec.eq_of_toNat_eq
  have f0 : ((0 : Int32) &&& 31) = 0 := by decide
  have f8 : ((8 : Int32) &&& 31) = 8 := by decide
  rw [f0, f8]
  have g : (((lo8 c &&& 255) <<< (0 : Int32)) ||| ((hi8 c &&& 255) <<< (8 : Int32))).toBitVec.toNat = c.toBitVec.toNat := by
    rw [Int32.toBitVec_or, Int32.toBitVec_shiftLeft, Int32.toBitVec_shiftLeft]
    have s0 : ((0 : Int32).toBitVec.smod 32) = 0#32 := by decide
    have s8 : ((8 : Int32).toBitVec.smod 32) = 8#32 := by decide
    rw [s0, s8, BitVec.toNat_or]
    simp only [BitVec.shiftLeft_eq', BitVec.toNat_shiftLeft, a1, a2]
    show (c.toBitVec.toNat % 256) <<< 0 % 2 ^ 32 ||| (c.toBitVec.toNat / 256) <<< 8 % 2 ^ 32 = _
    rw [Nat.shiftLeft_zero, Nat.mod_eq_of_lt (show c.toBitVec.toNat % 256 < 2 ^ 32 by omega), Nat.mod_eq_of_lt (show (c.toBitVec.toNat / 256) <<< 8 < 2 ^ 32 by rw [Nat.shiftLeft_eq]; omega), Nat.or_comm, ← Nat.shiftLeft_add_eq_or_of_lt (by omega), Nat.shiftLeft_eq]
    omega
  show BitVec.toNat (((((lo8 c &&& 255) <<< (0 : Int32)) ||| ((hi8 c &&& 255) <<< (8 : Int32))).toBitVec.setWidth 16).setWidth 32) = _
  rw [BitVec.toNat_setWidth, BitVec.toNat_setWidth, g]
  omega
end StrChars
namespace StrChars
open Jvm Sem ClassFile Op Lib Jvm.Stand Jvm.Free.XT Jvm.Free.ALB Jvm.Free.JM Jvm.Free
open Jvm.Lib.Cold (StaticIs)
theorem shr1 {n : Nat} (h : 2 * n < 2 ^ 31) : Int32.ofNat (2 * n) >>> ((1 : Int32) &&& 31) = Int32.ofNat n := by
  have e : ((1 : Int32) &&& 31) = 1 := by decide
  rw [e]
  apply Int32.toBitVec_inj.mp
  rw [Int32.toBitVec_shiftRight]
  have e1 : ((1 : Int32).toBitVec.smod 32) = 1#32 := by decide
  have hm : (BitVec.ofNat 32 (2 * n)).toNat = 2 * n := by rw [BitVec.toNat_ofNat, Nat.mod_eq_of_lt (by omega)]
  rw [e1, BitVec.sshiftRight_eq']
  apply BitVec.eq_of_toNat_eq
  show ((BitVec.ofNat 32 (2 * n)).sshiftRight 1).toNat = (BitVec.ofNat 32 n).toNat
  rw [BitVec.toNat_sshiftRight_of_msb_false (by rw [BitVec.msb_eq_false_iff_two_mul_lt, hm]; omega), hm, BitVec.toNat_ofNat, Nat.shiftRight_eq_div_pow]
  omega
/-- charAt's cast of a byte read back -/
def chr8 (u : Int32) : Int32 := (u &&& 255).toUInt32.toUInt16.toUInt32.toInt32
theorem chr8_lo8 {c : Int32} (h0 : ¬ c < 0) (h1 : ¬ 255 < c) : chr8 (lo8 c) = c := by
  have t : ∀ k : Fin 256, (Int32.ofNat k.val).toUInt32.toUInt16.toUInt32.toInt32 = Int32.ofNat k.val := by decide +kernel
  unfold chr8
  rw [lo8_mask h0 h1]
  rw [Int32.lt_iff_toInt_lt] at h0 h1
  have e0 : (0 : Int32).toInt = 0 := rfl
  have e1 : (255 : Int32).toInt = 255 := rfl
  obtain ⟨k, hk⟩ : ∃ k : Nat, c.toInt = k := ⟨c.toInt.toNat, by omega⟩
  have hx : c = Int32.ofNat k := Int32.toInt_inj.mp (by rw [hk, Int32.toInt_ofNat_small (by omega)])
  rw [hx]
  exact t ⟨k, by omega⟩
theorem narrow_ch {c : Int32} (h0 : ¬ c < 0) (h1 : ¬ 65535 < c) : narrow .char (.int c) = .int c := by
  have q : narrow .char (.int (pairCh (lo8 c) (hi8 c))) = .int (pairCh (lo8 c) (hi8 c)) := narrow_c _
  rwa [pair_says h0 h1] at q
/-- the array's cell V codes the n chars f 0 .. f (n - 1) by the coder cd, as the JDK does: coder 1 just where some char is above 255 -/
def Cod (cd : Int32) (n : Nat) (f : Nat → Int32) (V : Cell) : Prop := (cd = 0 ∧ V.slots.size = n ∧ ∀ j, j < n → V.slots[j]? = some (.int (lo8 (f j))) ∧ ¬ 255 < f j) ∨ (cd = 1 ∧ V.slots.size = 2 * n ∧ (∀ j, j < n → V.slots[2 * j]? = some (.int (lo8 (f j))) ∧ V.slots[2 * j + 1]? = some (.int (hi8 (f j)))) ∧ ∃ j, j < n ∧ 255 < f j)
theorem Cod.cd {cd : Int32} {n : Nat} {f : Nat → Int32} {V : Cell} (h : Cod cd n f V) : cd = 0 ∨ cd = 1 := h.imp (fun q => q.1) fun q => q.1
theorem Cod.len {cd : Int32} {n : Nat} {f : Nat → Int32} {V : Cell} (h : Cod cd n f V) (hs : V.slots.size < 2 ^ 31) : Int32.ofNat V.slots.size >>> (cd &&& 31) = Int32.ofNat n := by
  rcases h with ⟨rfl, h, -⟩ | ⟨rfl, h, -⟩
  · rw [shr0, h]
  · rw [h, shr1 (by omega)]
/-- **x is a String of the n chars f 0 .. f (n - 1)**, Latin-1 or UTF-16; its array at t has the cell V -/
def Txt (x t : Addr) (V : Cell) (cd : Int32) (n : Nat) (f : Nat → Int32) (U : State) : Prop := Exact "java/lang/String" x U ∧ Has x "java/lang/String" "value" "[B" (.ref t) U ∧ Has x "java/lang/String" "coder" "B" (.int cd) U ∧ XT.Arr .byte t V U ∧ Cod cd n f V ∧ ∀ j, j < n → ¬ f j < 0 ∧ ¬ 65535 < f j
theorem Txt.mv {x t : Addr} {V : Cell} {cd : Int32} {n : Nat} {f : Nat → Int32} {U U' : State} (h : Txt x t V cd n f U) (hal : U.vm.Alike U'.vm) (hh : U'.heap = U.heap) : Txt x t V cd n f U' := ⟨h.1.mv hal hh, h.2.1.mv hal hh, h.2.2.1.mv hal hh, h.2.2.2.1.mv hal hh, h.2.2.2.2⟩
namespace Cdr
def yN : MethodName := ⟨"java/lang/String", "coder", "()B"⟩
abbrev yB : ByteArray := jdk_42_method_152_code
theorem d0 : decode yB 0 = .ok (.getstatic 38, 3) := by decide +kernel
theorem d3 : decode yB 3 = .ok (.ifCond (.eq) 10, 3) := by decide +kernel
theorem d6 : decode yB 6 = .ok (.aload_n 0, 1) := by decide +kernel
theorem d7 : decode yB 7 = .ok (.getfield 15, 3) := by decide +kernel
theorem d10 : decode yB 10 = .ok (.goto 4, 3) := by decide +kernel
theorem d14 : decode yB 14 = .ok (.ireturn, 1) := by decide +kernel
def site : List Cond := [.fieldLink "java/lang/String" 38 "java/lang/String" "COMPACT_STRINGS" "Z", .fieldLink "java/lang/String" 15 "java/lang/String" "coder" "B"]
def tab : Cond := tabOf yN yB 1 (some .byte) site
def P (x : Addr) (cd z : Int32) (args : Array Value) (s : State) : Prop := args = #[.ref x] ∧ Has x "java/lang/String" "coder" "B" (.int cd) s ∧ (cd = 0 ∨ cd = 1) ∧ StaticIs s "java/lang/String" "COMPACT_STRINGS" "Z" (.int z) ∧ ¬ z = 0
def E (cd : Int32) (r : Option Value) (s u : State) : Prop := XT.PureE (some (.int cd)) r s u
theorem law (l : Launch) (x : Addr) (cd z : Int32) : Law l yN 1 0 0 0 yB 1 (some .byte) site (P x cd z) (E cd) [] 0 0 := by
  refine Law.of_walk (plainFor_of_name (by decide +kernel)) (by decide +kernel) (by decide +kernel) (by decide) (fun _ _ h => by rw [h.1]; rfl) (fun _ U U' hal hh h => ⟨h.1, h.2.1.mv hal hh, h.2.2.1, h.2.2.2.1.there hal hh, h.2.2.2.2⟩) (fun r U U' V V' h1 hal h2 h => XT.PureE.mv r U U' V V' h1 hal h2 h) ?_
  intro p e s m args below meth c s₁ X0 hexec hbytes hml hret hlk hnm hown hh0 W hP
  obtain ⟨rfl, hx, hc, s1, hz⟩ := hP
  have c1 : Steps p.tables e below (s₁.setTop (entryFrame m #[.ref x] 1)) (s₁.setTop (mkF m 0 #[.val (.ref x)] [])) := entry rfl
  obtain ⟨T2, X2, q2, st2⟩ := X0.sget hexec hown (wk W (.fieldLink "java/lang/String" 38 "java/lang/String" "COMPACT_STRINGS" "Z")) s1 (fun _ _ h => by rw [hh0]; exact h) (g := (mkF m 0 #[.val (.ref x)] [])) rfl (hb hbytes d0)
  have hh2 := q2.trans hh0
  have c3 : Steps p.tables e below (s₁.setTop (entryFrame m #[.ref x] 1)) (T2.setTop (mkF m 7 #[.val (.ref x)] [.ref x])) := (c1.trans (st2 _ (Steps.refl _))).trans (by
    refine XS.ifNo X2.here hexec rfl (hb hbytes d3) rfl (i0_eq_f hz) ?_
    refine XS.aloadN X2.here hexec rfl (hb hbytes d6) rfl rfl ?_
    exact Steps.refl _)
  obtain ⟨T4, X4, q4, st4⟩ := X2.hget hexec hown (wk W (.fieldLink "java/lang/String" 15 "java/lang/String" "coder" "B")) (hx.mv X2.warmed.alike hh2) (g := (mkF m 7 #[.val (.ref x)] [.ref x])) rfl (rest := []) rfl (hb hbytes d7)
  have c5 : Steps p.tables e below (s₁.setTop (entryFrame m #[.ref x] 1)) (T4.setTop (mkF m 14 #[.val (.ref x)] [.int cd])) := (c3.trans (st4 _ (Steps.refl _))).trans (by
    refine XS.goto X4.here hexec rfl (pc0 := 10) rfl (hb hbytes d10) (by decide) rfl ?_
    exact Steps.refl _)
  exact ⟨T4, some (.int cd), _, _, _, X4, rfl, rfl, rfl, (fun h => by cases h), ⟨rfl, q4.trans hh2⟩, fun fs hl => c5.trans (X4.ireturnOut hexec hret (by rcases hc with rfl | rfl <;> rfl) (Or.inr (Or.inr (Or.inl rfl))) (hb hbytes d14) hl)⟩
end Cdr
namespace Len
def yN : MethodName := ⟨"java/lang/String", "length", "()I"⟩
abbrev yB : ByteArray := jdk_42_method_54_code
theorem d0 : decode yB 0 = .ok (.aload_n 0, 1) := by decide +kernel
theorem d1 : decode yB 1 = .ok (.getfield 9, 3) := by decide +kernel
theorem d4 : decode yB 4 = .ok (.arraylength, 1) := by decide +kernel
theorem d5 : decode yB 5 = .ok (.aload_n 0, 1) := by decide +kernel
theorem d6 : decode yB 6 = .ok (.invokevirtual 335, 3) := by decide +kernel
theorem d9 : decode yB 9 = .ok (.ishr, 1) := by decide +kernel
theorem d10 : decode yB 10 = .ok (.ireturn, 1) := by decide +kernel
def site : List Cond := [.fieldLink "java/lang/String" 9 "java/lang/String" "value" "[B", Cdr.tab] ++ virtW "java/lang/String" 335 "java/lang/String" Cdr.yN Cdr.yN
def tab : Cond := tabOf yN yB 1 (some .int) site
def P (x t : Addr) (V : Cell) (cd : Int32) (n : Nat) (f : Nat → Int32) (z : Int32) (args : Array Value) (s : State) : Prop := args = #[.ref x] ∧ Txt x t V cd n f s ∧ StaticIs s "java/lang/String" "COMPACT_STRINGS" "Z" (.int z) ∧ ¬ z = 0
def E (n : Nat) (r : Option Value) (s u : State) : Prop := XT.PureE (some (.int (Int32.ofNat n))) r s u
/-- length() of a String of n chars, in either coding -/
theorem law (l : Launch) (x t : Addr) (V : Cell) (cd : Int32) (n : Nat) (f : Nat → Int32) (z : Int32) : Law l yN 1 0 1 13 yB 1 (some .int) site (P x t V cd n f z) (E n) [] 0 0 := by
  refine Law.of_walk (plainFor_of_name (by decide +kernel)) (by decide +kernel) (by decide +kernel) (by decide) (fun _ _ h => by rw [h.1]; rfl) (fun _ U U' hal hh h => ⟨h.1, h.2.1.mv hal hh, h.2.2.1.there hal hh, h.2.2.2⟩) (fun r U U' V V' h1 hal h2 h => XT.PureE.mv r U U' V V' h1 hal h2 h) ?_
  intro p e s m args below meth c s₁ X0 hexec hbytes hml hret hlk hnm hown hh0 W hP
  obtain ⟨rfl, hx, s1, hz⟩ := hP
  have v31 := hx.2.2.2.1.2.2.2
  have c1 : Steps p.tables e below (s₁.setTop (entryFrame m #[.ref x] 1)) (s₁.setTop (mkF m 1 #[.val (.ref x)] [.ref x])) := Steps.trans (entry rfl) (by
    show Steps p.tables e below (s₁.setTop (mkF m 0 #[.val (.ref x)] [])) _
    refine XS.aloadN X0.here hexec rfl (hb hbytes d0) rfl rfl ?_
    exact Steps.refl _)
  obtain ⟨T2, X2, q2, st2⟩ := X0.hget hexec hown (wk W (.fieldLink "java/lang/String" 9 "java/lang/String" "value" "[B")) (hx.mv X0.warmed.alike hh0).2.1 (g := (mkF m 1 #[.val (.ref x)] [.ref x])) rfl (rest := []) rfl (hb hbytes d1)
  have hh2 := q2.trans hh0
  have hx2 := hx.mv X2.warmed.alike hh2
  have c3 : Steps p.tables e below (s₁.setTop (entryFrame m #[.ref x] 1)) (T2.setTop (mkF m 6 #[.val (.ref x)] [.ref x, .int (Int32.ofNat V.slots.size)])) := (c1.trans (st2 _ (Steps.refl _))).trans (by
    refine X2.alen hexec hx2.2.2.2.1 rfl rfl (hb hbytes d4) ?_
    refine XS.aloadN X2.here hexec rfl (hb hbytes d5) rfl rfl ?_
    exact Steps.refl _)
  obtain ⟨v4, T4, X4, E4, g4⟩ := X2.callV hexec (Cdr.law l x cd z) hown (wks W (virtW "java/lang/String" 335 "java/lang/String" Cdr.yN Cdr.yN)) rfl (by decide) (wk W Cdr.tab) (W := 1) (Nat.le_of_ble_eq_true rfl) (Nat.le_of_ble_eq_true rfl) (Nat.le_refl _) (Nat.le_refl _) (hx2.1.fc X2.warmed.alike) hx2.1.is (g := (mkF m 6 #[.val (.ref x)] [.ref x, .int (Int32.ofNat V.slots.size)])) rfl (by rw [hml]; rfl) c3 (argsL := []) (rest := [.int (Int32.ofNat V.slots.size)]) rfl rfl (by show 2 * 0 + (1 + 0) ≤ _; decide) (hb hbytes d6) (⟨rfl, hx2.2.2.1, hx.2.2.2.2.1.cd, s1.there X2.warmed.alike hh2, hz⟩)
  obtain ⟨rfl, q4⟩ := E4
  have c5 : Steps p.tables e below (s₁.setTop (entryFrame m #[.ref x] 1)) (T4.setTop (mkF m 10 #[.val (.ref x)] [.int (Int32.ofNat V.slots.size >>> (cd &&& 31))])) := Steps.trans g4 (by
    refine ishr X4.here hexec rfl (hb hbytes d9) rfl ?_
    exact Steps.refl _)
  rw [hx.2.2.2.2.1.len v31] at c5
  exact ⟨T4, some (.int (Int32.ofNat n)), _, _, _, X4, rfl, rfl, rfl, (fun h => by cases h), ⟨rfl, q4.trans hh2⟩, fun fs hl => c5.trans (X4.ireturnOut hexec hret rfl (Or.inl rfl) (hb hbytes d10) hl)⟩
theorem pays {l : Launch} {R : Room} {p : Program} {e : Env} {below : List Frame} {s : State} {sargs : Array Value} {len W : Nat} (x t : Addr) (V : Cell) (cd : Int32) (n : Nat) (f : Nat → Int32) (z : Int32) (htab : tab.before sargs s = true) (hfr : 2 ≤ R.frames) (hlo : W + 25 ≤ R.locals) :
    Back l R p e below s sargs yN len W (fun A₁ a₁ => A₁.cells + 0 ≤ R.cells ∧ A₁.slots + 0 ≤ R.slots ∧ P x t V cd n f z a₁ A₁.U) (fun A₁ _ v₁ B₁ => E n v₁ A₁.U B₁.U ∧ B₁.locs = A₁.locs ++ [] ∧ B₁.cells = A₁.cells + 0 ∧ B₁.slots = A₁.slots + 0) :=
  (law l x t V cd n f z).pays htab hfr (by omega)
end Len
namespace IsL
def yN : MethodName := ⟨"java/lang/String", "isLatin1", "()Z"⟩
abbrev yB : ByteArray := jdk_42_method_154_code
theorem d0 : decode yB 0 = .ok (.getstatic 38, 3) := by decide +kernel
theorem d3 : decode yB 3 = .ok (.ifCond (.eq) 14, 3) := by decide +kernel
theorem d6 : decode yB 6 = .ok (.aload_n 0, 1) := by decide +kernel
theorem d7 : decode yB 7 = .ok (.getfield 15, 3) := by decide +kernel
theorem d10 : decode yB 10 = .ok (.ifCond (.ne) 7, 3) := by decide +kernel
theorem d13 : decode yB 13 = .ok (.iconst 1, 1) := by decide +kernel
theorem d14 : decode yB 14 = .ok (.goto 4, 3) := by decide +kernel
theorem d17 : decode yB 17 = .ok (.iconst 0, 1) := by decide +kernel
theorem d18 : decode yB 18 = .ok (.ireturn, 1) := by decide +kernel
def site : List Cond := [.fieldLink "java/lang/String" 38 "java/lang/String" "COMPACT_STRINGS" "Z", .fieldLink "java/lang/String" 15 "java/lang/String" "coder" "B"]
def tab : Cond := tabOf yN yB 1 (some .boolean) site
def P (x : Addr) (cd z : Int32) (args : Array Value) (s : State) : Prop := args = #[.ref x] ∧ Has x "java/lang/String" "coder" "B" (.int cd) s ∧ (cd = 0 ∨ cd = 1) ∧ StaticIs s "java/lang/String" "COMPACT_STRINGS" "Z" (.int z) ∧ ¬ z = 0
def E (cd : Int32) (r : Option Value) (s u : State) : Prop := XT.PureE (some (.int (1 - cd))) r s u
theorem law (l : Launch) (x : Addr) (cd z : Int32) : Law l yN 1 0 0 0 yB 1 (some .boolean) site (P x cd z) (E cd) [] 0 0 := by
  refine Law.of_walk (plainFor_of_name (by decide +kernel)) (by decide +kernel) (by decide +kernel) (by decide) (fun _ _ h => by rw [h.1]; rfl) (fun _ U U' hal hh h => ⟨h.1, h.2.1.mv hal hh, h.2.2.1, h.2.2.2.1.there hal hh, h.2.2.2.2⟩) (fun r U U' V V' h1 hal h2 h => XT.PureE.mv r U U' V V' h1 hal h2 h) ?_
  intro p e s m args below meth c s₁ X0 hexec hbytes hml hret hlk hnm hown hh0 W hP
  obtain ⟨rfl, hx, hc, s1, hz⟩ := hP
  have c1 : Steps p.tables e below (s₁.setTop (entryFrame m #[.ref x] 1)) (s₁.setTop (mkF m 0 #[.val (.ref x)] [])) := entry rfl
  obtain ⟨T2, X2, q2, st2⟩ := X0.sget hexec hown (wk W (.fieldLink "java/lang/String" 38 "java/lang/String" "COMPACT_STRINGS" "Z")) s1 (fun _ _ h => by rw [hh0]; exact h) (g := (mkF m 0 #[.val (.ref x)] [])) rfl (hb hbytes d0)
  have hh2 := q2.trans hh0
  have c3 : Steps p.tables e below (s₁.setTop (entryFrame m #[.ref x] 1)) (T2.setTop (mkF m 7 #[.val (.ref x)] [.ref x])) := (c1.trans (st2 _ (Steps.refl _))).trans (by
    refine XS.ifNo X2.here hexec rfl (hb hbytes d3) rfl (i0_eq_f hz) ?_
    refine XS.aloadN X2.here hexec rfl (hb hbytes d6) rfl rfl ?_
    exact Steps.refl _)
  obtain ⟨T4, X4, q4, st4⟩ := X2.hget hexec hown (wk W (.fieldLink "java/lang/String" 15 "java/lang/String" "coder" "B")) (hx.mv X2.warmed.alike hh2) (g := (mkF m 7 #[.val (.ref x)] [.ref x])) rfl (rest := []) rfl (hb hbytes d7)
  have c5 : Steps p.tables e below (s₁.setTop (entryFrame m #[.ref x] 1)) (T4.setTop (mkF m 10 #[.val (.ref x)] [.int cd])) := c3.trans (st4 _ (Steps.refl _))
  have c6 : Steps p.tables e below (s₁.setTop (entryFrame m #[.ref x] 1)) (T4.setTop (mkF m 18 #[.val (.ref x)] [.int (1 - cd)])) := by
    rcases hc with rfl | rfl
    · exact c5.trans (by
        refine XS.ifNo X4.here hexec rfl (hb hbytes d10) rfl (i0_ne_f rfl) ?_
        refine iconstV X4.here hexec rfl 1 (hb hbytes d13) (by decide) ?_
        refine XS.goto X4.here hexec rfl (pc0 := 14) rfl (hb hbytes d14) (by decide) rfl ?_
        exact Steps.refl _)
    · exact c5.trans (by
        refine XS.ifYes X4.here hexec rfl (pc0 := 10) rfl (hb hbytes d10) rfl (i0_ne_t (by decide)) (by decide) rfl ?_
        refine iconstV X4.here hexec rfl 0 (hb hbytes d17) (by decide) ?_
        exact Steps.refl _)
  exact ⟨T4, some (.int (1 - cd)), _, _, _, X4, rfl, rfl, rfl, (fun h => by cases h), ⟨rfl, q4.trans hh2⟩, fun fs hl => c6.trans (X4.ireturnOut hexec hret (by rcases hc with rfl | rfl <;> rfl) (Or.inr (Or.inl rfl)) (hb hbytes d18) hl)⟩
end IsL
namespace LChA
def yN : MethodName := ⟨"java/lang/StringLatin1", "charAt", "([BI)C"⟩
abbrev yB : ByteArray := jdk_43_method_2_code
theorem d0 : decode yB 0 = .ok (.iload_n 1, 1) := by decide +kernel
theorem d1 : decode yB 1 = .ok (.aload_n 0, 1) := by decide +kernel
theorem d2 : decode yB 2 = .ok (.arraylength, 1) := by decide +kernel
theorem d3 : decode yB 3 = .ok (.invokestatic 9, 3) := by decide +kernel
theorem d6 : decode yB 6 = .ok (.aload_n 0, 1) := by decide +kernel
theorem d7 : decode yB 7 = .ok (.iload_n 1, 1) := by decide +kernel
theorem d8 : decode yB 8 = .ok (.baload, 1) := by decide +kernel
theorem d9 : decode yB 9 = .ok (.sipush 255, 3) := by decide +kernel
theorem d12 : decode yB 12 = .ok (.iand, 1) := by decide +kernel
theorem d13 : decode yB 13 = .ok (.i2c, 1) := by decide +kernel
theorem d14 : decode yB 14 = .ok (.ireturn, 1) := by decide +kernel
def site : List Cond := [JO.Str_checkIndex.tab] ++ staticW "java/lang/StringLatin1" 9 JO.Str_checkIndex.yN
def tab : Cond := tabOf yN yB 2 (some .char) site
def P (t : Addr) (V : Cell) (i : Nat) (u : Int32) (fm : Value) (args : Array Value) (s : State) : Prop := args = #[.ref t, .int (Int32.ofNat i)] ∧ XT.Arr .byte t V s ∧ V.slots[i]? = some (.int u) ∧ (StaticIs s "jdk/internal/util/Preconditions" "SIOOBE_FORMATTER" "Ljava/util/function/BiFunction;" fm ∧ fm.isRef = true)
def E (u : Int32) (r : Option Value) (s w : State) : Prop := XT.PureE (some (.int (chr8 u))) r s w
theorem law (l : Launch) (t : Addr) (V : Cell) (i : Nat) (u : Int32) (fm : Value) : Law l yN 2 2 2 27 yB 2 (some .char) site (P t V i u fm) (E u) [] 0 0 := by
  refine Law.of_walk (plainFor_of_name (by decide +kernel)) (by decide +kernel) (by decide +kernel) (by decide) (fun _ _ h => by rw [h.1]; rfl) (fun _ U U' hal hh h => ⟨h.1, h.2.1.mv hal hh, h.2.2.1, h.2.2.2.1.there hal hh, h.2.2.2.2⟩) (fun r U U' V V' h1 hal h2 h => XT.PureE.mv r U U' V V' h1 hal h2 h) ?_
  intro p e s m args below meth c s₁ X0 hexec hbytes hml hret hlk hnm hown hh0 W hP
  obtain ⟨rfl, hV, hu, s1, rf⟩ := hP
  have v31 := hV.2.2.2
  have hi : i < V.slots.size := (Array.getElem?_eq_some_iff.mp hu).1
  have c1 : Steps p.tables e below (s₁.setTop (entryFrame m #[.ref t, .int (Int32.ofNat i)] 2)) (s₁.setTop (mkF m 0 #[.val (.ref t), .val (.int (Int32.ofNat i))] [])) := entry rfl
  have c2 : Steps p.tables e below (s₁.setTop (entryFrame m #[.ref t, .int (Int32.ofNat i)] 2)) (s₁.setTop (mkF m 3 #[.val (.ref t), .val (.int (Int32.ofNat i))] [.int (Int32.ofNat V.slots.size), .int (Int32.ofNat i)])) := c1.trans (by
    refine XS.iloadN X0.here hexec rfl (hb hbytes d0) rfl ?_
    refine XS.aloadN X0.here hexec rfl (hb hbytes d1) rfl rfl ?_
    refine X0.alen hexec (hV.mv X0.warmed.alike hh0) rfl rfl (hb hbytes d2) ?_
    exact Steps.refl _)
  obtain ⟨v3, T3, X3, E3, g3⟩ := X0.callS hexec (JO.Str_checkIndex.law l (Int32.ofNat i) (Int32.ofNat V.slots.size) fm) hown (wks W (staticW "java/lang/StringLatin1" 9 JO.Str_checkIndex.yN)) (wk W JO.Str_checkIndex.tab) (W := 0) (Nat.le_of_ble_eq_true rfl) (Nat.le_of_ble_eq_true rfl) (Nat.le_refl _) (Nat.le_refl _) (g := (mkF m 3 #[.val (.ref t), .val (.int (Int32.ofNat i))] [.int (Int32.ofNat V.slots.size), .int (Int32.ofNat i)])) rfl (by rw [hml]; rfl) c2 (argsL := [.int (Int32.ofNat i), .int (Int32.ofNat V.slots.size)]) (rest := []) rfl rfl (by show 2 * 0 + 0 ≤ _; decide) (hb hbytes d3) (⟨rfl, rf, s1.there X0.warmed.alike hh0, Int32.ofNat_not_neg (by omega), lt32 v31 hi⟩)
  obtain ⟨rfl, q3⟩ := E3
  have hh3 := q3.trans hh0
  have c4 : Steps p.tables e below (s₁.setTop (entryFrame m #[.ref t, .int (Int32.ofNat i)] 2)) (T3.setTop (mkF m 14 #[.val (.ref t), .val (.int (Int32.ofNat i))] [.int (chr8 u)])) := Steps.trans g3 (by
    refine XS.aloadN X3.here hexec rfl (hb hbytes d6) rfl rfl ?_
    refine XS.iloadN X3.here hexec rfl (hb hbytes d7) rfl ?_
    refine X3.aget hexec (hV.mv X3.warmed.alike hh3) rfl hu rfl rfl (hb hbytes d8) ?_
    refine sipushV X3.here hexec rfl 255 (hb hbytes d9) (by decide) ?_
    refine XS.iand X3.here hexec rfl (hb hbytes d12) rfl ?_
    refine i2c X3.here hexec rfl (hb hbytes d13) rfl ?_
    exact Steps.refl _)
  exact ⟨T3, some (.int (chr8 u)), _, _, _, X3, rfl, rfl, rfl, (fun h => by cases h), ⟨rfl, hh3⟩, fun fs hl => c4.trans (X3.ireturnOut hexec hret (narrow_c _) (Or.inr (Or.inr (Or.inr (Or.inl rfl)))) (hb hbytes d14) hl)⟩
end LChA
end StrChars
namespace StrChars.Road
open Jvm Sem ClassFile Op Lib Jvm.Stand Jvm.Free Jvm.Free.XT
open Jvm.Lib.Cold (StaticIs)
theorem consq {a : Array Value} {s : State} {c : Jvm.Cond} {L : List Jvm.Cond} (h0 : c.before a s = true) (h : ∀ w ∈ L, w.before a s = true) : ∀ w ∈ c :: L, w.before a s = true := fun w hw => (List.mem_cons.mp hw).elim (fun e => e ▸ h0) (h w)
/-- the words of String.length(), either coding -/
abbrev wordsLen : List Jvm.Cond := [.code Len.yN Len.yB 1 (some .int), .initialized ST, .fieldLink ST 9 ST "value" "[B", .fieldLink ST 38 ST "COMPACT_STRINGS" "Z", .fieldLink ST 15 ST "coder" "B", .code Cdr.yN Cdr.yB 1 (some .byte), .methodLink ST 335 Cdr.yN, .declares Cdr.yN, .selects ST Cdr.yN Cdr.yN, .instanceMethod Cdr.yN]
theorem tabLen_of {a : Array Value} {s : State} (h : ∀ w ∈ wordsLen, w.before a s = true) : Len.tab.before a s = true := by
  have hc : Cdr.tab.before a s = true := unparts (wk h (.code Cdr.yN Cdr.yB 1 (some .byte))) (wks h (.initialized Cdr.yN.cls :: Cdr.site))
  have q := consq hc h
  exact unparts (wk q (.code Len.yN Len.yB 1 (some .int))) (wks q (.initialized Len.yN.cls :: Len.site))
theorem movedLen {Z s : State} {a0 args : Array Value} (hZ : Z.Warmed39 s.vm) (hw : ∀ d ∈ wordsLen, d.before a0 Z = true) : ∀ d ∈ wordsLen, d.before args s = true := fun d hd => by
  have q := hw d hd
  have t : ∀ d ∈ wordsLen, d = .arrayClass .byte ∨ (d.onTables && d.keepsFace) = true := by decide +kernel
  rcases t d hd with rfl | t
  · exact RoadKit.mvA hZ q
  · exact RoadKit.mv hZ q t
/-- the bytes of the chars cs, low before high -/
def wideBytes : List Int32 → List Value
  | [] => []
  | c :: cs => .int (lo8 c) :: .int (hi8 c) :: wideBytes cs
theorem wide_lo (d : Value) : ∀ (cs : List Int32) (j : Nat), j < cs.length → (wideBytes cs).getD (2 * j) d = .int (lo8 (cs.getD j 0))
  | [], j, h => absurd h (Nat.not_lt_zero j)
  | c :: cs, 0, _ => rfl
  | c :: cs, j + 1, h => by
    have q := wide_lo d cs j (by simpa using h)
    rw [show 2 * (j + 1) = 2 * j + 1 + 1 from by omega]
    simpa [wideBytes] using q
theorem wide_hi (d : Value) : ∀ (cs : List Int32) (j : Nat), j < cs.length → (wideBytes cs).getD (2 * j + 1) d = .int (hi8 (cs.getD j 0))
  | [], j, h => absurd h (Nat.not_lt_zero j)
  | c :: cs, 0, _ => rfl
  | c :: cs, j + 1, h => by
    have q := wide_hi d cs j (by simpa using h)
    rw [show 2 * (j + 1) + 1 = 2 * j + 1 + 1 + 1 from by omega]
    simpa [wideBytes] using q
theorem low_at (d : Value) (cs : List Int32) (j : Nat) (h : j < cs.length) : (cs.map fun c => Value.int (lo8 c)).getD j d = .int (lo8 (cs.getD j 0)) := by
  simp [List.getD_eq_getElem?_getD, h]
/-- an array of N2 bytes vs codes the chars cs by the coder cd -/
def CodA (cs : List Int32) (cd N2 : Int32) (vs : List Value) : Prop := (cd = 0 ∧ N2 = Int32.ofNat cs.length ∧ vs = (cs.map fun c => Value.int (lo8 c)) ∧ ∀ c ∈ cs, ¬ 255 < c) ∨ (cd = 1 ∧ N2 = Int32.ofNat (2 * cs.length) ∧ vs = wideBytes cs ∧ ∃ c ∈ cs, 255 < c)
theorem CodA.cod {cs : List Int32} {cd N2 : Int32} {vs : List Value} {V : Cell} (h : CodA cs cd N2 vs) (hn : 2 * cs.length < 2 ^ 31) (hs : V.slots.size = N2.toNatClampNeg) (hv : RoadKit.Has V vs (.int 0)) : Cod cd cs.length (fun j => cs.getD j 0) V := by
  rcases h with ⟨rfl, rfl, rfl, h⟩ | ⟨rfl, rfl, rfl, c, hc, hw⟩
  · rw [n32 (by omega)] at hs
    exact Or.inl ⟨rfl, hs, fun j hj => ⟨by rw [hv j (by omega), low_at _ _ _ hj], by
      have e : cs.getD j 0 = cs[j] := by simp [List.getD_eq_getElem?_getD, hj]
      show ¬ 255 < cs.getD j 0
      rw [e]; exact h _ (List.getElem_mem _)⟩⟩
  · rw [n32 (by omega)] at hs
    obtain ⟨j, hj, rfl⟩ := List.getElem_of_mem hc
    exact Or.inr ⟨rfl, hs, fun j hj => ⟨by rw [hv _ (by omega), wide_lo _ _ _ hj], by rw [hv _ (by omega), wide_hi _ _ _ hj]⟩, j, hj, by
      have e : cs.getD j 0 = cs[j] := by simp [List.getD_eq_getElem?_getD, hj]
      show 255 < cs.getD j 0
      rw [e]; exact hw⟩
/-- an object of exactly java/lang/String, its two fields found: as the laws ask it -/
theorem strObj {Z U : State} {a0 : Array Value} {kI : Nat} (wi : (Jvm.Cond.instantiable ST kI).before a0 Z = true) (al : Z.vm.Alike U.vm) {x : Addr} {v0 c0 : Value} (E : RoadKit.Exa Z U.heap x ST) (V : RoadKit.Fld Z U.heap x ST "value" "[B" v0) (C : RoadKit.Fld Z U.heap x ST "coder" "B" c0) :
    ∃ (D : Cell) (fV fC : Field), Blank ST x D U ∧ Found ST "value" "[B" fV U ∧ Found ST "coder" "B" fC U ∧ D.slots[fV.slot]? = some v0 ∧ D.slots[fC.slot]? = some c0 ∧ RoadKit.slotOf Z ST "value" "[B" = fV.slot ∧ RoadKit.slotOf Z ST "coder" "B" = fC.slot := by
  obtain ⟨D, cfV, kV, iV, fV, hD, gV, stV, knV, obV, asV, slV⟩ := V
  obtain ⟨D', cfC, kC, iC, fC, hD', gC, stC, -, -, asC, slC⟩ := C
  cases hD.symm.trans hD'
  obtain ⟨D2, kD, e1, e2, e3, e4, e5⟩ := E
  cases hD.symm.trans e1
  obtain ⟨c2, k2, i1, i2, i3, -⟩ := Cond.instantiable_spec wi
  cases e2.symm.trans i1
  cases e3.symm.trans i2
  obtain ⟨kU, u1, u2⟩ := al.2.2 _ _ e3
  exact ⟨D, fV, fC, ⟨hD, ⟨knV, fun q hq => by rw [hq] at obV; cases obV⟩, by rw [al.findClass]; exact e2, kU, u1, by rw [u2]; exact i3, by rw [u2]; exact e5 i3⟩, ⟨SBG.found_only al ⟨cfV, kV, iV, gV⟩, stV⟩, ⟨SBG.found_only al ⟨cfC, kC, iC, gC⟩, stC⟩, slV, slC, by simp [RoadKit.slotOf, gV], by simp [RoadKit.slotOf, gC]⟩
theorem sta_is {Z U : State} (al : Z.vm.Alike U.vm) {C n d : String} {v : Value} (S : RoadKit.Sta Z U.heap C n d v) : StaticIs U C n d v := by
  obtain ⟨cfS, iS, kS, fS, st, cS, t1, t2, t3, t4, t5, t6, t7⟩ := S
  exact StaticIs.there (s := { Z with heap := U.heap }) ⟨cfS, iS, kS, fS, st, cS, t1, t2, t3, t4, t5, (fun q => by rw [q] at t6; cases t6), t7⟩ al rfl
/-- **length() OF SUCH A STRING** -/
theorem lenW {p : Program} {l : Launch} {e : Env} {R : Room} {s : State} {args : Array Value} {below : List Frame} {len W : Nat} {Z : State} {a0 : Array Value} {h : Heap} (hZ : Z.Warmed39 s.vm) (hw : ∀ d ∈ wordsLen, d.before a0 Z = true) {kI : Nat} (wi : (Jvm.Cond.instantiable ST kI).before a0 Z = true)
    {x t : Addr} {kb : ClassId} {cs : List Int32} {cd N2 z : Int32} {vs : List Value} (E : RoadKit.Exa Z h x ST) (V : RoadKit.Fld Z h x ST "value" "[B" (.ref t)) (C : RoadKit.Fld Z h x ST "coder" "B" (.int cd)) (K : RoadKit.Arv Z h t kb .byte N2 vs (.int 0)) (hc : CodA cs cd N2 vs) (hb : ∀ c ∈ cs, ¬ c < 0 ∧ ¬ (65535 : Int32) < c)
    (S : RoadKit.Sta Z h ST "COMPACT_STRINGS" "Z" (.int z)) (hz : ¬ z = 0) (l2 : cs.length ≤ 4000) (hfr : 2 ≤ R.frames) (hlo : W + 25 ≤ R.locals) :
    Back l R p e below s args (⟨"java/lang/String", "length", "()I"⟩ : MethodName) len W (fun P a => a = #[.ref x] ∧ P.U.heap = h ∧ P.cells + 0 ≤ R.cells ∧ P.slots + 0 ≤ R.slots)
      (fun P _ v B => ∃ L, (v = some (.int (Int32.ofNat cs.length)) ∧ L = [] ∧ B.U.heap = h) ∧ B.locs = P.locs ++ L ∧ B.cells = P.cells + 0 ∧ B.slots = P.slots + 0) := by
  obtain ⟨A, K1, K2, K3, K4, K5, K6⟩ := K
  have hcod := hc.cod (by omega) K3 K5
  intro m meth c P g ig mk a X hg hsize hdg hW hn hp'
  obtain ⟨rfl, rfl, r1, r2⟩ := hp'
  have al : Z.vm.Alike P.U.vm := hZ.alike.trans X.warmed.alike
  obtain ⟨D, fV, fC, hB, F1, F2, g1, g2, -, -⟩ := strObj wi al E V C
  have hx : Txt x t A cd cs.length (fun j => cs.getD j 0) P.U := ⟨⟨_, hB.2.2.1, D, hB.1, rfl, by cases q : D.vm <;> first | rfl | exact absurd q (hB.2.1.2 _)⟩, Has.of hB F1 g1, Has.of hB F2 g2, ⟨K1.1, State.isArrayOf_alike al K1.2.1, K1.2.2, by rcases hcod with ⟨-, q, -⟩ | ⟨-, q, -⟩ <;> omega⟩, hcod, fun j hj => by
    have e : cs.getD j 0 = cs[j] := by simp [List.getD_eq_getElem?_getD, hj]
    show ¬ cs.getD j 0 < 0 ∧ ¬ 65535 < cs.getD j 0
    rw [e]; exact hb _ (List.getElem_mem _)⟩
  obtain ⟨v, B, X', ⟨⟨hv, hh⟩, hl, hk, hs⟩, st⟩ := Len.pays x t A cd cs.length (fun j => cs.getD j 0) z (tabLen_of (movedLen hZ hw)) hfr hlo m meth c P g ig mk _ X hg hsize hdg hW hn ⟨r1, r2, rfl, hx, sta_is al S, hz⟩
  exact ⟨v, B, X', ⟨[], ⟨hv, rfl, hh⟩, hl, hk, hs⟩, st⟩
end StrChars.Road
namespace StrChars.Road
open Jvm Sem ClassFile Op Lib Jvm.Stand Jvm.Free Jvm.Free.XT
open Jvm.Lib.Cold (StaticIs)
/-- the road's facts of a String, as the laws ask it -/
theorem txt_of {Z U : State} {a0 : Array Value} {kI : Nat} (wi : (Jvm.Cond.instantiable ST kI).before a0 Z = true) (al : Z.vm.Alike U.vm) {x t : Addr} {kb : ClassId} {cs : List Int32} {cd N2 : Int32} {vs : List Value} (E : RoadKit.Exa Z U.heap x ST) (V : RoadKit.Fld Z U.heap x ST "value" "[B" (.ref t)) (C : RoadKit.Fld Z U.heap x ST "coder" "B" (.int cd)) (K : RoadKit.Arv Z U.heap t kb .byte N2 vs (.int 0)) (hc : CodA cs cd N2 vs) (hb : ∀ c ∈ cs, ¬ c < 0 ∧ ¬ (65535 : Int32) < c) (l2 : cs.length ≤ 4000) :
    ∃ A, Txt x t A cd cs.length (fun j => cs.getD j 0) U := by
  obtain ⟨A, K1, K2, K3, K4, K5, K6⟩ := K
  have hcod := hc.cod (by omega) K3 K5
  obtain ⟨D, fV, fC, hB, F1, F2, g1, g2, -, -⟩ := strObj wi al E V C
  exact ⟨A, ⟨_, hB.2.2.1, D, hB.1, rfl, by cases q : D.vm <;> first | rfl | exact absurd q (hB.2.1.2 _)⟩, Has.of hB F1 g1, Has.of hB F2 g2, ⟨K1.1, State.isArrayOf_alike al K1.2.1, K1.2.2, by rcases hcod with ⟨-, q, -⟩ | ⟨-, q, -⟩ <;> omega⟩, hcod, fun j hj => by
    have e : cs.getD j 0 = cs[j] := by simp [List.getD_eq_getElem?_getD, hj]
    show ¬ cs.getD j 0 < 0 ∧ ¬ 65535 < cs.getD j 0
    rw [e]; exact hb _ (List.getElem_mem _)⟩
end StrChars.Road
namespace StrChars
open Jvm Sem ClassFile Op Lib Jvm.Stand Jvm.Free.XT Jvm.Free.ALB Jvm.Free.JM Jvm.Free
open Jvm.Lib.Cold (StaticIs)
namespace ChN
def yN : MethodName := ⟨"java/lang/String", "charAt", "(I)C"⟩
abbrev yB : ByteArray := jdk_42_method_56_code
theorem d0 : decode yB 0 = .ok (.aload_n 0, 1) := by decide +kernel
theorem d1 : decode yB 1 = .ok (.invokevirtual 492, 3) := by decide +kernel
theorem d4 : decode yB 4 = .ok (.ifCond (.eq) 12, 3) := by decide +kernel
theorem d7 : decode yB 7 = .ok (.aload_n 0, 1) := by decide +kernel
theorem d8 : decode yB 8 = .ok (.getfield 9, 3) := by decide +kernel
theorem d11 : decode yB 11 = .ok (.iload_n 1, 1) := by decide +kernel
theorem d12 : decode yB 12 = .ok (.invokestatic 495, 3) := by decide +kernel
theorem d15 : decode yB 15 = .ok (.ireturn, 1) := by decide +kernel
def site : List Cond := [.fieldLink "java/lang/String" 9 "java/lang/String" "value" "[B", IsL.tab, LChA.tab] ++ virtW "java/lang/String" 492 "java/lang/String" IsL.yN IsL.yN ++ staticW "java/lang/String" 495 LChA.yN
def tab : Cond := tabOf yN yB 2 (some .char) site
def P (x t : Addr) (V : Cell) (n : Nat) (f : Nat → Int32) (z : Int32) (fm : Value) (i : Nat) (args : Array Value) (s : State) : Prop := args = #[.ref x, .int (Int32.ofNat i)] ∧ Txt x t V 0 n f s ∧ i < n ∧ StaticIs s "java/lang/String" "COMPACT_STRINGS" "Z" (.int z) ∧ ¬ z = 0 ∧ StaticIs s "jdk/internal/util/Preconditions" "SIOOBE_FORMATTER" "Ljava/util/function/BiFunction;" fm ∧ fm.isRef = true
def E (f : Nat → Int32) (i : Nat) (r : Option Value) (s u : State) : Prop := XT.PureE (some (.int (f i))) r s u
/-- charAt(i) of a Latin-1 String of n chars, i < n: f i -/
theorem law (l : Launch) (x t : Addr) (V : Cell) (n : Nat) (f : Nat → Int32) (z : Int32) (fm : Value) (i : Nat) : Law l yN 2 1 3 40 yB 2 (some .char) site (P x t V n f z fm i) (E f i) [] 0 0 := by
  refine Law.of_walk (plainFor_of_name (by decide +kernel)) (by decide +kernel) (by decide +kernel) (by decide) (fun _ _ h => by rw [h.1]; rfl) (fun _ U U' hal hh h => ⟨h.1, h.2.1.mv hal hh, h.2.2.1, h.2.2.2.1.there hal hh, h.2.2.2.2.1, h.2.2.2.2.2.1.there hal hh, h.2.2.2.2.2.2⟩) (fun r U U' V V' h1 hal h2 h => XT.PureE.mv r U U' V V' h1 hal h2 h) ?_
  intro p e s m args below meth c s₁ X0 hexec hbytes hml hret hlk hnm hown hh0 W hP
  obtain ⟨rfl, hx, hi, s1, hz, s3, rf⟩ := hP
  have v31 := hx.2.2.2.1.2.2.2
  have hr := hx.2.2.2.2.2 i hi
  have hx0 := hx.mv X0.warmed.alike hh0
  have c1 : Steps p.tables e below (s₁.setTop (entryFrame m #[.ref x, .int (Int32.ofNat i)] 2)) (s₁.setTop (mkF m 1 #[.val (.ref x), .val (.int (Int32.ofNat i))] [.ref x])) := Steps.trans (entry rfl) (by
    show Steps p.tables e below (s₁.setTop (mkF m 0 #[.val (.ref x), .val (.int (Int32.ofNat i))] [])) _
    refine XS.aloadN X0.here hexec rfl (hb hbytes d0) rfl rfl ?_
    exact Steps.refl _)
  obtain ⟨v2, T2, X2, E2, g2⟩ := X0.callV hexec (IsL.law l x 0 z) hown (wks W (virtW "java/lang/String" 492 "java/lang/String" IsL.yN IsL.yN)) rfl (by decide) (wk W IsL.tab) (W := 0) (Nat.le_of_ble_eq_true rfl) (Nat.le_of_ble_eq_true rfl) (Nat.le_refl _) (Nat.le_refl _) (hx0.1.fc X0.warmed.alike) hx0.1.is (g := (mkF m 1 #[.val (.ref x), .val (.int (Int32.ofNat i))] [.ref x])) rfl (by rw [hml]; rfl) c1 (argsL := []) (rest := []) rfl rfl (by show 2 * 0 + 0 ≤ _; decide) (hb hbytes d1) (⟨rfl, hx0.2.2.1, hx.2.2.2.2.1.cd, s1.there X0.warmed.alike hh0, hz⟩)
  obtain ⟨rfl, q2⟩ := E2
  have hh2 := q2.trans hh0
  have hx2 := hx.mv X2.warmed.alike hh2
  obtain ⟨-, k1, k2⟩ | ⟨k0, -⟩ := hx.2.2.2.2.1
  · have c3 : Steps p.tables e below (s₁.setTop (entryFrame m #[.ref x, .int (Int32.ofNat i)] 2)) (T2.setTop (mkF m 8 #[.val (.ref x), .val (.int (Int32.ofNat i))] [.ref x])) := Steps.trans g2 (by
      refine XS.ifNo X2.here hexec rfl (hb hbytes d4) rfl (i0_eq_f (by decide)) ?_
      refine XS.aloadN X2.here hexec rfl (hb hbytes d7) rfl rfl ?_
      exact Steps.refl _)
    obtain ⟨T4, X4, q4, st4⟩ := X2.hget hexec hown (wk W (.fieldLink "java/lang/String" 9 "java/lang/String" "value" "[B")) hx2.2.1 (g := (mkF m 8 #[.val (.ref x), .val (.int (Int32.ofNat i))] [.ref x])) rfl (rest := []) rfl (hb hbytes d8)
    have hh4 := q4.trans hh2
    have c5 : Steps p.tables e below (s₁.setTop (entryFrame m #[.ref x, .int (Int32.ofNat i)] 2)) (T4.setTop (mkF m 12 #[.val (.ref x), .val (.int (Int32.ofNat i))] [.int (Int32.ofNat i), .ref t])) := (c3.trans (st4 _ (Steps.refl _))).trans (by
      refine XS.iloadN X4.here hexec rfl (hb hbytes d11) rfl ?_
      exact Steps.refl _)
    obtain ⟨v6, T6, X6, E6, g6⟩ := X4.callS hexec (LChA.law l t V i (lo8 (f i)) fm) hown (wks W (staticW "java/lang/String" 495 LChA.yN)) (wk W LChA.tab) (W := 0) (Nat.le_of_ble_eq_true rfl) (Nat.le_of_ble_eq_true rfl) (Nat.le_refl _) (Nat.le_refl _) (g := (mkF m 12 #[.val (.ref x), .val (.int (Int32.ofNat i))] [.int (Int32.ofNat i), .ref t])) rfl (by rw [hml]; rfl) c5 (argsL := [.ref t, .int (Int32.ofNat i)]) (rest := []) rfl rfl (by show 2 * 0 + 0 ≤ _; decide) (hb hbytes d12) (⟨rfl, hx.2.2.2.1.mv X4.warmed.alike hh4, (k2 i hi).1, s3.there X4.warmed.alike hh4, rf⟩)
    obtain ⟨rfl, q6⟩ := E6
    rw [chr8_lo8 hr.1 (k2 i hi).2] at g6
    exact ⟨T6, some (.int (f i)), _, _, _, X6, rfl, rfl, rfl, (fun h => by cases h), ⟨rfl, q6.trans hh4⟩, fun fs hl => Steps.trans g6 (X6.ireturnOut hexec hret (narrow_ch hr.1 hr.2) (Or.inr (Or.inr (Or.inr (Or.inl rfl)))) (hb hbytes d15) hl)⟩
  · exact absurd k0 (by decide)
theorem pays {l : Launch} {R : Room} {p : Program} {e : Env} {below : List Frame} {s : State} {sargs : Array Value} {len W : Nat} (x t : Addr) (V : Cell) (n : Nat) (f : Nat → Int32) (z : Int32) (fm : Value) (i : Nat) (htab : tab.before sargs s = true) (hfr : 4 ≤ R.frames) (hlo : W + 53 ≤ R.locals) :
    Back l R p e below s sargs yN len W (fun A₁ a₁ => A₁.cells + 0 ≤ R.cells ∧ A₁.slots + 0 ≤ R.slots ∧ P x t V n f z fm i a₁ A₁.U) (fun A₁ _ v₁ B₁ => E f i v₁ A₁.U B₁.U ∧ B₁.locs = A₁.locs ++ [] ∧ B₁.cells = A₁.cells + 0 ∧ B₁.slots = A₁.slots + 0) :=
  (law l x t V n f z fm i).pays htab hfr (by omega)
end ChN
end StrChars
namespace StrChars.Road
open Jvm Sem ClassFile Op Lib Jvm.Stand Jvm.Free Jvm.Free.XT
open Jvm.Lib.Cold (StaticIs)
/-- the words of String.charAt(int), the Latin-1 road alone -/
abbrev wordsChN : List Jvm.Cond := [.code ChN.yN ChN.yB 2 (some .char), .initialized ST, .fieldLink ST 9 ST "value" "[B", .fieldLink ST 38 ST "COMPACT_STRINGS" "Z", .fieldLink ST 15 ST "coder" "B", .code IsL.yN IsL.yB 1 (some .boolean), .methodLink ST 492 IsL.yN, .declares IsL.yN, .selects ST IsL.yN IsL.yN, .instanceMethod IsL.yN,
  .methodLink ST 495 LChA.yN, .static LChA.yN, .code LChA.yN LChA.yB 2 (some .char), .initialized "java/lang/StringLatin1", .methodLink "java/lang/StringLatin1" 9 JO.Str_checkIndex.yN, .static JO.Str_checkIndex.yN, .code JO.Str_checkIndex.yN JO.Str_checkIndex.yB 2 none,
  .fieldLink ST 1053 "jdk/internal/util/Preconditions" "SIOOBE_FORMATTER" "Ljava/util/function/BiFunction;", .methodLink ST 1059 JC.PreCheck.yN, .static JC.PreCheck.yN, .code JC.PreCheck.yN JC.PreCheck.yB 3 (some .int), .initialized "jdk/internal/util/Preconditions"]
theorem tabChN_of {a : Array Value} {s : State} (h : ∀ w ∈ wordsChN, w.before a s = true) : ChN.tab.before a s = true := by
  have hp : JC.PreCheck.tab.before a s = true := unparts (wk h (.code JC.PreCheck.yN JC.PreCheck.yB 3 (some .int))) (wks h (.initialized JC.PreCheck.yN.cls :: JC.PreCheck.site))
  have qk := consq hp h
  have hk : JO.Str_checkIndex.tab.before a s = true := unparts (wk qk (.code JO.Str_checkIndex.yN JO.Str_checkIndex.yB 2 none)) (wks qk (.initialized JO.Str_checkIndex.yN.cls :: JO.Str_checkIndex.site))
  have ql := consq hk h
  have hl : LChA.tab.before a s = true := unparts (wk ql (.code LChA.yN LChA.yB 2 (some .char))) (wks ql (.initialized LChA.yN.cls :: LChA.site))
  have hi : IsL.tab.before a s = true := unparts (wk h (.code IsL.yN IsL.yB 1 (some .boolean))) (wks h (.initialized IsL.yN.cls :: IsL.site))
  have q := consq hi (consq hl h)
  exact unparts (wk q (.code ChN.yN ChN.yB 2 (some .char))) (wks q (.initialized ChN.yN.cls :: ChN.site))
theorem movedChN {Z s : State} {a0 args : Array Value} (hZ : Z.Warmed39 s.vm) (hw : ∀ d ∈ wordsChN, d.before a0 Z = true) : ∀ d ∈ wordsChN, d.before args s = true := fun d hd => by
  have t : ∀ d ∈ wordsChN, (d.onTables && d.keepsFace) = true := by decide +kernel
  exact RoadKit.mv hZ (hw d hd) (t d hd)
/-- **charAt(i) OF A LATIN-1 STRING**, i < n: the char -/
theorem chN {p : Program} {l : Launch} {e : Env} {R : Room} {s : State} {args : Array Value} {below : List Frame} {len W : Nat} {Z : State} {a0 : Array Value} {h : Heap} (hZ : Z.Warmed39 s.vm) (hw : ∀ d ∈ wordsChN, d.before a0 Z = true) {kI : Nat} (wi : (Jvm.Cond.instantiable ST kI).before a0 Z = true)
    {x t : Addr} {kb : ClassId} {cs : List Int32} {N2 z : Int32} {vs : List Value} {fm : Value} {i : Nat} {j : Int32} (E : RoadKit.Exa Z h x ST) (V : RoadKit.Fld Z h x ST "value" "[B" (.ref t)) (C : RoadKit.Fld Z h x ST "coder" "B" (.int 0)) (K : RoadKit.Arv Z h t kb .byte N2 vs (.int 0)) (hc : CodA cs 0 N2 vs) (hb : ∀ c ∈ cs, ¬ c < 0 ∧ ¬ (65535 : Int32) < c)
    (S : RoadKit.Sta Z h ST "COMPACT_STRINGS" "Z" (.int z)) (hz : ¬ z = 0) (F : RoadKit.Sta Z h "jdk/internal/util/Preconditions" "SIOOBE_FORMATTER" "Ljava/util/function/BiFunction;" fm) (rf : fm.isRef = true) (l2 : cs.length ≤ 4000) (hi : i < cs.length) (hj : j = Int32.ofNat i) (hfr : 4 ≤ R.frames) (hlo : W + 53 ≤ R.locals) :
    Back l R p e below s args (⟨"java/lang/String", "charAt", "(I)C"⟩ : MethodName) len W (fun P a => a = #[.ref x, .int j] ∧ P.U.heap = h ∧ P.cells + 0 ≤ R.cells ∧ P.slots + 0 ≤ R.slots)
      (fun P _ v B => ∃ L, (v = some (.int (cs.getD i 0)) ∧ L = [] ∧ B.U.heap = h) ∧ B.locs = P.locs ++ L ∧ B.cells = P.cells + 0 ∧ B.slots = P.slots + 0) := by
  subst hj
  intro m meth c P g ig mk a X hg hsize hdg hW hn hp'
  obtain ⟨rfl, rfl, r1, r2⟩ := hp'
  have al : Z.vm.Alike P.U.vm := hZ.alike.trans X.warmed.alike
  obtain ⟨A, hx⟩ := txt_of wi al E V C K hc hb l2
  obtain ⟨v, B, X', ⟨⟨hv, hh⟩, hl, hk, hs⟩, st⟩ := ChN.pays x t A cs.length (fun j => cs.getD j 0) z fm i (tabChN_of (movedChN hZ hw)) hfr hlo m meth c P g ig mk _ X hg hsize hdg hW hn ⟨r1, r2, rfl, hx, hi, sta_is al S, hz, sta_is al F, rf⟩
  exact ⟨v, B, X', ⟨[], ⟨hv, rfl, hh⟩, hl, hk, hs⟩, st⟩
/-- what backV says of its String, as the contracts of this text ask it: cs's low bytes, coder 0 -/
theorem codOf {cs : List Int32} {n : Nat} (hn : cs.length = n) (hb : ∀ c ∈ cs, ¬ 255 < c) : CodA cs 0 (Int32.ofNat n) ((cs.map lo8).map Value.int) := Or.inl ⟨rfl, by rw [hn], by simp [List.map_map, Function.comp_def], hb⟩
end StrChars.Road
end Jvm.Pilot.@@N@@
namespace Jvm.Pilot.@@N@@
open Jvm Jvm.ClassFile Sem Op Lib Jvm.Free Jvm.Stand Jvm.LawKit Jvm.RoadKit Bundle Jvm.Pilot.@@N@@.Jvm.D
/-! own text: a small calculus of roads: 'Go' says that from here the method comes to its end. Third form: the constants of the list PL are paid once. -/
abbrev Cx : Type := (Program × Launch × Env × Room) × (State × MethodId × Array Value × List Frame) × (Method × Code) × (Nat × Nat × Bool × String × List (String × Nat)) × (List (String × Nat) × Nat × Nat)
abbrev Cx.p (C : Cx) : Program := C.1.1
abbrev Cx.l (C : Cx) : Launch := C.1.2.1
abbrev Cx.e (C : Cx) : Env := C.1.2.2.1
abbrev Cx.R (C : Cx) : Room := C.1.2.2.2
abbrev Cx.s (C : Cx) : State := C.2.1.1
abbrev Cx.m (C : Cx) : MethodId := C.2.1.2.1
abbrev Cx.args (C : Cx) : Array Value := C.2.1.2.2.1
abbrev Cx.below (C : Cx) : List Frame := C.2.1.2.2.2
abbrev Cx.meth (C : Cx) : Method := C.2.2.1.1
abbrev Cx.c (C : Cx) : Code := C.2.2.1.2
abbrev Cx.ck (C : Cx) : Nat := C.2.2.2.1.1
abbrev Cx.ns (C : Cx) : Nat := C.2.2.2.1.2.1
abbrev Cx.wide (C : Cx) : Bool := C.2.2.2.1.2.2.1
abbrev Cx.own (C : Cx) : String := C.2.2.2.1.2.2.2.1
abbrev Cx.EL (C : Cx) : List (String × Nat) := C.2.2.2.1.2.2.2.2
abbrev Cx.PL (C : Cx) : List (String × Nat) := C.2.2.2.2.1
abbrev Cx.cs (C : Cx) : Nat := C.2.2.2.2.2.1
abbrev Cx.r (C : Cx) : Nat := C.2.2.2.2.2.2
abbrev StandC (C : Cx) (vm0 : Vm) (T : State) (locs : List Loc) (k n : Nat) : Prop := Stand C.p C.l C.e C.R (C.s.setVm vm0) C.m C.args C.below C.meth C.c T locs k n
abbrev StepsC (C : Cx) (a b : State) : Prop := Steps C.p.tables C.e C.below a b
/-- how many of the constants are not resolved yet -/
def rho (Z : State) (PL : List (String × Nat)) (vm : Vm) : Nat := (PL.filter fun p => ((Z.setVm vm).resolvedAt? p.1 p.2).isNone).length
def big (rm : Room) (r cs : Nat) : Room := { frames := rm.frames, cells := rm.cells + 2 * r, slots := rm.slots + cs * r, locals := rm.locals }
def Ok (C : Cx) (Z : State) (a0 : Array Value) (b : ByteArray) (ml : Nat) (ret : Option FieldType) (nm own : String) (rm : Room) : Prop :=
  C.p.tables.exec = Jvm.exec ∧ C.c.code = b ∧ C.c.maxLocals = ml ∧ C.meth.sig.returnType = ret ∧ C.meth.name = nm ∧ C.own = own ∧ (C.R = big rm C.r C.cs ∧ rho Z C.PL C.s.vm ≤ C.r) ∧ C.meth.locks = false ∧ C.ck = rm.cells ∧ C.ns = rm.slots ∧ EW Z a0 C.EL ∧ (∀ d ∈ tables_1, d.before a0 Z = true)
def Bal (C : Cx) (Z : State) (vm0 : Vm) (k' n' k n : Nat) : Prop := k' + 2 * rho Z C.PL vm0 ≤ k + 2 * rho Z C.PL C.s.vm ∧ n' + C.cs * rho Z C.PL vm0 ≤ n + C.cs * rho Z C.PL C.s.vm
def Hr (C : Cx) (Z : State) (n0 : Nat) (M : List Addr) (T : State) (h : Heap) (k n : Nat) : Prop :=
  ∃ (vm0 : Vm) (locs : List Loc) (k0 k' n' : Nat), StandC C vm0 T locs k' n' ∧ Bal C Z vm0 k' n' k n ∧ T.heap = h ∧ Z.Warmed39 vm0 ∧ vm0.findClass C.own = some C.m.cls ∧ C.s.Since vm0 k0 ∧ k0 ≤ h.size ∧ Fr n0 locs ∧ (C.wide = true ∨ vm0 = C.s.vm) ∧ CHr Z C.EL C.s.vm C.s.heap vm0 h ∧ (∀ x ∈ M, x < h.size ∧ Safe Z C.EL vm0 h x)
/-- a may be written: no constant's String lies there -/
def SafeOk (C : Cx) (Z : State) (M : List Addr) (h : Heap) (a : Addr) : Prop := C.EL = [] ∨ a ∈ M ∨ ∀ vm : Vm, Z.vm.Alike vm → Safe Z C.EL vm h a
def EndC (C : Cx) (Z : State) (o : Outcome) (s₂ : State) (L : List Loc) : Prop := CHr Z C.EL C.s.vm C.s.heap s₂.vm s₂.heap ∧ (C.wide = true → ∃ k n, ReturnedEndW C.s o s₂ L k n ∧ Bal C Z s₂.vm k n C.ck C.ns) ∧ (C.wide = false → FrameEnd C.s o s₂ L C.ck C.ns)
def Go (C : Cx) (Z : State) (n0 : Nat) (Q : Option Value → Heap → Prop) (M : List Addr) (h : Heap) (k n pc : Nat) (L : Array Slot) (S : List Value) : Prop :=
  ∀ T, Hr C Z n0 M T h k n → ∃ (s₂ : State) (o : Outcome), StepsC C (T.setTop (mkF C.m pc L S)) s₂ ∧ s₂.status = .running ∧ Ended s₂ C.below o ∧ ∃ (v : Option Value) (Lc : List Loc), o = .returned v ∧ (Q v s₂.heap ∧ Fr n0 Lc ∧ C.s.heap.size ≤ s₂.heap.size) ∧ EndC C Z o s₂ Lc
section Cal
variable {C : Cx} {Z : State} {a0 : Array Value} {b : ByteArray} {ml : Nat} {ret : Option FieldType} {nm own : String} {rm : Room} {n0 : Nat} {Q : Option Value → Heap → Prop} {M : List Addr} {h : Heap} {k n pc : Nat} {L : Array Slot} {S : List Value}
theorem Ok.hw (o : Ok C Z a0 b ml ret nm own rm) : ∀ d ∈ tables_1, d.before a0 Z = true := o.2.2.2.2.2.2.2.2.2.2.2
theorem Ok.ew (o : Ok C Z a0 b ml ret nm own rm) : EW Z a0 C.EL := o.2.2.2.2.2.2.2.2.2.2.1
theorem Ok.bigR (o : Ok C Z a0 b ml ret nm own rm) : C.R = big rm C.r C.cs := o.2.2.2.2.2.2.1.1
theorem Ok.rr (o : Ok C Z a0 b ml ret nm own rm) : rho Z C.PL C.s.vm ≤ C.r := o.2.2.2.2.2.2.1.2
theorem Ok.rf (o : Ok C Z a0 b ml ret nm own rm) {x : Nat} (h : x ≤ rm.frames) : x ≤ C.R.frames := by rw [o.bigR]; exact h
theorem Ok.rl (o : Ok C Z a0 b ml ret nm own rm) {x : Nat} (h : x ≤ rm.locals) : x ≤ C.R.locals := by rw [o.bigR]; exact h
theorem rho_le (PL : List (String × Nat)) (vm : Vm) : rho Z PL vm ≤ PL.length := List.length_filter_le _ _
theorem Ok.rc (o : Ok C Z a0 b ml ret nm own rm) {vm0 : Vm} {k' n' d : Nat} (B : Bal C Z vm0 k' n' k n) (h : k + d ≤ rm.cells) : k' + d ≤ C.R.cells := by
  rw [o.bigR]; show k' + d ≤ rm.cells + 2 * C.r
  have := o.rr; have := B.1; omega
theorem Ok.rs (o : Ok C Z a0 b ml ret nm own rm) {vm0 : Vm} {k' n' d : Nat} (B : Bal C Z vm0 k' n' k n) (h : n + d ≤ rm.slots) : n' + d ≤ C.R.slots := by
  rw [o.bigR]; show n' + d ≤ rm.slots + C.cs * C.r
  have := Nat.mul_le_mul_left C.cs o.rr; have := B.2; omega
theorem Bal.add {vm0 : Vm} {k' n' : Nat} (B : Bal C Z vm0 k' n' k n) (d e : Nat) : Bal C Z vm0 (k' + d) (n' + e) (k + d) (n + e) := ⟨by have := B.1; omega, by have := B.2; omega⟩
theorem rho_mono {PL : List (String × Nat)} {vm0 vm1 : Vm} (hW : (Z.setVm vm0).Warmed39 vm1) : rho Z PL vm1 ≤ rho Z PL vm0 := by
  induction PL with
  | nil => exact Nat.le_refl _
  | cons p t ih =>
    have ih : (t.filter fun p => ((Z.setVm vm1).resolvedAt? p.1 p.2).isNone).length ≤ (t.filter fun p => ((Z.setVm vm0).resolvedAt? p.1 p.2).isNone).length := ih
    show ((p :: t).filter fun p => ((Z.setVm vm1).resolvedAt? p.1 p.2).isNone).length ≤ ((p :: t).filter fun p => ((Z.setVm vm0).resolvedAt? p.1 p.2).isNone).length
    rw [List.filter_cons, List.filter_cons]
    cases h0 : (Z.setVm vm0).resolvedAt? p.1 p.2 with
    | none =>
      simp only [Option.isNone_none, if_true, List.length_cons]
      split
      · simp only [List.length_cons]; omega
      · omega
    | some r =>
      have h1 : (Z.setVm vm1).resolvedAt? p.1 p.2 = some r := State.resolvedAt?_warmed39 (s := Z.setVm vm0) hW h0
      rw [h1]; simpa using ih
theorem rho_step {PL : List (String × Nat)} {vm0 vm1 : Vm} (hW : (Z.setVm vm0).Warmed39 vm1) {p : String × Nat} (hp : p ∈ PL) (h0 : (Z.setVm vm0).resolvedAt? p.1 p.2 = none) {r : Resolved} (h1 : (Z.setVm vm1).resolvedAt? p.1 p.2 = some r) : rho Z PL vm1 + 1 ≤ rho Z PL vm0 := by
  induction PL with
  | nil => cases hp
  | cons q t ih =>
    have hm : rho Z t vm1 ≤ rho Z t vm0 := rho_mono hW
    have hm' : (t.filter fun p => ((Z.setVm vm1).resolvedAt? p.1 p.2).isNone).length ≤ (t.filter fun p => ((Z.setVm vm0).resolvedAt? p.1 p.2).isNone).length := hm
    show ((q :: t).filter fun p => ((Z.setVm vm1).resolvedAt? p.1 p.2).isNone).length + 1 ≤ ((q :: t).filter fun p => ((Z.setVm vm0).resolvedAt? p.1 p.2).isNone).length
    rw [List.filter_cons, List.filter_cons]
    rcases List.mem_cons.mp hp with rfl | hp
    · rw [h0, h1]; simp; omega
    · have ih : (t.filter fun p => ((Z.setVm vm1).resolvedAt? p.1 p.2).isNone).length + 1 ≤ (t.filter fun p => ((Z.setVm vm0).resolvedAt? p.1 p.2).isNone).length := ih hp
      cases hq : (Z.setVm vm0).resolvedAt? q.1 q.2 with
      | none =>
        simp only [Option.isNone_none, if_true, List.length_cons]
        split
        · simp only [List.length_cons]; omega
        · omega
      | some r' =>
        have hq1 : (Z.setVm vm1).resolvedAt? q.1 q.2 = some r' := State.resolvedAt?_warmed39 (s := Z.setVm vm0) hW hq
        rw [hq1]; simpa using ih
theorem Bal.warm {vm0 vm1 : Vm} {k' n' : Nat} (B : Bal C Z vm0 k' n' k n) (hW : (Z.setVm vm0).Warmed39 vm1) : Bal C Z vm1 k' n' k n := by
  have q := rho_mono (Z := Z) (PL := C.PL) hW
  exact ⟨by have := B.1; omega, by have := B.2; have := Nat.mul_le_mul_left C.cs q; omega⟩
theorem Ok.hown (o : Ok C Z a0 b ml ret nm own rm) : C.own = own := o.2.2.2.2.2.1
theorem Ok.hret (o : Ok C Z a0 b ml ret nm own rm) : C.meth.sig.returnType = ret := o.2.2.2.1
theorem Go.by {pc' : Nat} {L' : Array Slot} {S' : List Value} (K : Go C Z n0 Q M h k n pc' L' S')
    (st : ∀ (T : State) (vm0 : Vm) (locs : List Loc) (k' n' : Nat) (target : State), StandC C vm0 T locs k' n' → Z.Warmed39 vm0 → vm0.findClass C.own = some C.m.cls → T.heap = h → StepsC C (T.setTop (mkF C.m pc' L' S')) target → StepsC C (T.setTop (mkF C.m pc L S)) target) : Go C Z n0 Q M h k n pc L S := fun T H => by
  obtain ⟨s₂, oc, s1, r⟩ := K T H
  obtain ⟨vm0, locs, k0, k', n', X, B, e1, e2, e3, -⟩ := H
  exact ⟨s₂, oc, st T vm0 locs k' n' s₂ X e2 e3 e1 s1, r⟩
/-- the heap goes on from h to h', and the constants' invariant with it -/
def Mv (C : Cx) (Z : State) (M M' : List Addr) (h h' : Heap) : Prop := ∀ vm0 : Vm, Z.Warmed39 vm0 → CHv Z C.EL vm0 h → (∀ x ∈ M, x < h.size ∧ Safe Z C.EL vm0 h x) → CHr Z C.EL vm0 h vm0 h' ∧ ∀ x ∈ M', x < h'.size ∧ Safe Z C.EL vm0 h' x
theorem safe_nil {vm : Vm} {a : Addr} {EL : List (String × Nat)} (hE : EL = []) : Safe Z EL vm h a := fun B => by
  obtain ⟨p, hp, -⟩ := B
  rw [hE] at hp; cases hp
theorem chr_nil {vm vm1 : Vm} {h' : Heap} {EL : List (String × Nat)} (hE : EL = []) (hs : h.size ≤ h'.size) : CHr Z EL vm h vm1 h' := ⟨fun p hp => (by rw [hE] at hp; cases hp), hs, fun y q => absurd q (safe_nil hE)⟩
theorem SafeOk.safe {a : Addr} (q : SafeOk C Z M h a) {vm0 : Vm} (hZ : Z.Warmed39 vm0) (hM : ∀ x ∈ M, x < h.size ∧ Safe Z C.EL vm0 h x) : Safe Z C.EL vm0 h a := by
  rcases q with q | q | q
  · exact safe_nil q
  · exact (hM a q).2
  · exact q vm0 hZ.alike
theorem Mv.refl : Mv C Z M M h h := fun vm0 hZ H hM => ⟨CHr.refl H, hM⟩
theorem Mv.ext {h' : Heap} (E : Ext h h') : Mv C Z M M h h' := fun vm0 hZ H hM => ⟨CHr.ext E H, fun x hx => ⟨Nat.lt_of_lt_of_le (hM x hx).1 E.1, Safe.ext E H (hM x hx).2⟩⟩
theorem Mv.new {h' : Heap} {M' : List Addr} (E : Ext h h') (hl : h.size < h'.size) (hM' : ∀ x ∈ M', x ∈ M ∨ x = h.size) : Mv C Z M M' h h' := fun vm0 hZ H hM => ⟨CHr.ext E H, fun x hx => by
  rcases hM' x hx with q | rfl
  · exact ⟨Nat.lt_of_lt_of_le (hM x q).1 E.1, Safe.ext E H (hM x q).2⟩
  · exact ⟨hl, Safe.ext E H (Safe.new (Nat.le_refl _))⟩⟩
theorem Mv.wr {h' : Heap} {a : Addr} {sl : Nat} {v : Value} (W : Wr h h' a sl v) (q : SafeOk C Z M h a) : Mv C Z M M h h' := fun vm0 hZ H hM => ⟨CHr.wr W (q.safe hZ hM) H, fun x hx => ⟨by rw [W.size]; exact (hM x hx).1, Safe.wr W (q.safe hZ hM) H (hM x hx).2⟩⟩
theorem Mv.keep {h' : Heap} {ws : List Addr} (K : Keep h h' ws) (q : ∀ x ∈ ws, SafeOk C Z M h x) : Mv C Z M M h h' := fun vm0 hZ H hM =>
  have hs : ∀ x ∈ ws, Safe Z C.EL vm0 h x := fun x hx => (q x hx).safe hZ hM
  ⟨CHr.keep K hs H, fun x hx => ⟨Nat.lt_of_lt_of_le (hM x hx).1 K.1, Safe.keep K hs H (hM x hx).2⟩⟩
theorem Mv.triv {h' : Heap} (hE : C.EL = []) (hs : h.size ≤ h'.size) : Mv C Z M M h h' := fun vm0 hZ H hM => ⟨chr_nil hE hs, fun x hx => ⟨Nat.lt_of_lt_of_le (hM x hx).1 hs, safe_nil hE⟩⟩
theorem Go.via {ι : Type} {P : ι → Heap → Prop} {S' : ι → List Value} {dk dn pc' : Nat} {L' : Array Slot} {M' : List Addr} (K : ∀ i h', P i h' → Go C Z n0 Q M' h' (k + dk) (n + dn) pc' L' (S' i))
    (st : ∀ (T : State) (vm0 : Vm) (locs : List Loc) (k' n' : Nat), StandC C vm0 T locs k' n' → Bal C Z vm0 k' n' k n → Z.Warmed39 vm0 → vm0.findClass C.own = some C.m.cls → T.heap = h → Fr n0 locs →
      ∃ (i : ι) (T' : State) (locs' : List Loc) (h' : Heap), P i h' ∧ StandC C vm0 T' locs' (k' + dk) (n' + dn) ∧ T'.heap = h' ∧ Fr n0 locs' ∧ Mv C Z M M' h h' ∧ ∀ target, StepsC C (T'.setTop (mkF C.m pc' L' (S' i))) target → StepsC C (T.setTop (mkF C.m pc L S)) target) : Go C Z n0 Q M h k n pc L S := fun T H => by
  obtain ⟨vm0, locs, k0, k', n', X, B, e1, e2, e3, e4, e5, e6, e7, e8, e9⟩ := H
  obtain ⟨i, T', locs', h', hP, X', e1', N', mv', step⟩ := st T vm0 locs k' n' X B e2 e3 e1 e6
  obtain ⟨m1, m2⟩ := mv' vm0 e2 e8.1 e9
  obtain ⟨s₂, oc, s1, r⟩ := K i h' hP T' ⟨vm0, locs', k0, _, _, X', B.add dk dn, e1', e2, e3, e4, Nat.le_trans e5 m1.2.1, N', e7, e8.trans m1, m2⟩
  exact ⟨s₂, oc, step _ s1, r⟩
theorem Go.viaW (hwide : C.wide = true) {ι : Type} {P : ι → Heap → Prop} {S' : ι → List Value} {dk dn pc' : Nat} {L' : Array Slot} (K : ∀ i h', P i h' → Go C Z n0 Q M h' (k + dk) (n + dn) pc' L' (S' i))
    (st : ∀ (T : State) (vm0 : Vm) (locs : List Loc) (k0 k' n' : Nat), StandC C vm0 T locs k' n' → Bal C Z vm0 k' n' k n → Z.Warmed39 vm0 → vm0.findClass C.own = some C.m.cls → T.heap = h → Fr n0 locs → C.s.Since vm0 k0 → k0 ≤ h.size → CHv Z C.EL vm0 h → (∀ x ∈ M, x < h.size ∧ Safe Z C.EL vm0 h x) →
      ∃ (i : ι) (T' : State) (vm1 : Vm) (locs' : List Loc) (h' : Heap) (k1 k2 n2 : Nat), P i h' ∧ StandC C vm1 T' locs' k2 n2 ∧ Bal C Z vm1 k2 n2 (k + dk) (n + dn) ∧ T'.heap = h' ∧ Fr n0 locs' ∧ C.s.Since vm1 k1 ∧ k1 ≤ h'.size ∧ Z.Warmed39 vm1 ∧ vm1.findClass C.own = some C.m.cls ∧ CHr Z C.EL vm0 h vm1 h' ∧
        ∀ target, StepsC C (T'.setTop (mkF C.m pc' L' (S' i))) target → StepsC C (T.setTop (mkF C.m pc L S)) target) : Go C Z n0 Q M h k n pc L S := fun T H => by
  obtain ⟨vm0, locs, k0, k', n', X, B, e1, e2, e3, e4, e5, e6, e7, e8, e9⟩ := H
  obtain ⟨i, T', vm1, locs', h', k1, k2, n2, hP, X', B', e1', N', hS, hk, hW, hf, hC, step⟩ := st T vm0 locs k0 k' n' X B e2 e3 e1 e6 e4 e5 e8.1 e9
  obtain ⟨s₂, oc, s1, r⟩ := K i h' hP T' ⟨vm1, locs', k1, k2, n2, X', B', e1', hW, hf, hS, hk, N', Or.inl hwide, e8.trans hC, fun x hx => ⟨Nat.lt_of_lt_of_le (e9 x hx).1 hC.2.1, hC.safe (e9 x hx).1 (e9 x hx).2⟩⟩
  exact ⟨s₂, oc, step _ s1, r⟩
theorem Go.mine {x : Addr} (hx : x < h.size) (hs : ∀ vm : Vm, Z.vm.Alike vm → Safe Z C.EL vm h x) (K : Go C Z n0 Q (x :: M) h k n pc L S) : Go C Z n0 Q M h k n pc L S := fun T H => by
  obtain ⟨vm0, locs, k0, k', n', X, B, e1, e2, e3, e4, e5, e6, e7, e8, e9⟩ := H
  exact K T ⟨vm0, locs, k0, k', n', X, B, e1, e2, e3, e4, e5, e6, e7, e8, fun y hy => by
    rcases List.mem_cons.mp hy with rfl | q
    · exact ⟨hx, hs vm0 e2.alike⟩
    · exact e9 y q⟩
theorem Go.less {M' : List Addr} (hM : ∀ x ∈ M', x ∈ M) (K : Go C Z n0 Q M' h k n pc L S) : Go C Z n0 Q M h k n pc L S := fun T H => by
  obtain ⟨vm0, locs, k0, k', n', X, B, e1, e2, e3, e4, e5, e6, e7, e8, e9⟩ := H
  exact K T ⟨vm0, locs, k0, k', n', X, B, e1, e2, e3, e4, e5, e6, e7, e8, fun y hy => e9 y (hM y hy)⟩
theorem Go.mono {k1 n1 : Nat} (hk : k ≤ k1) (hn : n ≤ n1) (K : Go C Z n0 Q M h k1 n1 pc L S) : Go C Z n0 Q M h k n pc L S := fun T H => by
  obtain ⟨vm0, locs, k0, k', n', X, B, r⟩ := H
  exact K T ⟨vm0, locs, k0, k', n', X, ⟨by have := B.1; omega, by have := B.2; omega⟩, r⟩
theorem Go.at {pc' : Nat} {L' : Array Slot} {S' : List Value} (K : Go C Z n0 Q M h k n pc' L' S') (hp : pc' = pc) (hL : L' = L) (hS : S' = S) : Go C Z n0 Q M h k n pc L S := by subst hp hL hS; exact K
/-! the return -/
theorem g_end (o : Ok C Z a0 b ml ret nm own rm) {v : Option Value} (q : Q v h) (hk : k ≤ rm.cells) (hn : n ≤ rm.slots) (hv : ret = none → v = none)
    (st : ∀ (T : State) (vm0 : Vm) (locs : List Loc) (k' n' : Nat) (fs : List Frame), StandC C vm0 T locs k' n' → (∀ (f : JFrame) (acts : List Action), f.method = C.m → f.locked = none → f.entered = [] → (doReturn C.e (T.setTop f) acts v).1 = T.setFrames fs) → StepsC C (T.setTop (mkF C.m pc L S)) (T.setFrames fs)) : Go C Z n0 Q M h k n pc L S := fun T H => by
  obtain ⟨vm0, locs, k0, k', n', X, B, e1, e2, e3, e4, e5, e6, e7, e8, -⟩ := H
  subst e1
  have hch : CHr Z C.EL C.s.vm C.s.heap T.vm T.heap := e8.trans (CHv.at X e2 o.ew e8.1)
  have hlk := o.2.2.2.2.2.2.2.1
  have hk' : k ≤ C.ck := by rw [o.2.2.2.2.2.2.2.2.1]; exact hk
  have hn' : n ≤ C.ns := by rw [o.2.2.2.2.2.2.2.2.2.1]; exact hn
  have hsz : C.s.heap.size ≤ T.heap.size := X.same.2.1
  have hwz : (Z.setVm vm0).Warmed39 T.vm := (X.warmed.wide :)
  have B1 : Bal C Z vm0 k' n' C.ck C.ns := ⟨by have := B.1; omega, by have := B.2; omega⟩
  rcases hw : C.wide with _ | _
  · have e8' : vm0 = C.s.vm := by rcases e7 with e7 | e7; · rw [hw] at e7; cases e7
                                  · exact e7
    subst e8'
    have X' := X.more (cells' := C.ck) (slots' := C.ns) (by have := B1.1; omega) (by have := B1.2; omega)
    obtain ⟨fs, hr, hrun, hended, hW, hsame⟩ := X'.leave (v := v) (fun hh => hv (o.hret.symm.trans hh)) hlk
    exact ⟨_, _, st T _ locs _ _ fs X hr, hrun, hended, v, locs, rfl, ⟨q, e6, hsz⟩, hch, fun hh => (by rw [hw] at hh; cases hh), fun _ => ⟨⟨v, rfl⟩, hW, hsame⟩⟩
  · obtain ⟨fs2, hr2, hrun2, hended2, hWW⟩ := X.leaveW (v := v) e4 e5 (fun hh => hv (o.hret.symm.trans hh)) hlk
    exact ⟨_, _, st T _ locs _ _ fs2 X hr2, hrun2, hended2, v, locs, rfl, ⟨q, e6, hsz⟩, hch, fun _ => ⟨_, _, hWW, B1.warm hwz⟩, fun hh => (by rw [hw] at hh; cases hh)⟩
theorem g_ireturn (o : Ok C Z a0 b ml (some .int) nm own rm) {x : Int32} (d : decode b pc = .ok (.ireturn, 1)) (q : Q (some (.int x)) h) (hk : k ≤ rm.cells) (hn : n ≤ rm.slots) : Go C Z n0 Q M h k n pc L (.int x :: S) :=
  g_end o (v := some (.int x)) q hk hn (fun hh => by cases hh) fun T vm0 locs _ _ fs X hr => retOut X o.1 o.hret rfl (Or.inl ⟨rfl, Or.inl rfl, x, rfl⟩) (hb o.2.1 d) hr
theorem g_nreturn {t : FieldType} (o : Ok C Z a0 b ml (some t) nm own rm) {x y : Int32} (ht : t = .boolean ∨ t = .byte ∨ t = .char ∨ t = .short) (d : decode b pc = .ok (.ireturn, 1)) (hy : nar t x = y) (q : Q (some (.int y)) h) (hk : k ≤ rm.cells) (hn : n ≤ rm.slots) : Go C Z n0 Q M h k n pc L (.int x :: S) :=
  g_end o (v := some (.int y)) q hk hn (fun hh => by cases hh) fun T vm0 locs _ _ fs X hr => retN X o.1 o.hret ht (hb o.2.1 d) (by rw [hy]; exact hr)
theorem g_areturn {t : FieldType} (o : Ok C Z a0 b ml (some t) nm own rm) {w : Value} (ht : t.isReference = true) (hw : w.isRef = true) (d : decode b pc = .ok (.areturn, 1)) (q : Q (some w) h) (hk : k ≤ rm.cells) (hn : n ≤ rm.slots) : Go C Z n0 Q M h k n pc L (w :: S) :=
  g_end o (v := some w) q hk hn (fun hh => by cases hh) fun T vm0 locs _ _ fs X hr => retOut X o.1 o.hret (by cases t <;> first | (cases ht; done) | (rcases ref_cases hw with rfl | ⟨z, rfl⟩ <;> rfl)) (Or.inr (Or.inr (Or.inr (Or.inr ⟨rfl, ht, hw⟩)))) (hb o.2.1 d) hr
theorem g_return (o : Ok C Z a0 b ml none nm own rm) (d : decode b pc = .ok (.return_, 1)) (q : Q none h) (hk : k ≤ rm.cells) (hn : n ≤ rm.slots) : Go C Z n0 Q M h k n pc L [] :=
  g_end o (v := none) q hk hn (fun _ => rfl) fun T vm0 locs _ _ fs X hr => X.returnOut o.1 o.hret (hb o.2.1 d) hr
/-! plain steps -/
theorem g_aload_n (o : Ok C Z a0 b ml ret nm own rm) {j : Fin 4} {v : Value} (d : decode b pc = .ok (.aload_n j, 1)) (hl : L[j.val]? = some (.val (v))) (hv : v.isRef = true) (K : Go C Z n0 Q M h k n (pc + 1) L (v :: S)) : Go C Z n0 Q M h k n pc L (S) :=
  K.by fun T vm0 locs _ _ target X _ _ _ st => XS.aloadN X.here o.1 rfl (hb o.2.1 d) hl hv st
theorem g_aload (o : Ok C Z a0 b ml ret nm own rm) {j : Nat} {v : Value} (d : decode b pc = .ok (.aload j, 2)) (hl : L[j]? = some (.val (v))) (hv : v.isRef = true) (K : Go C Z n0 Q M h k n (pc + 2) L (v :: S)) : Go C Z n0 Q M h k n pc L (S) :=
  K.by fun T vm0 locs _ _ target X _ _ _ st => XS.aload X.here o.1 rfl (hb o.2.1 d) hl hv st
theorem g_iload_n (o : Ok C Z a0 b ml ret nm own rm) {j : Fin 4} {v : Int32} (d : decode b pc = .ok (.iload_n j, 1)) (hl : L[j.val]? = some (.val (.int v))) (K : Go C Z n0 Q M h k n (pc + 1) L (.int v :: S)) : Go C Z n0 Q M h k n pc L (S) :=
  K.by fun T vm0 locs _ _ target X _ _ _ st => XS.iloadN X.here o.1 rfl (hb o.2.1 d) hl st
theorem g_iload (o : Ok C Z a0 b ml ret nm own rm) {j : Nat} {v : Int32} (d : decode b pc = .ok (.iload j, 2)) (hl : L[j]? = some (.val (.int v))) (K : Go C Z n0 Q M h k n (pc + 2) L (.int v :: S)) : Go C Z n0 Q M h k n pc L (S) :=
  K.by fun T vm0 locs _ _ target X _ _ _ st => XS.iload X.here o.1 rfl (hb o.2.1 d) hl st
theorem g_lload_n (o : Ok C Z a0 b ml ret nm own rm) {j : Fin 4} {v : Int64} (d : decode b pc = .ok (.lload_n j, 1)) (hl : L[j.val]? = some (.val (.long v))) (K : Go C Z n0 Q M h k n (pc + 1) L (.long v :: S)) : Go C Z n0 Q M h k n pc L (S) :=
  K.by fun T vm0 locs _ _ target X _ _ _ st => XT.lloadN X.here o.1 rfl (hb o.2.1 d) hl st
theorem g_lload (o : Ok C Z a0 b ml ret nm own rm) {j : Nat} {v : Int64} (d : decode b pc = .ok (.lload j, 2)) (hl : L[j]? = some (.val (.long v))) (K : Go C Z n0 Q M h k n (pc + 2) L (.long v :: S)) : Go C Z n0 Q M h k n pc L (S) :=
  K.by fun T vm0 locs _ _ target X _ _ _ st => XT.lload X.here o.1 rfl (hb o.2.1 d) hl st
theorem g_astore_n (o : Ok C Z a0 b ml ret nm own rm) {j : Fin 4} {v : Value} {L' : Array Slot} (d : decode b pc = .ok (.astore_n j, 1)) (hv : v.isRef = true) (hl : storeLocals L j.val (v) = some L') (K : Go C Z n0 Q M h k n (pc + 1) L' (S)) : Go C Z n0 Q M h k n pc L (v :: S) :=
  K.by fun T vm0 locs _ _ target X _ _ _ st => XS.astoreN X.here o.1 rfl (hb o.2.1 d) rfl hv hl st
theorem g_astore (o : Ok C Z a0 b ml ret nm own rm) {j : Nat} {v : Value} {L' : Array Slot} (d : decode b pc = .ok (.astore j, 2)) (hv : v.isRef = true) (hl : storeLocals L j (v) = some L') (K : Go C Z n0 Q M h k n (pc + 2) L' (S)) : Go C Z n0 Q M h k n pc L (v :: S) :=
  K.by fun T vm0 locs _ _ target X _ _ _ st => XS.astore X.here o.1 rfl (hb o.2.1 d) rfl hv hl st
theorem g_istore_n (o : Ok C Z a0 b ml ret nm own rm) {j : Fin 4} {v : Int32} {L' : Array Slot} (d : decode b pc = .ok (.istore_n j, 1)) (hl : storeLocals L j.val (.int v) = some L') (K : Go C Z n0 Q M h k n (pc + 1) L' (S)) : Go C Z n0 Q M h k n pc L (.int v :: S) :=
  K.by fun T vm0 locs _ _ target X _ _ _ st => XS.istoreN X.here o.1 rfl (hb o.2.1 d) rfl hl st
theorem g_istore (o : Ok C Z a0 b ml ret nm own rm) {j : Nat} {v : Int32} {L' : Array Slot} (d : decode b pc = .ok (.istore j, 2)) (hl : storeLocals L j (.int v) = some L') (K : Go C Z n0 Q M h k n (pc + 2) L' (S)) : Go C Z n0 Q M h k n pc L (.int v :: S) :=
  K.by fun T vm0 locs _ _ target X _ _ _ st => XS.istore X.here o.1 rfl (hb o.2.1 d) rfl hl st
theorem g_lstore_n (o : Ok C Z a0 b ml ret nm own rm) {j : Fin 4} {v : Int64} {L' : Array Slot} (d : decode b pc = .ok (.lstore_n j, 1)) (hl : storeLocals L j.val (.long v) = some L') (K : Go C Z n0 Q M h k n (pc + 1) L' (S)) : Go C Z n0 Q M h k n pc L (.long v :: S) :=
  K.by fun T vm0 locs _ _ target X _ _ _ st => XT.lstoreN X.here o.1 rfl (hb o.2.1 d) rfl hl st
theorem g_lstore (o : Ok C Z a0 b ml ret nm own rm) {j : Nat} {v : Int64} {L' : Array Slot} (d : decode b pc = .ok (.lstore j, 2)) (hl : storeLocals L j (.long v) = some L') (K : Go C Z n0 Q M h k n (pc + 2) L' (S)) : Go C Z n0 Q M h k n pc L (.long v :: S) :=
  K.by fun T vm0 locs _ _ target X _ _ _ st => XT.lstore X.here o.1 rfl (hb o.2.1 d) rfl hl st
theorem g_iinc (o : Ok C Z a0 b ml ret nm own rm) {j : Nat} {i : Int} {v w : Int32} {L' : Array Slot} (d : decode b pc = .ok (.iinc j i, 3)) (hl : L[j]? = some (.val (.int v))) (hv : v + Int32.ofInt i = w) (hl' : storeLocals L j (.int w) = some L') (K : Go C Z n0 Q M h k n (pc + 3) L' (S)) : Go C Z n0 Q M h k n pc L (S) :=
  K.by fun T vm0 locs _ _ target X _ _ _ st => XS.iinc X.here o.1 rfl (hb o.2.1 d) hl (hv ▸ hl') st
theorem g_iconst (o : Ok C Z a0 b ml ret nm own rm) {i : Int} {v : Int32} (d : decode b pc = .ok (.iconst i, 1)) (hv : Int32.ofInt i = v) (K : Go C Z n0 Q M h k n (pc + 1) L (.int v :: S)) : Go C Z n0 Q M h k n pc L (S) :=
  K.by fun T vm0 locs _ _ target X _ _ _ st => XS.iconst X.here o.1 rfl (hb o.2.1 d) (hv ▸ st)
theorem g_bipush (o : Ok C Z a0 b ml ret nm own rm) {i : Int} {v : Int32} (d : decode b pc = .ok (.bipush i, 2)) (hv : (Int8.ofInt i).toInt32 = v) (K : Go C Z n0 Q M h k n (pc + 2) L (.int v :: S)) : Go C Z n0 Q M h k n pc L (S) :=
  K.by fun T vm0 locs _ _ target X _ _ _ st => XS.bipush X.here o.1 rfl (hb o.2.1 d) (hv ▸ st)
theorem g_sipush (o : Ok C Z a0 b ml ret nm own rm) {i : Int} {v : Int32} (d : decode b pc = .ok (.sipush i, 3)) (hv : (Int16.ofInt i).toInt32 = v) (K : Go C Z n0 Q M h k n (pc + 3) L (.int v :: S)) : Go C Z n0 Q M h k n pc L (S) :=
  K.by fun T vm0 locs _ _ target X _ _ _ st => XS.sipush X.here o.1 rfl (hb o.2.1 d) (hv ▸ st)
theorem g_lconst (o : Ok C Z a0 b ml ret nm own rm) {i : Fin 2} {v : Int64} (d : decode b pc = .ok (.lconst i, 1)) (hv : Int64.ofNat i = v) (K : Go C Z n0 Q M h k n (pc + 1) L (.long v :: S)) : Go C Z n0 Q M h k n pc L (S) :=
  K.by fun T vm0 locs _ _ target X _ _ _ st => XT.lconst X.here o.1 rfl (hb o.2.1 d) (hv ▸ st)
theorem g_aconst_null (o : Ok C Z a0 b ml ret nm own rm)  (d : decode b pc = .ok (.aconst_null, 1)) (K : Go C Z n0 Q M h k n (pc + 1) L (.null :: S)) : Go C Z n0 Q M h k n pc L (S) :=
  K.by fun T vm0 locs _ _ target X _ _ _ st => XS.aconstNull X.here o.1 rfl (hb o.2.1 d) st
theorem g_iadd (o : Ok C Z a0 b ml ret nm own rm) {x y v : Int32} (d : decode b pc = .ok (.iadd, 1)) (hv : x + y = v) (K : Go C Z n0 Q M h k n (pc + 1) L (.int v :: S)) : Go C Z n0 Q M h k n pc L (.int y :: .int x :: S) :=
  K.by fun T vm0 locs _ _ target X _ _ _ st => XS.iadd X.here o.1 rfl (hb o.2.1 d) rfl (hv ▸ st)
theorem g_isub (o : Ok C Z a0 b ml ret nm own rm) {x y v : Int32} (d : decode b pc = .ok (.isub, 1)) (hv : x - y = v) (K : Go C Z n0 Q M h k n (pc + 1) L (.int v :: S)) : Go C Z n0 Q M h k n pc L (.int y :: .int x :: S) :=
  K.by fun T vm0 locs _ _ target X _ _ _ st => XS.isub X.here o.1 rfl (hb o.2.1 d) rfl (hv ▸ st)
theorem g_imul (o : Ok C Z a0 b ml ret nm own rm) {x y v : Int32} (d : decode b pc = .ok (.imul, 1)) (hv : x * y = v) (K : Go C Z n0 Q M h k n (pc + 1) L (.int v :: S)) : Go C Z n0 Q M h k n pc L (.int y :: .int x :: S) :=
  K.by fun T vm0 locs _ _ target X _ _ _ st => XS.imul X.here o.1 rfl (hb o.2.1 d) rfl (hv ▸ st)
theorem g_iand (o : Ok C Z a0 b ml ret nm own rm) {x y v : Int32} (d : decode b pc = .ok (.iand, 1)) (hv : x &&& y = v) (K : Go C Z n0 Q M h k n (pc + 1) L (.int v :: S)) : Go C Z n0 Q M h k n pc L (.int y :: .int x :: S) :=
  K.by fun T vm0 locs _ _ target X _ _ _ st => XS.iand X.here o.1 rfl (hb o.2.1 d) rfl (hv ▸ st)
theorem g_ior (o : Ok C Z a0 b ml ret nm own rm) {x y v : Int32} (d : decode b pc = .ok (.ior, 1)) (hv : x ||| y = v) (K : Go C Z n0 Q M h k n (pc + 1) L (.int v :: S)) : Go C Z n0 Q M h k n pc L (.int y :: .int x :: S) :=
  K.by fun T vm0 locs _ _ target X _ _ _ st => XT.ior X.here o.1 rfl (hb o.2.1 d) rfl (hv ▸ st)
theorem g_ixor (o : Ok C Z a0 b ml ret nm own rm) {x y v : Int32} (d : decode b pc = .ok (.ixor, 1)) (hv : x ^^^ y = v) (K : Go C Z n0 Q M h k n (pc + 1) L (.int v :: S)) : Go C Z n0 Q M h k n pc L (.int y :: .int x :: S) :=
  K.by fun T vm0 locs _ _ target X _ _ _ st => XT.ixor X.here o.1 rfl (hb o.2.1 d) rfl (hv ▸ st)
theorem g_ishl (o : Ok C Z a0 b ml ret nm own rm) {x y v : Int32} (d : decode b pc = .ok (.ishl, 1)) (hv : x <<< (y &&& 31) = v) (K : Go C Z n0 Q M h k n (pc + 1) L (.int v :: S)) : Go C Z n0 Q M h k n pc L (.int y :: .int x :: S) :=
  K.by fun T vm0 locs _ _ target X _ _ _ st => XT.ishl X.here o.1 rfl (hb o.2.1 d) rfl (hv ▸ st)
theorem g_ishr (o : Ok C Z a0 b ml ret nm own rm) {x y v : Int32} (d : decode b pc = .ok (.ishr, 1)) (hv : x >>> (y &&& 31) = v) (K : Go C Z n0 Q M h k n (pc + 1) L (.int v :: S)) : Go C Z n0 Q M h k n pc L (.int y :: .int x :: S) :=
  K.by fun T vm0 locs _ _ target X _ _ _ st => XT.ishr X.here o.1 rfl (hb o.2.1 d) rfl (hv ▸ st)
theorem g_iushr (o : Ok C Z a0 b ml ret nm own rm) {x y v : Int32} (d : decode b pc = .ok (.iushr, 1)) (hv : XT.ushr x y = v) (K : Go C Z n0 Q M h k n (pc + 1) L (.int v :: S)) : Go C Z n0 Q M h k n pc L (.int y :: .int x :: S) :=
  K.by fun T vm0 locs _ _ target X _ _ _ st => XT.iushr X.here o.1 rfl (hb o.2.1 d) rfl (hv ▸ st)
theorem g_idiv (o : Ok C Z a0 b ml ret nm own rm) {x y v : Int32} (d : decode b pc = .ok (.idiv, 1)) (hy : y ≠ 0) (hv : x / y = v) (K : Go C Z n0 Q M h k n (pc + 1) L (.int v :: S)) : Go C Z n0 Q M h k n pc L (.int y :: .int x :: S) :=
  K.by fun T vm0 locs _ _ target X _ _ _ st => XS.idiv X.here o.1 rfl (hb o.2.1 d) rfl hy (hv ▸ st)
theorem g_irem (o : Ok C Z a0 b ml ret nm own rm) {x y v : Int32} (d : decode b pc = .ok (.irem, 1)) (hy : y ≠ 0) (hv : x % y = v) (K : Go C Z n0 Q M h k n (pc + 1) L (.int v :: S)) : Go C Z n0 Q M h k n pc L (.int y :: .int x :: S) :=
  K.by fun T vm0 locs _ _ target X _ _ _ st => iremM X o.1 rfl (hb o.2.1 d) rfl hy (hv ▸ st)
theorem g_ineg (o : Ok C Z a0 b ml ret nm own rm) {x : Int32} {v : Int32} (d : decode b pc = .ok (.ineg, 1)) (hv : -x = v) (K : Go C Z n0 Q M h k n (pc + 1) L (.int v :: S)) : Go C Z n0 Q M h k n pc L (.int x :: S) :=
  K.by fun T vm0 locs _ _ target X _ _ _ st => XS.ineg X.here o.1 rfl (hb o.2.1 d) rfl (hv ▸ st)
theorem g_i2b (o : Ok C Z a0 b ml ret nm own rm) {x : Int32} {v : Int32} (d : decode b pc = .ok (.i2b, 1)) (hv : x.toInt8.toInt32 = v) (K : Go C Z n0 Q M h k n (pc + 1) L (.int v :: S)) : Go C Z n0 Q M h k n pc L (.int x :: S) :=
  K.by fun T vm0 locs _ _ target X _ _ _ st => XT.i2b X.here o.1 rfl (hb o.2.1 d) rfl (hv ▸ st)
theorem g_i2c (o : Ok C Z a0 b ml ret nm own rm) {x : Int32} {v : Int32} (d : decode b pc = .ok (.i2c, 1)) (hv : x.toUInt32.toUInt16.toUInt32.toInt32 = v) (K : Go C Z n0 Q M h k n (pc + 1) L (.int v :: S)) : Go C Z n0 Q M h k n pc L (.int x :: S) :=
  K.by fun T vm0 locs _ _ target X _ _ _ st => XT.i2c X.here o.1 rfl (hb o.2.1 d) rfl (hv ▸ st)
theorem g_i2s (o : Ok C Z a0 b ml ret nm own rm) {x : Int32} {v : Int32} (d : decode b pc = .ok (.i2s, 1)) (hv : x.toInt16.toInt32 = v) (K : Go C Z n0 Q M h k n (pc + 1) L (.int v :: S)) : Go C Z n0 Q M h k n pc L (.int x :: S) :=
  K.by fun T vm0 locs _ _ target X _ _ _ st => XT.i2s X.here o.1 rfl (hb o.2.1 d) rfl (hv ▸ st)
theorem g_i2l (o : Ok C Z a0 b ml ret nm own rm) {x : Int32} {v : Int64} (d : decode b pc = .ok (.i2l, 1)) (hv : x.toInt64 = v) (K : Go C Z n0 Q M h k n (pc + 1) L (.long v :: S)) : Go C Z n0 Q M h k n pc L (.int x :: S) :=
  K.by fun T vm0 locs _ _ target X _ _ _ st => XT.i2l X.here o.1 rfl (hb o.2.1 d) rfl (hv ▸ st)
theorem g_l2i (o : Ok C Z a0 b ml ret nm own rm) {x : Int64} {v : Int32} (d : decode b pc = .ok (.l2i, 1)) (hv : x.toInt32 = v) (K : Go C Z n0 Q M h k n (pc + 1) L (.int v :: S)) : Go C Z n0 Q M h k n pc L (.long x :: S) :=
  K.by fun T vm0 locs _ _ target X _ _ _ st => XT.l2i X.here o.1 rfl (hb o.2.1 d) rfl (hv ▸ st)
theorem g_ladd (o : Ok C Z a0 b ml ret nm own rm) {x y v : Int64} (d : decode b pc = .ok (.ladd, 1)) (hv : x + y = v) (K : Go C Z n0 Q M h k n (pc + 1) L (.long v :: S)) : Go C Z n0 Q M h k n pc L (.long y :: .long x :: S) :=
  K.by fun T vm0 locs _ _ target X _ _ _ st => XT.ladd X.here o.1 rfl (hb o.2.1 d) rfl (hv ▸ st)
theorem g_lsub (o : Ok C Z a0 b ml ret nm own rm) {x y v : Int64} (d : decode b pc = .ok (.lsub, 1)) (hv : x - y = v) (K : Go C Z n0 Q M h k n (pc + 1) L (.long v :: S)) : Go C Z n0 Q M h k n pc L (.long y :: .long x :: S) :=
  K.by fun T vm0 locs _ _ target X _ _ _ st => XT.lsub X.here o.1 rfl (hb o.2.1 d) rfl (hv ▸ st)
theorem g_land (o : Ok C Z a0 b ml ret nm own rm) {x y v : Int64} (d : decode b pc = .ok (.land, 1)) (hv : x &&& y = v) (K : Go C Z n0 Q M h k n (pc + 1) L (.long v :: S)) : Go C Z n0 Q M h k n pc L (.long y :: .long x :: S) :=
  K.by fun T vm0 locs _ _ target X _ _ _ st => XT.land X.here o.1 rfl (hb o.2.1 d) rfl (hv ▸ st)
theorem g_lcmp (o : Ok C Z a0 b ml ret nm own rm) {x y : Int64} {v : Int32} (d : decode b pc = .ok (.lcmp, 1)) (hv : XT.cmpL x y = v) (K : Go C Z n0 Q M h k n (pc + 1) L (.int v :: S)) : Go C Z n0 Q M h k n pc L (.long y :: .long x :: S) :=
  K.by fun T vm0 locs _ _ target X _ _ _ st => XT.lcmp X.here o.1 rfl (hb o.2.1 d) rfl (hv ▸ st)
theorem g_lushr (o : Ok C Z a0 b ml ret nm own rm) {x v : Int64} {y : Int32} (d : decode b pc = .ok (.lushr, 1)) (hv : XT.ushrL x y = v) (K : Go C Z n0 Q M h k n (pc + 1) L (.long v :: S)) : Go C Z n0 Q M h k n pc L (.int y :: .long x :: S) :=
  K.by fun T vm0 locs _ _ target X _ _ _ st => XT.lushr X.here o.1 rfl (hb o.2.1 d) rfl (hv ▸ st)
theorem g_dup (o : Ok C Z a0 b ml ret nm own rm) {x : Value} (d : decode b pc = .ok (.dup, 1)) (hc : x.category = 1) (K : Go C Z n0 Q M h k n (pc + 1) L (x :: x :: S)) : Go C Z n0 Q M h k n pc L (x :: S) :=
  K.by fun T vm0 locs _ _ target X _ _ _ st => XS.dup X.here o.1 rfl (hb o.2.1 d) rfl hc st
theorem g_pop (o : Ok C Z a0 b ml ret nm own rm) {x : Value} (d : decode b pc = .ok (.pop, 1)) (hc : x.category = 1) (K : Go C Z n0 Q M h k n (pc + 1) L (S)) : Go C Z n0 Q M h k n pc L (x :: S) :=
  K.by fun T vm0 locs _ _ target X _ _ _ st => XT.pop X.here o.1 rfl (hb o.2.1 d) rfl hc st
theorem g_dup_x1 (o : Ok C Z a0 b ml ret nm own rm) {x y : Value} (d : decode b pc = .ok (.dup_x1, 1)) (hc : x.category = 1) (hc' : y.category = 1) (K : Go C Z n0 Q M h k n (pc + 1) L (x :: y :: x :: S)) : Go C Z n0 Q M h k n pc L (x :: y :: S) :=
  K.by fun T vm0 locs _ _ target X _ _ _ st => XT.dupX1 X.here o.1 rfl (hb o.2.1 d) rfl hc hc' st
theorem g_dup2 (o : Ok C Z a0 b ml ret nm own rm) {x y : Value} (d : decode b pc = .ok (.dup2, 1)) (hc : x.category = 1) (hc' : y.category = 1) (K : Go C Z n0 Q M h k n (pc + 1) L (x :: y :: x :: y :: S)) : Go C Z n0 Q M h k n pc L (x :: y :: S) :=
  K.by fun T vm0 locs _ _ target X _ _ _ st => XT.dup2 X.here o.1 rfl (hb o.2.1 d) rfl hc hc' st
theorem g_goto (o : Ok C Z a0 b ml ret nm own rm) {i : Int} {t : Nat} (d : decode b pc = .ok (.goto i, 3)) (ho : 0 ≤ (pc : Int) + i) (ht : ((pc : Int) + i).toNat = t) (K : Go C Z n0 Q M h k n t L S) : Go C Z n0 Q M h k n pc L S :=
  K.by fun T vm0 locs _ _ target X _ _ _ st => XS.goto X.here o.1 rfl (pc0 := pc) rfl (hb o.2.1 d) ho ht st
theorem g_ifC (o : Ok C Z a0 b ml ret nm own rm) {cd : ClassFile.Cond} {P : Prop} {x : Int32} {i : Int} {t : Nat} (d : decode b pc = .ok (.ifCond cd i, 3)) (ho : 0 ≤ (pc : Int) + i) (ht : ((pc : Int) + i).toNat = t) (hP : if_icmp.holds cd x 0 = true ↔ P)
    (Ky : P → Go C Z n0 Q M h k n t L S) (Kn : ¬ P → Go C Z n0 Q M h k n (pc + 3) L S) : Go C Z n0 Q M h k n pc L (.int x :: S) := by
  rw [← if0] at hP
  by_cases hp : P
  · exact (Ky hp).by fun T vm0 locs _ _ target X _ _ _ st => XS.ifYes X.here o.1 rfl (pc0 := pc) rfl (hb o.2.1 d) rfl (hP.mpr hp) ho ht st
  · exact (Kn hp).by fun T vm0 locs _ _ target X _ _ _ st => XS.ifNo X.here o.1 rfl (hb o.2.1 d) rfl (Bool.eq_false_iff.mpr fun q => hp (hP.mp q)) st
theorem g_icmp (o : Ok C Z a0 b ml ret nm own rm) {cd : ClassFile.Cond} {P : Prop} {x y : Int32} {i : Int} {t : Nat} (d : decode b pc = .ok (.if_icmp cd i, 3)) (ho : 0 ≤ (pc : Int) + i) (ht : ((pc : Int) + i).toNat = t) (hP : if_icmp.holds cd x y = true ↔ P)
    (Ky : P → Go C Z n0 Q M h k n t L S) (Kn : ¬ P → Go C Z n0 Q M h k n (pc + 3) L S) : Go C Z n0 Q M h k n pc L (.int y :: .int x :: S) := by
  by_cases hp : P
  · exact (Ky hp).by fun T vm0 locs _ _ target X _ _ _ st => XS.icmpYes X.here o.1 rfl (pc0 := pc) rfl (hb o.2.1 d) rfl (hP.mpr hp) ho ht st
  · exact (Kn hp).by fun T vm0 locs _ _ target X _ _ _ st => XS.icmpNo X.here o.1 rfl (hb o.2.1 d) rfl (Bool.eq_false_iff.mpr fun q => hp (hP.mp q)) st
theorem g_ifCN (o : Ok C Z a0 b ml ret nm own rm) {cd : ClassFile.Cond} {P : Prop} {x : Int32} {i : Int} {t : Nat} (d : decode b pc = .ok (.ifCond cd i, 3)) (ho : 0 ≤ (pc : Int) + i) (ht : ((pc : Int) + i).toNat = t) (hP : if_icmp.holds cd x 0 = true ↔ ¬ P)
    (Ky : ¬ P → Go C Z n0 Q M h k n t L S) (Kn : P → Go C Z n0 Q M h k n (pc + 3) L S) : Go C Z n0 Q M h k n pc L (.int x :: S) := g_ifC o d ho ht hP Ky fun q => Kn (Classical.not_not.mp q)
theorem g_icmpN (o : Ok C Z a0 b ml ret nm own rm) {cd : ClassFile.Cond} {P : Prop} {x y : Int32} {i : Int} {t : Nat} (d : decode b pc = .ok (.if_icmp cd i, 3)) (ho : 0 ≤ (pc : Int) + i) (ht : ((pc : Int) + i).toNat = t) (hP : if_icmp.holds cd x y = true ↔ ¬ P)
    (Ky : ¬ P → Go C Z n0 Q M h k n t L S) (Kn : P → Go C Z n0 Q M h k n (pc + 3) L S) : Go C Z n0 Q M h k n pc L (.int y :: .int x :: S) := g_icmp o d ho ht hP Ky fun q => Kn (Classical.not_not.mp q)
theorem c_eq {x y : Int32} : if_icmp.holds .eq x y = true ↔ x = y := ⟨fun q => Classical.byContradiction fun z => (by rw [(feq z).1] at q; cases q), fun z => (teq z).1⟩
theorem c_ne {x y : Int32} : if_icmp.holds .ne x y = true ↔ ¬ x = y := ⟨fun q z => (by rw [(teq z).2] at q; cases q), fun z => (feq z).2⟩
theorem c_lt {x y : Int32} : if_icmp.holds .lt x y = true ↔ x < y := ⟨fun q => Classical.byContradiction fun z => (by rw [(flt z).1] at q; cases q), fun z => (tlt z).1⟩
theorem c_ge {x y : Int32} : if_icmp.holds .ge x y = true ↔ ¬ x < y := ⟨fun q z => (by rw [(tlt z).2.1] at q; cases q), fun z => (flt z).2.1⟩
theorem c_gt {x y : Int32} : if_icmp.holds .gt x y = true ↔ y < x := ⟨fun q => Classical.byContradiction fun z => (by rw [(flt z).2.2.1] at q; cases q), fun z => (tlt z).2.2.1⟩
theorem c_le {x y : Int32} : if_icmp.holds .le x y = true ↔ ¬ y < x := ⟨fun q z => (by rw [(tlt z).2.2.2] at q; cases q), fun z => (flt z).2.2.2⟩
theorem g_ifnullY (o : Ok C Z a0 b ml ret nm own rm) {i : Int} {t : Nat} (d : decode b pc = .ok (.ifnull i, 3)) (ho : 0 ≤ (pc : Int) + i) (ht : ((pc : Int) + i).toNat = t) (K : Go C Z n0 Q M h k n t L S) : Go C Z n0 Q M h k n pc L (.null :: S) :=
  K.by fun T vm0 locs _ _ target X _ _ _ st => XS.ifnullYes X.here o.1 rfl (pc0 := pc) rfl (hb o.2.1 d) rfl ho ht st
theorem g_ifnullN (o : Ok C Z a0 b ml ret nm own rm) {i : Int} {a : Addr} (d : decode b pc = .ok (.ifnull i, 3)) (K : Go C Z n0 Q M h k n (pc + 3) L S) : Go C Z n0 Q M h k n pc L (.ref a :: S) :=
  K.by fun T vm0 locs _ _ target X _ _ _ st => XS.ifnullNo X.here o.1 rfl (hb o.2.1 d) rfl st
theorem g_ifnonnullY (o : Ok C Z a0 b ml ret nm own rm) {i : Int} {t : Nat} {a : Addr} (d : decode b pc = .ok (.ifnonnull i, 3)) (ho : 0 ≤ (pc : Int) + i) (ht : ((pc : Int) + i).toNat = t) (K : Go C Z n0 Q M h k n t L S) : Go C Z n0 Q M h k n pc L (.ref a :: S) :=
  K.by fun T vm0 locs _ _ target X _ _ _ st => XT.ifnonnullYes X.here o.1 rfl (pc0 := pc) rfl (hb o.2.1 d) rfl ho ht st
theorem g_ifnonnullN (o : Ok C Z a0 b ml ret nm own rm) {i : Int} (d : decode b pc = .ok (.ifnonnull i, 3)) (K : Go C Z n0 Q M h k n (pc + 3) L S) : Go C Z n0 Q M h k n pc L (.null :: S) :=
  K.by fun T vm0 locs _ _ target X _ _ _ st => XT.ifnonnullNo X.here o.1 rfl (hb o.2.1 d) rfl st
theorem g_acmpEq (o : Ok C Z a0 b ml ret nm own rm) {x y : Value} {i : Int} {t : Nat} (d : decode b pc = .ok (.if_acmp .eq i, 3)) (ho : 0 ≤ (pc : Int) + i) (ht : ((pc : Int) + i).toNat = t) (hx : x.isRef = true) (hy : y.isRef = true)
    (Ky : x = y → Go C Z n0 Q M h k n t L S) (Kn : ¬ x = y → Go C Z n0 Q M h k n (pc + 3) L S) : Go C Z n0 Q M h k n pc L (y :: x :: S) := by
  by_cases hp : x = y
  · exact (Ky hp).by fun T vm0 locs _ _ target X _ _ _ st => XT.acmpYes X.here o.1 rfl (pc0 := pc) rfl (hb o.2.1 d) rfl hx hy (decide_eq_true hp) ho ht st
  · exact (Kn hp).by fun T vm0 locs _ _ target X _ _ _ st => XT.acmpNo X.here o.1 rfl (hb o.2.1 d) rfl hx hy (decide_eq_false hp) st
theorem g_acmpNe (o : Ok C Z a0 b ml ret nm own rm) {x y : Value} {i : Int} {t : Nat} (d : decode b pc = .ok (.if_acmp .ne i, 3)) (ho : 0 ≤ (pc : Int) + i) (ht : ((pc : Int) + i).toNat = t) (hx : x.isRef = true) (hy : y.isRef = true)
    (Ky : ¬ x = y → Go C Z n0 Q M h k n t L S) (Kn : x = y → Go C Z n0 Q M h k n (pc + 3) L S) : Go C Z n0 Q M h k n pc L (y :: x :: S) := by
  by_cases hp : x = y
  · exact (Kn hp).by fun T vm0 locs _ _ target X _ _ _ st => XT.acmpNo X.here o.1 rfl (hb o.2.1 d) rfl hx hy (decide_eq_false (fun q => q hp)) st
  · exact (Ky hp).by fun T vm0 locs _ _ target X _ _ _ st => XT.acmpYes X.here o.1 rfl (pc0 := pc) rfl (hb o.2.1 d) rfl hx hy (decide_eq_true hp) ho ht st
theorem g_ldcI (o : Ok C Z a0 b ml ret nm own rm) {ix : Nat} {v : Int32} (d : decode b pc = .ok (.ldc ix, 2)) (w : (Jvm.Cond.constant own ix v).before a0 Z = true) (K : Go C Z n0 Q M h k n (pc + 2) L (.int v :: S)) : Go C Z n0 Q M h k n pc L S :=
  K.by fun T vm0 locs _ _ target X hZ hf _ st => X.ldcInt o.1 (own := own) (by rw [← o.hown]; exact hf) (mvT (s := C.s.setVm vm0) hZ w) (g := mkF C.m pc L S) rfl (hb o.2.1 d) _ st
theorem g_ldc2L (o : Ok C Z a0 b ml ret nm own rm) {ix : Nat} {v : Int64} (d : decode b pc = .ok (.ldc2_w ix, 3)) (w : (Jvm.Cond.constantLong own ix v).before a0 Z = true) (K : Go C Z n0 Q M h k n (pc + 3) L (.long v :: S)) : Go C Z n0 Q M h k n pc L S :=
  K.by fun T vm0 locs _ _ target X hZ hf _ st => X.ldc2Long o.1 (own := own) (by rw [← o.hown]; exact hf) (mvT (s := C.s.setVm vm0) hZ w) (g := mkF C.m pc L S) rfl (hb o.2.1 d) _ st
/-! steps that read the tables or the heap -/
theorem g_getF (o : Ok C Z a0 b ml ret nm own rm) {R0 O f ds : String} {ix : Nat} {a : Addr} {v : Value} (d : decode b pc = .ok (.getfield ix, 3)) (w : (Jvm.Cond.fieldLink own ix R0 f ds).before a0 Z = true) (via : Via Z R0 O f ds) (F : Fld Z h a O f ds v)
    (K : Go C Z n0 Q M h k n (pc + 3) L (v :: S)) : Go C Z n0 Q M h k n pc L (.ref a :: S) := by
  refine Go.via (dk := 0) (dn := 0) (ι := Unit) (P := fun _ h' => h' = h) (S' := fun _ => v :: S) (fun _ h' e => by have e : h' = h := e; rw [e]; exact K) fun T vm0 locs k' n' X B hZ hf eT N => ?_
  obtain ⟨T', X', e', st⟩ := getF (host := "") X o.1 (Z := Z) hZ (by rw [← o.hown]; exact hf) (Or.inl w) via eT F (g := mkF C.m pc L (.ref a :: S)) rfl rfl (hb o.2.1 d)
  exact ⟨(), T', locs, h, rfl, X', e', N, Mv.refl, st⟩
theorem g_getS (o : Ok C Z a0 b ml ret nm own rm) {R0 O f ds : String} {ix : Nat} {v : Value} (d : decode b pc = .ok (.getstatic ix, 3)) (w : (Jvm.Cond.fieldLink own ix R0 f ds).before a0 Z = true) (via : Via Z R0 O f ds) (F : Sta Z h O f ds v)
    (K : Go C Z n0 Q M h k n (pc + 3) L (v :: S)) : Go C Z n0 Q M h k n pc L S := by
  refine Go.via (dk := 0) (dn := 0) (ι := Unit) (P := fun _ h' => h' = h) (S' := fun _ => v :: S) (fun _ h' e => by have e : h' = h := e; rw [e]; exact K) fun T vm0 locs k' n' X B hZ hf eT N => ?_
  obtain ⟨T', X', e', st⟩ := getS (host := "") X o.1 (Z := Z) hZ (by rw [← o.hown]; exact hf) w via eT F (g := mkF C.m pc L S) rfl (hb o.2.1 d)
  exact ⟨(), T', locs, h, rfl, X', e', N, Mv.refl, st⟩
theorem g_putF (o : Ok C Z a0 b ml ret nm own rm) {R0 O f ds Cn : String} {ix kk : Nat} {ty : FieldType} {a : Addr} {v old : Value} (d : decode b pc = .ok (.putfield ix, 3)) (w : (Jvm.Cond.fieldLink own ix R0 f ds).before a0 Z = true) (via : Via Z R0 O f ds) (F : Fld Z h a O f ds old) (E : Exa Z h a Cn)
    (Lf : (Jvm.Cond.lays Cn O f ds).before a0 Z = true ∨ ((Jvm.Cond.laysFinal Cn O f ds).before a0 Z = true ∧ own = O ∧ nm = "<init>")) (wi : (Jvm.Cond.instantiable Cn kk).before a0 Z = true) (hty : parseFieldDescriptor ds = some ty) (hn' : narrow ty v = v) (hf' : fits ty v = true) (ha : n0 ≤ a) (hs : SafeOk C Z M h a)
    (K : ∀ h', Wr h h' a (Jvm.RoadKit.slotOf Z O f ds) v → Go C Z n0 Q M h' k n (pc + 3) L S) : Go C Z n0 Q M h k n pc L (v :: .ref a :: S) := by
  refine Go.via (dk := 0) (dn := 0) (ι := Unit) (P := fun _ h' => Wr h h' a (Jvm.RoadKit.slotOf Z O f ds) v) (S' := fun _ => S) (fun _ h' e => K h' e) fun T vm0 locs k' n' X B hZ hf eT N => ?_
  obtain ⟨T', h', X', e', W, st⟩ := putF (host := "") X o.1 (Z := Z) hZ (by rw [← o.hown]; exact hf) (Or.inl w) via eT F E (Lf.imp id fun q => ⟨q.1, q.2.1, o.2.2.2.2.1.trans q.2.2⟩) wi hty hn' hf' (g := mkF C.m pc L (v :: .ref a :: S)) rfl rfl (hb o.2.1 d)
  exact ⟨(), T', _, h', W, X', e', Fr.snoc X' N ha, Mv.wr W hs, st⟩
theorem g_new (o : Ok C Z a0 b ml ret nm own rm) {Cn : String} {ix nf : Nat} (d : decode b pc = .ok (.new ix, 3)) (w : (Jvm.Cond.classLink own ix Cn).before a0 Z = true) (wi : (Jvm.Cond.instantiable Cn nf).before a0 Z = true) (wz : (Jvm.Cond.initialized Cn).before a0 Z = true) (hc : k + 1 ≤ rm.cells) (hl : n + nf ≤ rm.slots) {M' : Addr → List Addr} (hM : ∀ a, ∀ x ∈ M' a, x ∈ M ∨ x = a)
    (K : ∀ a h', a = h.size → Ext h h' → Exa Z h' a Cn → (∀ {O f ds : String} {ty : FieldType}, Laid Z a0 Cn O f ds → parseFieldDescriptor ds = some ty → Fld Z h' a O f ds (defaultValue ty)) → Go C Z n0 Q (M' a) h' (k + 1) (n + nf) (pc + 3) L (.ref a :: S)) : Go C Z n0 Q M h k n pc L S := by
  refine Go.via (dk := 1) (dn := nf) (ι := Unit) (P := fun _ h' => Ext h h' ∧ Exa Z h' h.size Cn ∧ (∀ {O f ds : String} {ty : FieldType}, Laid Z a0 Cn O f ds → parseFieldDescriptor ds = some ty → Fld Z h' h.size O f ds (defaultValue ty))) (S' := fun _ => .ref h.size :: S) (fun _ h' e => K h.size h' rfl e.1 e.2.1 (fun {O f ds ty} q r => e.2.2 q r)) fun T vm0 locs k' n' X B hZ hf eT N => ?_
  obtain ⟨T', h', X', e', E, A, D, -, st⟩ := newO X o.1 (Z := Z) hZ (by rw [← o.hown]; exact hf) w wi wz eT (g := mkF C.m pc L S) rfl (hb o.2.1 d) (o.rc B hc) (o.rs B hl)
  exact ⟨(), T', locs, h', ⟨E, A, fun {O f ds ty} q r => D q r⟩, X', e', N, Mv.new E A.lt (hM _), st⟩
theorem g_newarr (o : Ok C Z a0 b ml ret nm own rm) {aty : ArrayType} {ty : FieldType} {z : Int32} {m : Nat} {dv : Value} (d : decode b pc = .ok (.newarray aty, 2)) (hty : newarray.typeOf aty = ty) (hdv : defaultValue ty = dv) (w : (Jvm.Cond.arrayClass ty).before a0 Z = true) (hz : ¬ z < 0) (hm : z.toNatClampNeg = m) (hbig : m ≤ 67108864) (hc : k + 1 ≤ rm.cells) (hl : n + m ≤ rm.slots) {M' : Addr → List Addr} (hM : ∀ a, ∀ x ∈ M' a, x ∈ M ∨ x = a)
    (K : ∀ a h' kc, a = h.size → Ext h h' → Arv Z h' a kc ty z (List.replicate m dv) dv → Go C Z n0 Q (M' a) h' (k + 1) (n + m) (pc + 2) L (.ref a :: S)) : Go C Z n0 Q M h k n pc L (.int z :: S) := by
  subst hty hdv
  refine Go.via (dk := 1) (dn := m) (ι := ClassId) (P := fun kc h' => Ext h h' ∧ Arv Z h' h.size kc (newarray.typeOf aty) z (List.replicate m (defaultValue (newarray.typeOf aty))) (defaultValue (newarray.typeOf aty))) (S' := fun _ => .ref h.size :: S) (fun kc h' e => K h.size h' kc rfl e.1 e.2) fun T vm0 locs k' n' X B hZ hf eT N => ?_
  obtain ⟨T', h', kc, X', e', E, A, st⟩ := newP X o.1 (Z := Z) hZ w eT (g := mkF C.m pc L (.int z :: S)) rfl (hb o.2.1 d) rfl hz (cap := m) (Nat.le_of_eq hm) (by omega) (o.rc B hc) (o.rs B hl)
  exact ⟨kc, T', locs, h', ⟨E, by simpa using (Arv.new A hz).pad (pad_rep [] _ m)⟩, X', e', N, Mv.new E A.lt (hM _), st⟩
theorem idx_ok {vs : List Value} {z j : Int32} {i : Nat} {c : Cell} (S : c.slots.size = z.toNatClampNeg) (hz : z.toNatClampNeg = vs.length) (h0 : ¬ j < 0) (hj : j.toNatClampNeg = i) (hi : i < vs.length) : ¬ (j < 0 ∨ c.slots.size ≤ j.toNatClampNeg) := fun q => q.elim h0 fun r => by omega
theorem g_castore (o : Ok C Z a0 b ml ret nm own rm) {a : Addr} {kc : ClassId} {z j x y : Int32} {vs : List Value} {dv : Value} {i : Nat} (d : decode b pc = .ok (.castore, 1)) (V : Arv Z h a kc .char z vs dv) (hz : z.toNatClampNeg = vs.length) (h0 : ¬ j < 0) (hj : j.toNatClampNeg = i) (hi : i < vs.length) (hy : nar .char x = y) (ha : n0 ≤ a) (hs : SafeOk C Z M h a)
    (K : ∀ h', Wr h h' a i (.int y) → Arv Z h' a kc .char z (vs.set i (.int y)) dv → Go C Z n0 Q M h' k n (pc + 1) L S) : Go C Z n0 Q M h k n pc L (.int x :: .int j :: .ref a :: S) := by
  obtain ⟨cl, A, q1, q2, q3, H, G⟩ := V
  subst hy hj
  refine Go.via (dk := 0) (dn := 0) (ι := Unit) (P := fun _ h' => Wr h h' a j.toNatClampNeg (.int (nar .char x))) (S' := fun _ => S) (fun _ h' e => K h' e (Arv.set A q1 q2 q3 H G (fits_nar_char x) e _ rfl hi)) fun T vm0 locs k' n' X B hZ hf eT N => ?_
  obtain ⟨T', h', X', e', W, st⟩ := stC X o.1 (Z := Z) hZ eT A (idx_ok q2 hz h0 rfl hi) (g := mkF C.m pc L (.int x :: .int j :: .ref a :: S)) rfl rfl (hb o.2.1 d)
  exact ⟨(), T', _, h', W, X', e', Fr.snoc X' N ha, Mv.wr W hs, st⟩
theorem g_iastore (o : Ok C Z a0 b ml ret nm own rm) {a : Addr} {kc : ClassId} {z j x : Int32} {vs : List Value} {dv : Value} {i : Nat} (d : decode b pc = .ok (.iastore, 1)) (V : Arv Z h a kc .int z vs dv) (hz : z.toNatClampNeg = vs.length) (h0 : ¬ j < 0) (hj : j.toNatClampNeg = i) (hi : i < vs.length) (ha : n0 ≤ a) (hs : SafeOk C Z M h a)
    (K : ∀ h', Wr h h' a i (.int x) → Arv Z h' a kc .int z (vs.set i (.int x)) dv → Go C Z n0 Q M h' k n (pc + 1) L S) : Go C Z n0 Q M h k n pc L (.int x :: .int j :: .ref a :: S) := by
  obtain ⟨cl, A, q1, q2, q3, H, G⟩ := V
  subst hj
  refine Go.via (dk := 0) (dn := 0) (ι := Unit) (P := fun _ h' => Wr h h' a j.toNatClampNeg (.int x)) (S' := fun _ => S) (fun _ h' e => K h' e (Arv.set A q1 q2 q3 H G rfl e _ rfl hi)) fun T vm0 locs k' n' X B hZ hf eT N => ?_
  obtain ⟨T', h', X', e', W, st⟩ := stI X o.1 (Z := Z) hZ eT A (idx_ok q2 hz h0 rfl hi) (g := mkF C.m pc L (.int x :: .int j :: .ref a :: S)) rfl rfl (hb o.2.1 d)
  exact ⟨(), T', _, h', W, X', e', Fr.snoc X' N ha, Mv.wr W hs, st⟩
theorem g_zastore (o : Ok C Z a0 b ml ret nm own rm) {a : Addr} {kc : ClassId} {z j x y : Int32} {vs : List Value} {dv : Value} {i : Nat} (d : decode b pc = .ok (.bastore, 1)) (V : Arv Z h a kc .boolean z vs dv) (hz : z.toNatClampNeg = vs.length) (h0 : ¬ j < 0) (hj : j.toNatClampNeg = i) (hi : i < vs.length) (hy : nar .boolean x = y) (ha : n0 ≤ a) (hs : SafeOk C Z M h a)
    (K : ∀ h', Wr h h' a i (.int y) → Arv Z h' a kc .boolean z (vs.set i (.int y)) dv → Go C Z n0 Q M h' k n (pc + 1) L S) : Go C Z n0 Q M h k n pc L (.int x :: .int j :: .ref a :: S) := by
  obtain ⟨cl, A, q1, q2, q3, H, G⟩ := V
  subst hy hj
  refine Go.via (dk := 0) (dn := 0) (ι := Unit) (P := fun _ h' => Wr h h' a j.toNatClampNeg (.int (nar .boolean x))) (S' := fun _ => S) (fun _ h' e => K h' e (Arv.set A q1 q2 q3 H G (fits_nar_bool x) e _ rfl hi)) fun T vm0 locs k' n' X B hZ hf eT N => ?_
  obtain ⟨T', h', X', e', W, st⟩ := stZ X o.1 (Z := Z) hZ eT A (idx_ok q2 hz h0 rfl hi) (g := mkF C.m pc L (.int x :: .int j :: .ref a :: S)) rfl rfl (hb o.2.1 d)
  exact ⟨(), T', _, h', W, X', e', Fr.snoc X' N ha, Mv.wr W hs, st⟩
theorem g_alen (o : Ok C Z a0 b ml ret nm own rm) {a : Addr} {kc : ClassId} {ty : FieldType} {z : Int32} {vs : List Value} {dv : Value} (d : decode b pc = .ok (.arraylength, 1)) (V : Arv Z h a kc ty z vs dv) (K : Go C Z n0 Q M h k n (pc + 1) L (.int z :: S)) : Go C Z n0 Q M h k n pc L (.ref a :: S) := by
  obtain ⟨cl, A, q1, q2, q3, H, G⟩ := V
  exact K.by fun T vm0 locs _ _ target X hZ _ eT st => X.arraylength o.1 (cell := cl) (by rw [eT]; exact A.1) (State.isArrayOf_alike hZ.alike A.2.1) (g := mkF C.m pc L (.ref a :: S)) rfl rfl (hb o.2.1 d) _ (by rw [len_of q2 q3]; exact st)
theorem g_caload (o : Ok C Z a0 b ml ret nm own rm) {a : Addr} {kc : ClassId} {z j : Int32} {vs : List Value} {dv v : Value} {i : Nat} (d : decode b pc = .ok (.caload, 1)) (V : Arv Z h a kc .char z vs dv) (hz : z.toNatClampNeg = vs.length) (h0 : ¬ j < 0) (hj : j.toNatClampNeg = i) (hi : i < vs.length) (hv : vs.getD i dv = v)
    (K : Go C Z n0 Q M h k n (pc + 1) L (v :: S)) : Go C Z n0 Q M h k n pc L (.int j :: .ref a :: S) := by
  obtain ⟨cl, A, q1, q2, q3, H, G⟩ := V
  subst hj
  exact K.by fun T vm0 locs _ _ target X hZ _ eT st => X.caload o.1 (cell := cl) (j := j) (v := v) (by rw [eT]; exact A.1) (State.isArrayOf_alike hZ.alike A.2.1) A.2.2 (idx_ok q2 hz h0 rfl hi) (H.at (idx_ok q2 hz h0 rfl hi) hv) (g := mkF C.m pc L (.int j :: .ref a :: S)) rfl rfl (hb o.2.1 d) _ st
theorem g_iaload (o : Ok C Z a0 b ml ret nm own rm) {a : Addr} {kc : ClassId} {z j : Int32} {vs : List Value} {dv v : Value} {i : Nat} (d : decode b pc = .ok (.iaload, 1)) (V : Arv Z h a kc .int z vs dv) (hz : z.toNatClampNeg = vs.length) (h0 : ¬ j < 0) (hj : j.toNatClampNeg = i) (hi : i < vs.length) (hv : vs.getD i dv = v)
    (K : Go C Z n0 Q M h k n (pc + 1) L (v :: S)) : Go C Z n0 Q M h k n pc L (.int j :: .ref a :: S) := by
  obtain ⟨cl, A, q1, q2, q3, H, G⟩ := V
  subst hj
  exact K.by fun T vm0 locs _ _ target X hZ _ eT st => X.iaload o.1 (cell := cl) (j := j) (v := v) (by rw [eT]; exact A.1) (State.isArrayOf_alike hZ.alike A.2.1) A.2.2 (idx_ok q2 hz h0 rfl hi) (H.at (idx_ok q2 hz h0 rfl hi) hv) (g := mkF C.m pc L (.int j :: .ref a :: S)) rfl rfl (hb o.2.1 d) _ st
theorem g_zaload (o : Ok C Z a0 b ml ret nm own rm) {a : Addr} {kc : ClassId} {z j : Int32} {vs : List Value} {dv v : Value} {i : Nat} (d : decode b pc = .ok (.baload, 1)) (V : Arv Z h a kc .boolean z vs dv) (hz : z.toNatClampNeg = vs.length) (h0 : ¬ j < 0) (hj : j.toNatClampNeg = i) (hi : i < vs.length) (hv : vs.getD i dv = v)
    (K : Go C Z n0 Q M h k n (pc + 1) L (v :: S)) : Go C Z n0 Q M h k n pc L (.int j :: .ref a :: S) := by
  obtain ⟨cl, A, q1, q2, q3, H, G⟩ := V
  subst hj
  exact K.by fun T vm0 locs _ _ target X hZ _ eT st => X.baloadBooleans o.1 (cell := cl) (j := j) (v := v) (by rw [eT]; exact A.1) (State.isArrayOf_alike hZ.alike A.2.1) A.2.2 (idx_ok q2 hz h0 rfl hi) (H.at (idx_ok q2 hz h0 rfl hi) hv) (g := mkF C.m pc L (.int j :: .ref a :: S)) rfl rfl (hb o.2.1 d) _ st
theorem g_instY (o : Ok C Z a0 b ml ret nm own rm) {ix : Nat} {a : Addr} {Kn : String} (d : decode b pc = .ok (.instanceof ix, 3)) (w : (Jvm.Cond.classLink own ix Kn).before a0 Z = true) (F : Ins Z h a Kn true) (K : Go C Z n0 Q M h k n (pc + 3) L (.int 1 :: S)) : Go C Z n0 Q M h k n pc L (.ref a :: S) := by
  refine Go.via (dk := 0) (dn := 0) (ι := Unit) (P := fun _ h' => h' = h) (S' := fun _ => .int 1 :: S) (fun _ h' e => by have e : h' = h := e; rw [e]; exact K) fun T vm0 locs k' n' X B hZ hf eT N => ?_
  obtain ⟨T', X', e', st⟩ := instY X o.1 (Z := Z) hZ (by rw [← o.hown]; exact hf) w eT F (g := mkF C.m pc L (.ref a :: S)) rfl rfl (hb o.2.1 d)
  exact ⟨(), T', locs, h, rfl, X', e', N, Mv.refl, st⟩
theorem g_castY (o : Ok C Z a0 b ml ret nm own rm) {ix : Nat} {a : Addr} {Kn : String} (d : decode b pc = .ok (.checkcast ix, 3)) (w : (Jvm.Cond.classLink own ix Kn).before a0 Z = true) (F : Ins Z h a Kn true) (K : Go C Z n0 Q M h k n (pc + 3) L (.ref a :: S)) : Go C Z n0 Q M h k n pc L (.ref a :: S) := by
  refine Go.via (dk := 0) (dn := 0) (ι := Unit) (P := fun _ h' => h' = h) (S' := fun _ => .ref a :: S) (fun _ h' e => by have e : h' = h := e; rw [e]; exact K) fun T vm0 locs k' n' X B hZ hf eT N => ?_
  obtain ⟨T', X', e', st⟩ := castY X o.1 (Z := Z) hZ (by rw [← o.hown]; exact hf) w eT F (g := mkF C.m pc L (.ref a :: S)) rfl rfl (hb o.2.1 d)
  exact ⟨(), T', locs, h, rfl, X', e', N, Mv.refl, st⟩
theorem g_initO (o : Ok C Z a0 b ml ret nm own rm) {ix : Nat} {a : Addr} (d : decode b pc = .ok (.invokespecial ix, 3)) (w1 : (Jvm.Cond.methodLink own ix Lib.objectInit).before a0 Z = true) (w2 : (Jvm.Cond.instanceMethod Lib.objectInit).before a0 Z = true) (w3 : (Jvm.Cond.code Lib.objectInit ⟨#[0xb1]⟩ 1 none).before a0 Z = true) (hL : L.size = ml) (hf : 1 ≤ rm.frames) (hl : (S.map fun v => v.category).sum + 12 ≤ rm.locals)
    (K : Go C Z n0 Q M h k n (pc + 3) L S) : Go C Z n0 Q M h k n pc L (.ref a :: S) := by
  refine Go.via (dk := 0) (dn := 0) (ι := Unit) (P := fun _ h' => h' = h) (S' := fun _ => S) (fun _ h' e => by have e : h' = h := e; rw [e]; exact K) fun T vm0 locs k' n' X B hZ hfc eT N => ?_
  obtain ⟨T', X', e', st⟩ := initO X o.1 (Z := Z) hZ (by rw [← o.hown]; exact hfc) w1 w2 w3 eT (g := mkF C.m pc L (.ref a :: S)) rfl (hL.trans o.2.2.1.symm) rfl (hb o.2.1 d) (o.rf hf) (W := (S.map fun v => v.category).sum) (by show 2 * 0 + _ ≤ _; omega) (o.rl hl)
  exact ⟨(), T', locs, h, rfl, X', e', N, Mv.refl, st⟩
/-! calls -/
abbrev BackQ (C : Cx) (vm0 : Vm) (y : MethodName) (W : Nat) (as : Array Value) (h : Heap) (kc ks : Nat) (P : Option Value → Heap → List Loc → Prop) : Prop :=
  Back C.l C.R C.p C.e C.below (C.s.setVm vm0) C.args y 3 W (fun A a => a = as ∧ A.U.heap = h ∧ A.cells + kc ≤ C.R.cells ∧ A.slots + ks ≤ C.R.slots) (fun A _ v B => ∃ L, P v B.U.heap L ∧ B.locs = A.locs ++ L ∧ B.cells = A.cells + kc ∧ B.slots = A.slots + ks)
abbrev wt (S : List Value) : Nat := (S.map fun v => v.category).sum
theorem g_static (o : Ok C Z a0 b ml ret nm own rm) {ix mL kc ks W : Nat} {y : MethodName} {by' : ByteArray} {rt : Option FieldType} {P : Option Value → Heap → List Loc → Prop} {Q' : Option Value → Heap → Prop} {ps : List FieldType} {r : Option FieldType} (as rest : List Value) (d : decode b pc = .ok (.invokestatic ix, 3))
    (w1 : (Jvm.Cond.methodLink own ix y).before a0 Z = true) (w2 : (Jvm.Cond.static y).before a0 Z = true) (w3 : (Jvm.Cond.initialized y.cls).before a0 Z = true) (w4 : (Jvm.Cond.code y by' mL rt).before a0 Z = true) (hy : y.cls ≠ "java/lang/invoke/MethodHandle" ∧ y.cls ≠ "java/lang/invoke/VarHandle")
    (By : ∀ vm0, Z.Warmed39 vm0 → BackQ C vm0 y W as.toArray h kc ks P) (hP : ∀ v h' L, P v h' L → Q' v h' ∧ Fr n0 L ∧ h.size ≤ h'.size) (hmv : C.EL = [] ∨ ∀ v h', Q' v h' → Mv C Z M M h h') (hpd : parseMethodDescriptor y.desc = some ⟨ps, r⟩) (hlen : as.length = ps.length) (hS : S = as.reverse ++ rest) (hW : wt rest = W) (hL : L.size = ml) (hc : k + kc ≤ rm.cells) (hl : n + ks ≤ rm.slots)
    (K : ∀ v h', Q' v h' → Go C Z n0 Q M h' (k + kc) (n + ks) (pc + 3) L (v.toList ++ rest)) : Go C Z n0 Q M h k n pc L S := by
  subst hS
  refine Go.via (dk := kc) (dn := ks) (ι := Option Value) (P := Q') (S' := fun v => v.toList ++ rest) K fun T vm0 locs k' n' X B hZ hf eT N => ?_
  obtain ⟨v, vm₁, ⟨T', L', kk, nn⟩, -, X', ⟨Lc, hQ, l1, l2, l3⟩, st⟩ := Jvm.LawKit.callS X o.1 (y := y) (own := own) (by rw [← o.hown]; exact hf) (mvT (s := C.s.setVm vm0) hZ w1) (mvT (s := C.s.setVm vm0) hZ w2) (mvT (s := C.s.setVm vm0) hZ w3) (mvT (s := C.s.setVm vm0) hZ w4) hy (By vm0 hZ) (g := mkF C.m pc L (as.reverse ++ rest)) rfl (hL.trans o.2.2.1.symm) (argsL := as) (rest := rest) (lenOf hpd hlen) rfl (by show 2 * 0 + wt rest ≤ _; omega) (hb o.2.1 d) (fun _ _ => ⟨rfl, eT, o.rc B hc, o.rs B hl⟩)
  dsimp only [Pt.U, Pt.locs, Pt.cells, Pt.slots] at X' hQ l1 l2 l3 st
  subst l1 l2 l3
  obtain ⟨q1, q2, q3⟩ := hP _ _ _ hQ
  exact ⟨v, T', _, _, q1, X', rfl, N.app q2, hmv.elim (fun hE => Mv.triv hE q3) (fun f => f _ _ q1), st⟩
theorem g_special (o : Ok C Z a0 b ml ret nm own rm) {ix mL kc ks W : Nat} {y : MethodName} {by' : ByteArray} {P : Option Value → Heap → List Loc → Prop} {Q' : Option Value → Heap → Prop} {ps : List FieldType} {r : Option FieldType} (a : Addr) (as rest : List Value) (d : decode b pc = .ok (.invokespecial ix, 3)) (hy1 : y.name = "<init>")
    (w1 : (Jvm.Cond.methodLink own ix y).before a0 Z = true) (w2 : (Jvm.Cond.instanceMethod y).before a0 Z = true) (w4 : (Jvm.Cond.code y by' mL none).before a0 Z = true) (hy : y.cls ≠ "java/lang/invoke/MethodHandle" ∧ y.cls ≠ "java/lang/invoke/VarHandle")
    (By : ∀ vm0, Z.Warmed39 vm0 → BackQ C vm0 y W (.ref a :: as).toArray h kc ks P) (hP : ∀ v h' L, P v h' L → Q' v h' ∧ Fr n0 L ∧ h.size ≤ h'.size) (hmv : C.EL = [] ∨ ∀ v h', Q' v h' → Mv C Z M M h h') (hpd : parseMethodDescriptor y.desc = some ⟨ps, r⟩) (hlen : as.length = ps.length) (hS : S = as.reverse ++ .ref a :: rest) (hW : wt rest = W) (hL : L.size = ml) (hc : k + kc ≤ rm.cells) (hl : n + ks ≤ rm.slots)
    (K : ∀ v h', Q' v h' → Go C Z n0 Q M h' (k + kc) (n + ks) (pc + 3) L (v.toList ++ rest)) : Go C Z n0 Q M h k n pc L S := by
  subst hS
  refine Go.via (dk := kc) (dn := ks) (ι := Option Value) (P := Q') (S' := fun v => v.toList ++ rest) K fun T vm0 locs k' n' X B hZ hf eT N => ?_
  obtain ⟨v, vm₁, ⟨T', L', kk, nn⟩, -, X', ⟨Lc, hQ, l1, l2, l3⟩, st⟩ := X.specialBack o.1 (y := y) (own := own) hy1 (by rw [← o.hown]; exact hf) (mvT (s := C.s.setVm vm0) hZ w1) (mvT (s := C.s.setVm vm0) hZ w2) (mvT (s := C.s.setVm vm0) hZ w4) hy (By vm0 hZ) (g := mkF C.m pc L (as.reverse ++ .ref a :: rest)) rfl (hL.trans o.2.2.1.symm) (Steps.refl _) (a := a) (argsL := as) (rest := rest) (lenOf hpd hlen) rfl (by show 2 * 0 + wt rest ≤ _; omega) (hb o.2.1 d) (fun _ _ => ⟨rfl, eT, o.rc B hc, o.rs B hl⟩)
  dsimp only [Pt.U, Pt.locs, Pt.cells, Pt.slots] at X' hQ l1 l2 l3 st
  subst l1 l2 l3
  obtain ⟨q1, q2, q3⟩ := hP _ _ _ hQ
  exact ⟨v, T', _, _, q1, X', rfl, N.app q2, hmv.elim (fun hE => Mv.triv hE q3) (fun f => f _ _ q1), fun target z => st.trans z⟩
theorem g_virtual (o : Ok C Z a0 b ml ret nm own rm) {ix kc ks W : Nat} {Cn : String} {y z : MethodName} {P : Option Value → Heap → List Loc → Prop} {Q' : Option Value → Heap → Prop} {ps : List FieldType} {r : Option FieldType} (a : Addr) (as rest : List Value) (d : decode b pc = .ok (.invokevirtual ix, 3))
    (w1 : (Jvm.Cond.methodLink own ix y).before a0 Z = true) (w2 : (Jvm.Cond.declares y).before a0 Z = true) (w3 : (Jvm.Cond.selects Cn y z).before a0 Z = true) (w4 : (Jvm.Cond.instanceMethod z).before a0 Z = true) (nf : ∀ s : State, (Jvm.Cond.selects Cn y z).before C.args s = true → NotFace s y) (hy : y.cls ≠ "java/lang/invoke/MethodHandle" ∧ y.cls ≠ "java/lang/invoke/VarHandle") (E : Exa Z h a Cn)
    (By : ∀ vm0, Z.Warmed39 vm0 → BackQ C vm0 z W (.ref a :: as).toArray h kc ks P) (hP : ∀ v h' L, P v h' L → Q' v h' ∧ Fr n0 L ∧ h.size ≤ h'.size) (hmv : C.EL = [] ∨ ∀ v h', Q' v h' → Mv C Z M M h h') (hpd : parseMethodDescriptor y.desc = some ⟨ps, r⟩) (hlen : as.length = ps.length) (hS : S = as.reverse ++ .ref a :: rest) (hW : wt rest = W) (hL : L.size = ml) (hc : k + kc ≤ rm.cells) (hl : n + ks ≤ rm.slots)
    (K : ∀ v h', Q' v h' → Go C Z n0 Q M h' (k + kc) (n + ks) (pc + 3) L (v.toList ++ rest)) : Go C Z n0 Q M h k n pc L S := by
  subst hS
  refine Go.via (dk := kc) (dn := ks) (ι := Option Value) (P := Q') (S' := fun v => v.toList ++ rest) K fun T vm0 locs k' n' X B hZ hf eT N => ?_
  obtain ⟨cq, kq, qa, qb, qc⟩ := isOf (s := C.s.setVm vm0) (T := T) hZ eT E
  have hsel := mvT (s := C.s.setVm vm0) (args := C.args) hZ w3
  obtain ⟨v, vm₁, ⟨T', L', kk, nn⟩, -, X', ⟨Lc, hQ, l1, l2, l3⟩, st⟩ := X.virtualBack o.1 (y := y) (z := z) (own := own) (by rw [← o.hown]; exact hf) (mvT (s := C.s.setVm vm0) hZ w1) (mvT (s := C.s.setVm vm0) hZ w2) (nf _ hsel) hsel (mvT (s := C.s.setVm vm0) hZ w4) hy (By vm0 hZ) qa qc (g := mkF C.m pc L (as.reverse ++ .ref a :: rest)) rfl (hL.trans o.2.2.1.symm) (Steps.refl _) (argsL := as) (rest := rest) (lenOf hpd hlen) rfl (by show 2 * 0 + wt rest ≤ _; omega) (hb o.2.1 d) (fun _ _ => ⟨rfl, eT, o.rc B hc, o.rs B hl⟩)
  dsimp only [Pt.U, Pt.locs, Pt.cells, Pt.slots] at X' hQ l1 l2 l3 st
  subst l1 l2 l3
  obtain ⟨q1, q2, q3⟩ := hP _ _ _ hQ
  exact ⟨v, T', _, _, q1, X', rfl, N.app q2, hmv.elim (fun hE => Mv.triv hE q3) (fun f => f _ _ q1), fun target z => st.trans z⟩
/-! contracts -/
def Met (l : Launch) (Z : State) (n0 : Nat) (y : MethodName) (b : ByteArray) (ml : Nat) (ret : Option FieldType) (rm : Room) (as : Array Value) (h : Heap) (Q : Option Value → Heap → Prop) : Prop :=
  MetFree l y (head1 [Jvm.Cond.code y b ml ret] rm) (fun a U => a = as ∧ Z.Warmed39 U.vm ∧ U.heap = h) (fun _ _ _ _ _ => True) (fun _ U o U' => ∃ v L, o = .returned v ∧ (Q v U'.heap ∧ Fr n0 L ∧ h.size ≤ U'.heap.size) ∧ FrameEnd U o U' L rm.cells rm.slots)
def MetW (l : Launch) (Z : State) (n0 : Nat) (EL PL : List (String × Nat)) (cs r : Nat) (y : MethodName) (b : ByteArray) (ml : Nat) (ret : Option FieldType) (rm : Room) (as : Array Value) (h : Heap) (Q : Option Value → Heap → Prop) : Prop :=
  MetFree l y (head1 [Jvm.Cond.code y b ml ret] (big rm r cs)) (fun a U => a = as ∧ Z.Warmed39 U.vm ∧ U.heap = h ∧ CHv Z EL U.vm h ∧ rho Z PL U.vm ≤ r) (fun _ _ _ _ _ => True) (fun _ U o U' => ∃ v L k n, o = .returned v ∧ (Q v U'.heap ∧ Fr n0 L ∧ h.size ≤ U'.heap.size) ∧ CHr Z EL U.vm U.heap U'.vm U'.heap ∧ ReturnedEndW U o U' L k n ∧ k + 2 * rho Z PL U'.vm ≤ rm.cells + 2 * rho Z PL U.vm ∧ n + cs * rho Z PL U'.vm ≤ rm.slots + cs * rho Z PL U.vm)
theorem go_body {l : Launch} {y : MethodName} {S : Spec} {p : Program} {e : Env} {s : State} {m : MethodId} {args : Array Value} {below : List Frame} {meth : Method} {c : Code} {s₁ : State} (PL : List (String × Nat)) (cs r : Nat) (hrr : rho Z PL s.vm ≤ r) (hR : S.room = big rm r cs) (Bd : BodyLoose p l y S b ml ret e s m args below meth c s₁) (hml : c.maxLocals = ml) (hw : ∀ d ∈ tables_1, d.before a0 Z = true) (wide : Bool) (EL : List (String × Nat)) (hEW : EW Z a0 EL) (hZ : Z.Warmed39 s.vm) (hh : s.heap = h) (hCH : CHv Z EL s.vm h) (hM : ∀ x ∈ M, x < h.size ∧ Safe Z EL s.vm h x)
    (he : entryFrame m args ml = mkF m 0 L []) (K : ∀ C : Cx, C.l = l → C.wide = wide → C.EL = EL → C.PL = PL → C.cs = cs → C.r = r → Ok C Z a0 b ml ret y.name y.cls rm → Go C Z n0 Q M h 0 0 0 L []) :
    ∃ s₂ o, Steps p.tables e below (s₁.setTop (entryFrame m args ml)) s₂ ∧ s₂.status = .running ∧ Ended s₂ below o ∧ ∃ v Lc, o = .returned v ∧ (Q v s₂.heap ∧ Fr n0 Lc ∧ h.size ≤ s₂.heap.size) ∧ CHr Z EL s.vm s.heap s₂.vm s₂.heap ∧ (wide = true → ∃ k n, ReturnedEndW s o s₂ Lc k n ∧ k + 2 * rho Z PL s₂.vm ≤ rm.cells + 2 * rho Z PL s.vm ∧ n + cs * rho Z PL s₂.vm ≤ rm.slots + cs * rho Z PL s.vm) ∧ (wide = false → FrameEnd s o s₂ Lc rm.cells rm.slots) := by
  have hown : s.vm.findClass y.cls = some m.cls := findClass_of_methodNamed Bd.named
  have hnm := (name_of_methodNamed Bd.named Bd.method).1
  have X0 : Stand p l e (big rm r cs) s m args below meth c s₁ [] 0 0 := by rw [← hR]; exact Stand.of_body Bd
  have e0 : s₁.heap = h := by rw [← hh, Bd.state]; rfl
  obtain ⟨s₂, o, st, r1, r2, v, Lc, r3, r4, r5⟩ := K ((p, l, e, big rm r cs), (s, m, args, below), (meth, c), (rm.cells, rm.slots, wide, y.cls, EL), (PL, cs, r)) rfl rfl rfl rfl rfl rfl ⟨Bd.exec, Bd.bytes, hml, Bd.returns, hnm, rfl, ⟨rfl, hrr⟩, Bd.notSynchronized, rfl, rfl, hEW, hw⟩ s₁
    ⟨s.vm, [], s.heap.size, 0, 0, X0, ⟨Nat.le_refl _, Nat.le_refl _⟩, e0, hZ, hown, ⟨State.Warmed39.refl s, fun j p hj hp => absurd (Array.getElem?_eq_some_iff.mp hp).1 (Nat.not_lt.mpr hj)⟩, by rw [hh]; exact Nat.le_refl _, Fr.nil n0, Or.inr rfl, by rw [← hh] at hCH ⊢; exact CHr.refl hCH, hM⟩
  refine ⟨s₂, o, castTop he st, r1, r2, v, Lc, r3, ⟨r4.1, r4.2.1, by rw [← hh]; exact r4.2.2⟩, r5⟩
theorem big_nil {cs : Nat} : rm = big rm 0 cs := by cases rm; rfl
theorem met_of {l : Launch} {y : MethodName} {as : Array Value} (hp : plainFor y = true) (hw : ∀ d ∈ tables_1, d.before a0 Z = true) (he : ∀ m, entryFrame m as ml = mkF m 0 L [])
    (K : ∀ C : Cx, C.l = l → C.wide = false → C.EL = [] → C.PL = [] → C.cs = 0 → C.r = 0 → Ok C Z a0 b ml ret y.name y.cls rm → Go C Z n0 Q [] h 0 0 0 L []) : Met l Z n0 y b ml ret rm as h Q := by
  refine MetFree.of_bodySF hp hisR ?_
  intro p e s m args below meth c s₁ Bd hml hP _
  obtain ⟨rfl, hZ, hh⟩ := hP
  obtain ⟨s₂, o, r⟩ := go_body [] 0 0 (Nat.le_refl _) big_nil Bd hml hw false [] EW.nil hZ hh (fun p hp => by cases hp) (fun x hx => by cases hx) (he m) K
  exact ⟨s₂, o, r.1, r.2.1, r.2.2.1, by obtain ⟨v, Lc, q1, q2, -, q3, q4⟩ := r.2.2.2; exact ⟨v, Lc, q1, q2, q4 rfl⟩⟩
theorem metW_of {l : Launch} {y : MethodName} {as : Array Value} {EL PL : List (String × Nat)} {cs r : Nat} (hp : plainFor y = true) (hw : ∀ d ∈ tables_1, d.before a0 Z = true) (hEW : EW Z a0 EL) (he : ∀ m, entryFrame m as ml = mkF m 0 L [])
    (K : ∀ C : Cx, C.l = l → C.wide = true → C.EL = EL → C.PL = PL → C.cs = cs → C.r = r → Ok C Z a0 b ml ret y.name y.cls rm → Go C Z n0 Q [] h 0 0 0 L []) : MetW l Z n0 EL PL cs r y b ml ret rm as h Q := by
  refine MetFree.of_bodySF hp hisR ?_
  intro p e s m args below meth c s₁ Bd hml hP _
  obtain ⟨rfl, hZ, hh, hCH, hrr⟩ := hP
  obtain ⟨s₂, o, w⟩ := go_body PL cs r hrr rfl Bd hml hw true EL hEW hZ hh hCH (fun x hx => by cases hx) (he m) K
  exact ⟨s₂, o, w.1, w.2.1, w.2.2.1, by obtain ⟨v, Lc, q1, q2, q5, q3, q4⟩ := w.2.2.2; obtain ⟨k, n, q6, q7⟩ := q3 rfl; exact ⟨v, Lc, k, n, q1, q2, q5, q6, q7⟩⟩
theorem Met.back {y : MethodName} {as : Array Value} {mL : Nat} {by' : ByteArray} {rt : Option FieldType} {rm' : Room} {Q' : Option Value → Heap → Prop} {W : Nat} (o : Ok C Z a0 b ml ret nm own rm) (M : Met C.l Z n0 y by' mL rt rm' as h Q') (w4 : (Jvm.Cond.code y by' mL rt).before a0 Z = true) (w3 : (Jvm.Cond.initialized y.cls).before a0 Z = true) (hf : rm'.frames + 1 ≤ rm.frames) (hl : W + (mL + 11) + rm'.locals ≤ rm.locals) :
    ∀ vm0, Z.Warmed39 vm0 → BackQ C vm0 y W as h rm'.cells rm'.slots (fun v h' L => Q' v h' ∧ Fr n0 L ∧ h.size ≤ h'.size) := fun vm0 hZ =>
  backOf (s := C.s.setVm vm0) (Z := Z) (a0 := a0) (h := h) (Q := fun v h' L => Q' v h' ∧ Fr n0 L ∧ h.size ≤ h'.size) M hZ w4 w3 (o.rf hf) (o.rl hl)
end Cal
/-! own text: small facts -/
section Ext1
variable {Z : State} {a0 : Array Value} {h h' h0 : Heap} {n0 : Nat} {a b : Addr} {ws : List Addr}
theorem ne_new (hb : b = h.size) (q : a < h.size) : a ≠ b := fun e => Nat.lt_irrefl _ (by rw [e, ← hb] at q; exact q)
theorem Old.sz (X : Old Z n0 h) : n0 ≤ h.size := by rw [← X.1]; exact X.2.1
theorem ge_new (hb : b = h.size) (X : Old Z n0 h) : n0 ≤ b := by rw [hb]; exact Old.sz X
theorem keep_new (hb : b = h.size) (K : Keep h0 h ws) : h0.size ≤ b := by rw [hb]; exact K.1
theorem cat_ref {v : Value} (q : v.isRef = true) : v.category = 1 := by rcases ref_cases q with rfl | ⟨z, rfl⟩ <;> rfl
theorem store_cat {l l' : Array Slot} {i : Nat} {v : Value} {o : Slot} (hold : l[i]? = some o) (ho : o = .unset ∨ ∃ w, o = .val w ∧ w.category = 1) (hv : v.category = 1) (e : l.setIfInBounds i (.val v) = l') : storeLocals l i v = some l' := e ▸ XS.store1 hold ho hv
theorem nref {t : FieldType} {v : Value} (ht : t.isReference = true) (q : v.isRef = true) : narrow t v = v := by rcases ref_cases q with rfl | ⟨z, rfl⟩ <;> cases t <;> first | rfl | (cases ht; done)
theorem fref {t : FieldType} {v : Value} (ht : t.isReference = true) (q : v.isRef = true) : fits t v = true := by rcases ref_cases q with rfl | ⟨z, rfl⟩ <;> cases t <;> first | rfl | (cases ht; done)
theorem nz {x : Int32} (q : nar .boolean x = x) : narrow .boolean (.int x) = .int x := congrArg Value.int q
theorem fz {x : Int32} (q : nar .boolean x = x) : fits .boolean (.int x) = true := by rw [← q]; exact fits_nar_bool x
/-- w is no String and no byte[] of the heap -/
def Off (Z : State) (h : Heap) (w : Addr) : Prop := (∀ x, Exa Z h x "java/lang/String" → x ≠ w) ∧ ∀ (t : Addr) (k : ClassId) (z : Int32) (vs : List Value) (d : Value), Arv Z h t k .byte z vs d → t ≠ w
theorem Off.exa {Cn : String} {nf : Nat} (E : Exa Z h a Cn) (hn : Cn ≠ "java/lang/String") (wi : (Jvm.Cond.instantiable Cn nf).before a0 Z = true) : Off Z h a :=
  ⟨fun x F => F.ne E hn.symm, fun t k z vs d F => (E.neArv F wi).symm⟩
theorem arv_ty {k k' : ClassId} {t t' : FieldType} {z z' : Int32} {vs vs' : List Value} {d d' : Value} (A : Arv Z h a k t z vs d) (B : Arv Z h a k' t' z' vs' d') : t = t' := by
  obtain ⟨c, A1, -⟩ := A
  obtain ⟨c', B1, -⟩ := B
  cases A1.1.symm.trans B1.1
  obtain ⟨-, k1, j1, c1, j2⟩ := A1.2.1
  obtain ⟨-, k2, i1, c2, i2⟩ := B1.2.1
  cases j1.symm.trans i1
  rw [j2] at i2
  cases i2
  rfl
theorem Off.arv {k : ClassId} {t : FieldType} {z : Int32} {vs : List Value} {d : Value} (A : Arv Z h a k t z vs d) (ht : t ≠ .byte) (wi : (Jvm.Cond.instantiable "java/lang/String" 4).before a0 Z = true) : Off Z h a :=
  ⟨fun x F e => F.neArv (b := a) A wi e, fun t' k' z' vs' d' F e => by subst e; exact ht (arv_ty A F)⟩
theorem Off.new (q : h.size ≤ a) : Off Z h a := ⟨fun x F e => by subst e; exact Nat.not_lt.mpr q F.lt, fun t k z vs d F e => by subst e; exact Nat.not_lt.mpr q F.lt⟩
/-- no object of the class C is one of the class K -/
theorem no_inst {Cn Sn Kn : String} {nf : Nat} (w : (Jvm.Cond.superclass Cn Sn).before a0 Z = true) (w0 : (Jvm.Cond.noSuperclass Sn).before a0 Z = true) (wk : (Jvm.Cond.instantiable Kn nf).before a0 Z = true) (h1 : Cn ≠ Kn) (h2 : Sn ≠ Kn) : ∃ c t, Z.vm.findClass Cn = some c ∧ Z.vm.findClass Kn = some t ∧ Z.vm.assignable c t = false := by
  obtain ⟨t, kt, g1, g2, g3, g4⟩ := Cond.instantiable_spec wk
  obtain ⟨cs, ks, s1, s2, s3, -, -⟩ := Cond.noSuperclass_spec w0
  have ne2 := ids_ne s1 g1 h2
  have nroot : NS Z Sn Kn := ⟨cs, t, s1, g1, fun fuel => by
    cases fuel with
    | zero => rfl
    | succ f => simp [Vm.isSubclassAux, ne2, s2, s3]⟩
  have n := NS.step w nroot h1
  obtain ⟨c, t', h0, g0, n3⟩ := n
  cases g1.symm.trans g0
  obtain ⟨p, k, kp, p1, p2, p3, p4, p5, -, p7⟩ := Cond.superclass_spec h0 w
  have ne := ids_ne h0 g1 h1
  refine ⟨c, t, h0, g1, ?_⟩
  show Z.vm.assignableAux (255 + 1) c t = false
  have g5 : kt.isInterface = false := by have q := g4.1; simp only [Bool.or_eq_false_iff] at q; exact q.1
  simp [Vm.assignableAux, ne, p2, g2, p5, g3, g5, Vm.isSubclass, n3]
theorem no_inst2 {Cn Rn Sn Kn : String} {nf : Nat} (w : (Jvm.Cond.superclass Cn Rn).before a0 Z = true) (w1 : (Jvm.Cond.superclass Rn Sn).before a0 Z = true) (w0 : (Jvm.Cond.noSuperclass Sn).before a0 Z = true) (wk : (Jvm.Cond.instantiable Kn nf).before a0 Z = true) (h1 : Cn ≠ Kn) (h3 : Rn ≠ Kn) (h2 : Sn ≠ Kn) : ∃ c t, Z.vm.findClass Cn = some c ∧ Z.vm.findClass Kn = some t ∧ Z.vm.assignable c t = false := by
  obtain ⟨t, kt, g1, g2, g3, g4⟩ := Cond.instantiable_spec wk
  obtain ⟨cs, ks, s1, s2, s3, -, -⟩ := Cond.noSuperclass_spec w0
  have ne2 := ids_ne s1 g1 h2
  have nroot : NS Z Sn Kn := ⟨cs, t, s1, g1, fun fuel => by
    cases fuel with
    | zero => rfl
    | succ f => simp [Vm.isSubclassAux, ne2, s2, s3]⟩
  have n := NS.step w (NS.step w1 nroot h3) h1
  obtain ⟨c, t', h0, g0, n3⟩ := n
  cases g1.symm.trans g0
  obtain ⟨p, k, kp, p1, p2, p3, p4, p5, -, p7⟩ := Cond.superclass_spec h0 w
  have ne := ids_ne h0 g1 h1
  refine ⟨c, t, h0, g1, ?_⟩
  show Z.vm.assignableAux (255 + 1) c t = false
  have g5 : kt.isInterface = false := by have q := g4.1; simp only [Bool.or_eq_false_iff] at q; exact q.1
  simp [Vm.assignableAux, ne, p2, g2, p5, g3, g5, Vm.isSubclass, n3]
end Ext1
section Ext2
variable {C : Cx} {Z : State} {a0 : Array Value} {b : ByteArray} {ml : Nat} {ret : Option FieldType} {nm own : String} {rm : Room} {n0 : Nat} {Q : Option Value → Heap → Prop} {M : List Addr} {h : Heap} {k n pc : Nat} {L : Array Slot} {S : List Value}
theorem g_instN (o : Ok C Z a0 b ml ret nm own rm) {ix : Nat} {a : Addr} {Kn Cn : String} (d : decode b pc = .ok (.instanceof ix, 3)) (w : (Jvm.Cond.classLink own ix Kn).before a0 Z = true) (E : Exa Z h a Cn) (F : ∃ c t, Z.vm.findClass Cn = some c ∧ Z.vm.findClass Kn = some t ∧ Z.vm.assignable c t = false) (K : Go C Z n0 Q M h k n (pc + 3) L (.int 0 :: S)) : Go C Z n0 Q M h k n pc L (.ref a :: S) := by
  refine Go.via (dk := 0) (dn := 0) (ι := Unit) (P := fun _ h' => h' = h) (S' := fun _ => .int 0 :: S) (fun _ h' e => by have e : h' = h := e; rw [e]; exact K) fun T vm0 locs k' n' X B hZ hf eT N => ?_
  obtain ⟨T', X', e', st⟩ := instNo X o.1 (Z := Z) hZ (by rw [← o.hown]; exact hf) w eT E F (g := mkF C.m pc L (.ref a :: S)) rfl rfl (hb o.2.1 d)
  exact ⟨(), T', locs, h, rfl, X', e', N, Mv.refl, st⟩
theorem g_instNull (o : Ok C Z a0 b ml ret nm own rm) {ix : Nat} (d : decode b pc = .ok (.instanceof ix, 3)) (K : Go C Z n0 Q M h k n (pc + 3) L (.int 0 :: S)) : Go C Z n0 Q M h k n pc L (.null :: S) :=
  K.by fun T vm0 locs _ _ target X _ _ _ st => instanceofNull X o.1 (g := mkF C.m pc L (.null :: S)) rfl rfl (hb o.2.1 d) _ st
theorem g_bbload (o : Ok C Z a0 b ml ret nm own rm) {a : Addr} {kc : ClassId} {z j : Int32} {vs : List Value} {dv v : Value} {i : Nat} (d : decode b pc = .ok (.baload, 1)) (V : Arv Z h a kc .byte z vs dv) (hz : z.toNatClampNeg = vs.length) (h0 : ¬ j < 0) (hj : j.toNatClampNeg = i) (hi : i < vs.length) (hv : vs.getD i dv = v)
    (K : Go C Z n0 Q M h k n (pc + 1) L (v :: S)) : Go C Z n0 Q M h k n pc L (.int j :: .ref a :: S) := by
  obtain ⟨cl, A, q1, q2, q3, H, G⟩ := V
  subst hj
  exact K.by fun T vm0 locs _ _ target X hZ _ eT st => X.baloadBytes o.1 (cell := cl) (j := j) (v := v) (by rw [eT]; exact A.1) (State.isArrayOf_alike hZ.alike A.2.1) A.2.2 (idx_ok q2 hz h0 rfl hi) (H.at (idx_ok q2 hz h0 rfl hi) hv) (g := mkF C.m pc L (.int j :: .ref a :: S)) rfl rfl (hb o.2.1 d) _ st
theorem law_of {l : Launch} {y : MethodName} {as : Array Value} {ws : List Jvm.Cond} {rmL : Room} (hp : plainName y.cls = true) (hw : ∀ d ∈ tables_1, d.before a0 Z = true) (he : ∀ m, entryFrame m as ml = mkF m 0 L []) (wide : Bool) (EL : List (String × Nat)) (hEW : EW Z a0 EL) (hCH : CHv Z EL Z.vm h) (PL : List (String × Nat)) (cs r : Nat) (hr : PL.length ≤ r) (hrm : rmL = big rm r cs)
    (K : ∀ C : Cx, C.l = l → C.wide = wide → C.EL = EL → C.PL = PL → C.cs = cs → C.r = r → Ok C Z a0 b ml ret y.name y.cls rm → Go C Z n0 Q [] h 0 0 0 L []) : MetFree l y (head1 (Jvm.Cond.code y b ml ret :: ws) rmL) (fun a U => a = as ∧ Z.Warmed39 U.vm ∧ U.vm = Z.vm ∧ U.heap = h) (fun _ _ _ _ _ => True) (fun _ U o U' => ∃ v L, o = .returned v ∧ (Q v U'.heap ∧ Fr n0 L) ∧ (wide = true → ∃ k n, ReturnedEndW U o U' L k n ∧ k ≤ rmL.cells ∧ n ≤ rmL.slots) ∧ (wide = false → FrameEnd U o U' L rmL.cells rmL.slots)) := by
  refine MetFree.of_bodySF (plainFor_of_name hp) hisR ?_
  intro p e s m args below meth c s₁ Bd hml hP _
  obtain ⟨rfl, hZ, hvm, hh⟩ := hP
  obtain ⟨s₂, o, w⟩ := go_body PL cs r (Nat.le_trans (rho_le _ _) hr) hrm Bd hml hw wide EL hEW hZ hh (by rw [hvm]; exact hCH) (fun x hx => by cases hx) (he m) K
  refine ⟨s₂, o, w.1, w.2.1, w.2.2.1, ?_⟩
  obtain ⟨v, Lc, q1, q2, -, q3, q4⟩ := w.2.2.2
  refine ⟨v, Lc, q1, ⟨q2.1, q2.2.1⟩, fun hq => ?_, fun hq => ?_⟩
  · obtain ⟨k, n, q5, q6, q7⟩ := q3 hq
    have b1 := Nat.le_trans (rho_le (Z := Z) PL s.vm) hr
    have b2 := Nat.mul_le_mul_left cs b1
    refine ⟨k, n, q5, ?_, ?_⟩
    · rw [hrm]; show k ≤ rm.cells + 2 * r; omega
    · rw [hrm]; show n ≤ rm.slots + cs * r; omega
  · obtain ⟨w1, w2, w3⟩ := q4 hq
    exact ⟨w1, w2, w3.mono (by rw [hrm]; exact Nat.le_add_right _ _) (by rw [hrm]; exact Nat.le_add_right _ _)⟩
end Ext2
theorem wd_124 {a0 : Array Value} {Z : State} (hw : ∀ d ∈ tables_1, d.before a0 Z = true) : (Jvm.Cond.stringLink "com/example/enact/enact/compiler/XPathText" (49 : Nat) ":)").before a0 Z = true := hw _ (List.mem_of_getElem? (i := 124) rfl)
theorem wd_80 {a0 : Array Value} {Z : State} (hw : ∀ d ∈ tables_1, d.before a0 Z = true) : (Jvm.Cond.stringLink "com/example/enact/enact/compiler/XPathText" (40 : Nat) "(:").before a0 Z = true := hw _ (List.mem_of_getElem? (i := 80) rfl)
theorem wd_125 {a0 : Array Value} {Z : State} (hw : ∀ d ∈ tables_1, d.before a0 Z = true) : (Jvm.Cond.stringLink "com/example/enact/enact/compiler/XPathText" (35 : Nat) ")]}").before a0 Z = true := hw _ (List.mem_of_getElem? (i := 125) rfl)
theorem wd_93 {a0 : Array Value} {Z : State} (hw : ∀ d ∈ tables_1, d.before a0 Z = true) : (Jvm.Cond.stringLink "com/example/enact/enact/compiler/XPathText" (23 : Nat) "([{").before a0 Z = true := hw _ (List.mem_of_getElem? (i := 93) rfl)
theorem d_jdk_42_method_152_0 : decode jdk_42_method_152_code 0 = .ok (.getstatic 38, 3) := by decide +kernel
theorem wd_25 {a0 : Array Value} {Z : State} (hw : ∀ d ∈ tables_1, d.before a0 Z = true) : (Jvm.Cond.fieldLink "java/lang/String" (38 : Nat) "java/lang/String" "COMPACT_STRINGS" "Z").before a0 Z = true := hw _ (List.mem_of_getElem? (i := 25) rfl)
theorem d_jdk_42_method_152_3 : decode jdk_42_method_152_code 3 = .ok (.ifCond .eq 10, 3) := by decide +kernel
theorem d_jdk_42_method_152_6 : decode jdk_42_method_152_code 6 = .ok (.aload_n 0, 1) := by decide +kernel
theorem d_jdk_42_method_152_7 : decode jdk_42_method_152_code 7 = .ok (.getfield 15, 3) := by decide +kernel
theorem wd_37 {a0 : Array Value} {Z : State} (hw : ∀ d ∈ tables_1, d.before a0 Z = true) : (Jvm.Cond.fieldLink "java/lang/String" (15 : Nat) "java/lang/String" "coder" "B").before a0 Z = true := hw _ (List.mem_of_getElem? (i := 37) rfl)
theorem d_jdk_42_method_152_10 : decode jdk_42_method_152_code 10 = .ok (.goto 4, 3) := by decide +kernel
theorem d_jdk_42_method_152_14 : decode jdk_42_method_152_code 14 = .ok (.ireturn, 1) := by decide +kernel
theorem pn_0 : plainName "java/lang/String" = true := by first | (simp [plainName, overriddenIn]; done) | decide +kernel
theorem d_jdk_48_method_14_0 : decode jdk_48_method_14_code 0 = .ok (.iconst 0, 1) := by decide +kernel
theorem d_jdk_48_method_14_1 : decode jdk_48_method_14_code 1 = .ok (.istore 5, 2) := by decide +kernel
theorem d_jdk_48_method_14_3 : decode jdk_48_method_14_code 3 = .ok (.iload 4, 2) := by decide +kernel
theorem d_jdk_48_method_14_5 : decode jdk_48_method_14_code 5 = .ok (.bipush 7, 2) := by decide +kernel
theorem d_jdk_48_method_14_7 : decode jdk_48_method_14_code 7 = .ok (.if_icmp .le 63, 3) := by decide +kernel
theorem d_jdk_48_method_14_70 : decode jdk_48_method_14_code 70 = .ok (.iload 5, 2) := by decide +kernel
theorem d_jdk_48_method_14_72 : decode jdk_48_method_14_code 72 = .ok (.iload 4, 2) := by decide +kernel
theorem d_jdk_48_method_14_74 : decode jdk_48_method_14_code 74 = .ok (.if_icmp .ge 27, 3) := by decide +kernel
theorem d_jdk_48_method_14_77 : decode jdk_48_method_14_code 77 = .ok (.aload_n 0, 1) := by decide +kernel
theorem d_jdk_48_method_14_78 : decode jdk_48_method_14_code 78 = .ok (.iload_n 1, 1) := by decide +kernel
theorem d_jdk_48_method_14_79 : decode jdk_48_method_14_code 79 = .ok (.iload 5, 2) := by decide +kernel
theorem d_jdk_48_method_14_81 : decode jdk_48_method_14_code 81 = .ok (.iadd, 1) := by decide +kernel
theorem d_jdk_48_method_14_82 : decode jdk_48_method_14_code 82 = .ok (.baload, 1) := by decide +kernel
theorem d_jdk_48_method_14_83 : decode jdk_48_method_14_code 83 = .ok (.aload_n 2, 1) := by decide +kernel
theorem d_jdk_48_method_14_84 : decode jdk_48_method_14_code 84 = .ok (.iload_n 3, 1) := by decide +kernel
theorem d_jdk_48_method_14_85 : decode jdk_48_method_14_code 85 = .ok (.iload 5, 2) := by decide +kernel
theorem d_jdk_48_method_14_87 : decode jdk_48_method_14_code 87 = .ok (.iadd, 1) := by decide +kernel
theorem d_jdk_48_method_14_88 : decode jdk_48_method_14_code 88 = .ok (.baload, 1) := by decide +kernel
theorem d_jdk_48_method_14_89 : decode jdk_48_method_14_code 89 = .ok (.if_icmp .eq 6, 3) := by decide +kernel
theorem d_jdk_48_method_14_95 : decode jdk_48_method_14_code 95 = .ok (.iinc 5 1, 3) := by decide +kernel
theorem d_jdk_48_method_14_98 : decode jdk_48_method_14_code 98 = .ok (.goto (-28), 3) := by decide +kernel
theorem d_jdk_48_method_14_101 : decode jdk_48_method_14_code 101 = .ok (.iconst (-1), 1) := by decide +kernel
theorem d_jdk_48_method_14_102 : decode jdk_48_method_14_code 102 = .ok (.ireturn, 1) := by decide +kernel
theorem d_jdk_48_method_14_92 : decode jdk_48_method_14_code 92 = .ok (.iload 5, 2) := by decide +kernel
theorem d_jdk_48_method_14_94 : decode jdk_48_method_14_code 94 = .ok (.ireturn, 1) := by decide +kernel
theorem pn_1 : plainName "jdk/internal/util/ArraysSupport" = true := by first | (simp [plainName, overriddenIn]; done) | decide +kernel
theorem d_jdk_42_method_75_0 : decode jdk_42_method_75_code 0 = .ok (.iload_n 2, 1) := by decide +kernel
theorem d_jdk_42_method_75_1 : decode jdk_42_method_75_code 1 = .ok (.ifCond .lt 16, 3) := by decide +kernel
theorem d_jdk_42_method_75_4 : decode jdk_42_method_75_code 4 = .ok (.iload_n 2, 1) := by decide +kernel
theorem d_jdk_42_method_75_5 : decode jdk_42_method_75_code 5 = .ok (.aload_n 0, 1) := by decide +kernel
theorem d_jdk_42_method_75_6 : decode jdk_42_method_75_code 6 = .ok (.invokevirtual 505, 3) := by decide +kernel
theorem wd_88 {a0 : Array Value} {Z : State} (hw : ∀ d ∈ tables_1, d.before a0 Z = true) : (Jvm.Cond.methodLink "java/lang/String" (505 : Nat) ({ cls := "java/lang/String", name := "length", desc := "()I" } : Jvm.MethodName)).before a0 Z = true := hw _ (List.mem_of_getElem? (i := 88) rfl)
theorem wd_13 {a0 : Array Value} {Z : State} (hw : ∀ d ∈ tables_1, d.before a0 Z = true) : (Jvm.Cond.instantiable "java/lang/String" (4 : Nat)).before a0 Z = true := hw _ (List.mem_of_getElem? (i := 13) rfl)
theorem wd_46 {a0 : Array Value} {Z : State} (hw : ∀ d ∈ tables_1, d.before a0 Z = true) : (Jvm.Cond.declares ({ cls := "java/lang/String", name := "length", desc := "()I" } : Jvm.MethodName)).before a0 Z = true := hw _ (List.mem_of_getElem? (i := 46) rfl)
theorem wd_48 {a0 : Array Value} {Z : State} (hw : ∀ d ∈ tables_1, d.before a0 Z = true) : (Jvm.Cond.selects "java/lang/String" ({ cls := "java/lang/String", name := "length", desc := "()I" } : Jvm.MethodName) ({ cls := "java/lang/String", name := "length", desc := "()I" } : Jvm.MethodName)).before a0 Z = true := hw _ (List.mem_of_getElem? (i := 48) rfl)
theorem wd_47 {a0 : Array Value} {Z : State} (hw : ∀ d ∈ tables_1, d.before a0 Z = true) : (Jvm.Cond.instanceMethod ({ cls := "java/lang/String", name := "length", desc := "()I" } : Jvm.MethodName)).before a0 Z = true := hw _ (List.mem_of_getElem? (i := 47) rfl)
theorem pd_0 : parseMethodDescriptor "()I" = some ⟨[], some .int⟩ := by decide +kernel
theorem d_jdk_42_method_75_9 : decode jdk_42_method_75_code 9 = .ok (.aload_n 1, 1) := by decide +kernel
theorem d_jdk_42_method_75_10 : decode jdk_42_method_75_code 10 = .ok (.invokevirtual 505, 3) := by decide +kernel
theorem d_jdk_42_method_75_13 : decode jdk_42_method_75_code 13 = .ok (.isub, 1) := by decide +kernel
theorem d_jdk_42_method_75_14 : decode jdk_42_method_75_code 14 = .ok (.if_icmp .le 5, 3) := by decide +kernel
theorem d_jdk_42_method_75_19 : decode jdk_42_method_75_code 19 = .ok (.aload_n 0, 1) := by decide +kernel
theorem d_jdk_42_method_75_20 : decode jdk_42_method_75_code 20 = .ok (.getfield 9, 3) := by decide +kernel
theorem wd_39 {a0 : Array Value} {Z : State} (hw : ∀ d ∈ tables_1, d.before a0 Z = true) : (Jvm.Cond.fieldLink "java/lang/String" (9 : Nat) "java/lang/String" "value" "[B").before a0 Z = true := hw _ (List.mem_of_getElem? (i := 39) rfl)
theorem d_jdk_42_method_75_23 : decode jdk_42_method_75_code 23 = .ok (.astore_n 3, 1) := by decide +kernel
theorem d_jdk_42_method_75_24 : decode jdk_42_method_75_code 24 = .ok (.aload_n 1, 1) := by decide +kernel
theorem d_jdk_42_method_75_25 : decode jdk_42_method_75_code 25 = .ok (.getfield 9, 3) := by decide +kernel
theorem d_jdk_42_method_75_28 : decode jdk_42_method_75_code 28 = .ok (.astore 4, 2) := by decide +kernel
theorem d_jdk_42_method_75_30 : decode jdk_42_method_75_code 30 = .ok (.iconst 0, 1) := by decide +kernel
theorem d_jdk_42_method_75_31 : decode jdk_42_method_75_code 31 = .ok (.istore 5, 2) := by decide +kernel
theorem d_jdk_42_method_75_33 : decode jdk_42_method_75_code 33 = .ok (.aload 4, 2) := by decide +kernel
theorem d_jdk_42_method_75_35 : decode jdk_42_method_75_code 35 = .ok (.arraylength, 1) := by decide +kernel
theorem d_jdk_42_method_75_36 : decode jdk_42_method_75_code 36 = .ok (.istore 6, 2) := by decide +kernel
theorem d_jdk_42_method_75_38 : decode jdk_42_method_75_code 38 = .ok (.aload_n 0, 1) := by decide +kernel
theorem d_jdk_42_method_75_39 : decode jdk_42_method_75_code 39 = .ok (.invokevirtual 335, 3) := by decide +kernel
theorem wd_50 {a0 : Array Value} {Z : State} (hw : ∀ d ∈ tables_1, d.before a0 Z = true) : (Jvm.Cond.methodLink "java/lang/String" (335 : Nat) ({ cls := "java/lang/String", name := "coder", desc := "()B" } : Jvm.MethodName)).before a0 Z = true := hw _ (List.mem_of_getElem? (i := 50) rfl)
theorem wd_54 {a0 : Array Value} {Z : State} (hw : ∀ d ∈ tables_1, d.before a0 Z = true) : (Jvm.Cond.code ({ cls := "java/lang/String", name := "coder", desc := "()B" } : Jvm.MethodName) jdk_42_method_152_code (1 : Nat) (Option.some Jvm.ClassFile.FieldType.byte)).before a0 Z = true := hw _ (List.mem_of_getElem? (i := 54) rfl)
theorem wd_14 {a0 : Array Value} {Z : State} (hw : ∀ d ∈ tables_1, d.before a0 Z = true) : (Jvm.Cond.initialized "java/lang/String").before a0 Z = true := hw _ (List.mem_of_getElem? (i := 14) rfl)
theorem wd_51 {a0 : Array Value} {Z : State} (hw : ∀ d ∈ tables_1, d.before a0 Z = true) : (Jvm.Cond.declares ({ cls := "java/lang/String", name := "coder", desc := "()B" } : Jvm.MethodName)).before a0 Z = true := hw _ (List.mem_of_getElem? (i := 51) rfl)
theorem wd_53 {a0 : Array Value} {Z : State} (hw : ∀ d ∈ tables_1, d.before a0 Z = true) : (Jvm.Cond.selects "java/lang/String" ({ cls := "java/lang/String", name := "coder", desc := "()B" } : Jvm.MethodName) ({ cls := "java/lang/String", name := "coder", desc := "()B" } : Jvm.MethodName)).before a0 Z = true := hw _ (List.mem_of_getElem? (i := 53) rfl)
theorem wd_52 {a0 : Array Value} {Z : State} (hw : ∀ d ∈ tables_1, d.before a0 Z = true) : (Jvm.Cond.instanceMethod ({ cls := "java/lang/String", name := "coder", desc := "()B" } : Jvm.MethodName)).before a0 Z = true := hw _ (List.mem_of_getElem? (i := 52) rfl)
theorem pd_1 : parseMethodDescriptor "()B" = some ⟨[], some .byte⟩ := by decide +kernel
theorem d_jdk_42_method_75_42 : decode jdk_42_method_75_code 42 = .ok (.istore 7, 2) := by decide +kernel
theorem d_jdk_42_method_75_44 : decode jdk_42_method_75_code 44 = .ok (.iload 7, 2) := by decide +kernel
theorem d_jdk_42_method_75_46 : decode jdk_42_method_75_code 46 = .ok (.aload_n 1, 1) := by decide +kernel
theorem d_jdk_42_method_75_47 : decode jdk_42_method_75_code 47 = .ok (.invokevirtual 335, 3) := by decide +kernel
theorem d_jdk_42_method_75_50 : decode jdk_42_method_75_code 50 = .ok (.if_icmp .ne 32, 3) := by decide +kernel
theorem d_jdk_42_method_75_53 : decode jdk_42_method_75_code 53 = .ok (.iload 7, 2) := by decide +kernel
theorem d_jdk_42_method_75_55 : decode jdk_42_method_75_code 55 = .ok (.iconst 1, 1) := by decide +kernel
theorem d_jdk_42_method_75_56 : decode jdk_42_method_75_code 56 = .ok (.if_icmp .ne 7, 3) := by decide +kernel
theorem d_jdk_42_method_75_63 : decode jdk_42_method_75_code 63 = .ok (.aload_n 3, 1) := by decide +kernel
theorem d_jdk_42_method_75_64 : decode jdk_42_method_75_code 64 = .ok (.iload_n 2, 1) := by decide +kernel
theorem d_jdk_42_method_75_65 : decode jdk_42_method_75_code 65 = .ok (.aload 4, 2) := by decide +kernel
theorem d_jdk_42_method_75_67 : decode jdk_42_method_75_code 67 = .ok (.iconst 0, 1) := by decide +kernel
theorem d_jdk_42_method_75_68 : decode jdk_42_method_75_code 68 = .ok (.iload 6, 2) := by decide +kernel
theorem d_jdk_42_method_75_70 : decode jdk_42_method_75_code 70 = .ok (.invokestatic 607, 3) := by decide +kernel
theorem wd_89 {a0 : Array Value} {Z : State} (hw : ∀ d ∈ tables_1, d.before a0 Z = true) : (Jvm.Cond.methodLink "java/lang/String" (607 : Nat) ({ cls := "jdk/internal/util/ArraysSupport", name := "mismatch", desc := "([BI[BII)I" } : Jvm.MethodName)).before a0 Z = true := hw _ (List.mem_of_getElem? (i := 89) rfl)
theorem wd_92 {a0 : Array Value} {Z : State} (hw : ∀ d ∈ tables_1, d.before a0 Z = true) : (Jvm.Cond.code ({ cls := "jdk/internal/util/ArraysSupport", name := "mismatch", desc := "([BI[BII)I" } : Jvm.MethodName) jdk_48_method_14_code (8 : Nat) (Option.some Jvm.ClassFile.FieldType.int)).before a0 Z = true := hw _ (List.mem_of_getElem? (i := 92) rfl)
theorem wd_91 {a0 : Array Value} {Z : State} (hw : ∀ d ∈ tables_1, d.before a0 Z = true) : (Jvm.Cond.initialized "jdk/internal/util/ArraysSupport").before a0 Z = true := hw _ (List.mem_of_getElem? (i := 91) rfl)
theorem wd_90 {a0 : Array Value} {Z : State} (hw : ∀ d ∈ tables_1, d.before a0 Z = true) : (Jvm.Cond.static ({ cls := "jdk/internal/util/ArraysSupport", name := "mismatch", desc := "([BI[BII)I" } : Jvm.MethodName)).before a0 Z = true := hw _ (List.mem_of_getElem? (i := 90) rfl)
theorem pd_2 : parseMethodDescriptor "([BI[BII)I" = some ⟨[(.array .byte), .int, (.array .byte), .int, .int], some .int⟩ := by decide +kernel
theorem d_jdk_42_method_75_73 : decode jdk_42_method_75_code 73 = .ok (.ifCond .ge 7, 3) := by decide +kernel
theorem d_jdk_42_method_75_80 : decode jdk_42_method_75_code 80 = .ok (.iconst 0, 1) := by decide +kernel
theorem d_jdk_42_method_75_81 : decode jdk_42_method_75_code 81 = .ok (.ireturn, 1) := by decide +kernel
theorem d_jdk_42_method_75_76 : decode jdk_42_method_75_code 76 = .ok (.iconst 1, 1) := by decide +kernel
theorem d_jdk_42_method_75_77 : decode jdk_42_method_75_code 77 = .ok (.goto 4, 3) := by decide +kernel
theorem d_jdk_42_method_75_17 : decode jdk_42_method_75_code 17 = .ok (.iconst 0, 1) := by decide +kernel
theorem d_jdk_42_method_75_18 : decode jdk_42_method_75_code 18 = .ok (.ireturn, 1) := by decide +kernel
theorem d_prog_2_method_4_10 : decode prog_2_method_4_code 10 = .ok (.iload_n 3, 1) := by decide +kernel
theorem d_prog_2_method_4_11 : decode prog_2_method_4_code 11 = .ok (.aload_n 0, 1) := by decide +kernel
theorem d_prog_2_method_4_12 : decode prog_2_method_4_code 12 = .ok (.invokevirtual 7, 3) := by decide +kernel
theorem wd_45 {a0 : Array Value} {Z : State} (hw : ∀ d ∈ tables_1, d.before a0 Z = true) : (Jvm.Cond.methodLink "com/example/enact/enact/compiler/XPathText" (7 : Nat) ({ cls := "java/lang/String", name := "length", desc := "()I" } : Jvm.MethodName)).before a0 Z = true := hw _ (List.mem_of_getElem? (i := 45) rfl)
theorem d_prog_2_method_4_15 : decode prog_2_method_4_code 15 = .ok (.if_icmp .ge 69, 3) := by decide +kernel
theorem d_prog_2_method_4_84 : decode prog_2_method_4_code 84 = .ok (.iload_n 3, 1) := by decide +kernel
theorem d_prog_2_method_4_85 : decode prog_2_method_4_code 85 = .ok (.ireturn, 1) := by decide +kernel
theorem d_prog_2_method_4_18 : decode prog_2_method_4_code 18 = .ok (.iload_n 3, 1) := by decide +kernel
theorem d_prog_2_method_4_19 : decode prog_2_method_4_code 19 = .ok (.iconst 1, 1) := by decide +kernel
theorem d_prog_2_method_4_20 : decode prog_2_method_4_code 20 = .ok (.iadd, 1) := by decide +kernel
theorem d_prog_2_method_4_21 : decode prog_2_method_4_code 21 = .ok (.aload_n 0, 1) := by decide +kernel
theorem d_prog_2_method_4_22 : decode prog_2_method_4_code 22 = .ok (.invokevirtual 7, 3) := by decide +kernel
theorem d_prog_2_method_4_25 : decode prog_2_method_4_code 25 = .ok (.if_icmp .ge 18, 3) := by decide +kernel
theorem d_prog_2_method_4_43 : decode prog_2_method_4_code 43 = .ok (.iconst 0, 1) := by decide +kernel
theorem d_prog_2_method_4_44 : decode prog_2_method_4_code 44 = .ok (.istore 4, 2) := by decide +kernel
theorem d_prog_2_method_4_46 : decode prog_2_method_4_code 46 = .ok (.aload_n 0, 1) := by decide +kernel
theorem d_prog_2_method_4_47 : decode prog_2_method_4_code 47 = .ok (.iload_n 3, 1) := by decide +kernel
theorem d_prog_2_method_4_48 : decode prog_2_method_4_code 48 = .ok (.invokevirtual 13, 3) := by decide +kernel
theorem wd_55 {a0 : Array Value} {Z : State} (hw : ∀ d ∈ tables_1, d.before a0 Z = true) : (Jvm.Cond.methodLink "com/example/enact/enact/compiler/XPathText" (13 : Nat) ({ cls := "java/lang/String", name := "charAt", desc := "(I)C" } : Jvm.MethodName)).before a0 Z = true := hw _ (List.mem_of_getElem? (i := 55) rfl)
theorem wd_56 {a0 : Array Value} {Z : State} (hw : ∀ d ∈ tables_1, d.before a0 Z = true) : (Jvm.Cond.declares ({ cls := "java/lang/String", name := "charAt", desc := "(I)C" } : Jvm.MethodName)).before a0 Z = true := hw _ (List.mem_of_getElem? (i := 56) rfl)
theorem wd_58 {a0 : Array Value} {Z : State} (hw : ∀ d ∈ tables_1, d.before a0 Z = true) : (Jvm.Cond.selects "java/lang/String" ({ cls := "java/lang/String", name := "charAt", desc := "(I)C" } : Jvm.MethodName) ({ cls := "java/lang/String", name := "charAt", desc := "(I)C" } : Jvm.MethodName)).before a0 Z = true := hw _ (List.mem_of_getElem? (i := 58) rfl)
theorem wd_57 {a0 : Array Value} {Z : State} (hw : ∀ d ∈ tables_1, d.before a0 Z = true) : (Jvm.Cond.instanceMethod ({ cls := "java/lang/String", name := "charAt", desc := "(I)C" } : Jvm.MethodName)).before a0 Z = true := hw _ (List.mem_of_getElem? (i := 57) rfl)
theorem pd_3 : parseMethodDescriptor "(I)C" = some ⟨[.int], some .char⟩ := by decide +kernel
theorem d_prog_2_method_4_51 : decode prog_2_method_4_code 51 = .ok (.iload_n 2, 1) := by decide +kernel
theorem d_prog_2_method_4_52 : decode prog_2_method_4_code 52 = .ok (.if_icmp .ne 12, 3) := by decide +kernel
theorem d_prog_2_method_4_64 : decode prog_2_method_4_code 64 = .ok (.iload_n 3, 1) := by decide +kernel
theorem d_prog_2_method_4_65 : decode prog_2_method_4_code 65 = .ok (.aload_n 0, 1) := by decide +kernel
theorem d_prog_2_method_4_66 : decode prog_2_method_4_code 66 = .ok (.iload_n 3, 1) := by decide +kernel
theorem d_prog_2_method_4_67 : decode prog_2_method_4_code 67 = .ok (.invokevirtual 13, 3) := by decide +kernel
theorem d_prog_2_method_4_70 : decode prog_2_method_4_code 70 = .ok (.iload_n 2, 1) := by decide +kernel
theorem d_prog_2_method_4_71 : decode prog_2_method_4_code 71 = .ok (.if_icmp .ne 7, 3) := by decide +kernel
theorem d_prog_2_method_4_78 : decode prog_2_method_4_code 78 = .ok (.iconst 1, 1) := by decide +kernel
theorem d_prog_2_method_4_79 : decode prog_2_method_4_code 79 = .ok (.iadd, 1) := by decide +kernel
theorem d_prog_2_method_4_80 : decode prog_2_method_4_code 80 = .ok (.istore_n 3, 1) := by decide +kernel
theorem d_prog_2_method_4_81 : decode prog_2_method_4_code 81 = .ok (.goto (-71), 3) := by decide +kernel
theorem d_prog_2_method_4_55 : decode prog_2_method_4_code 55 = .ok (.iload 4, 2) := by decide +kernel
theorem d_prog_2_method_4_57 : decode prog_2_method_4_code 57 = .ok (.ifCond .ne 7, 3) := by decide +kernel
theorem d_prog_2_method_4_60 : decode prog_2_method_4_code 60 = .ok (.iload_n 3, 1) := by decide +kernel
theorem d_prog_2_method_4_61 : decode prog_2_method_4_code 61 = .ok (.iconst 1, 1) := by decide +kernel
theorem d_prog_2_method_4_62 : decode prog_2_method_4_code 62 = .ok (.iadd, 1) := by decide +kernel
theorem d_prog_2_method_4_63 : decode prog_2_method_4_code 63 = .ok (.ireturn, 1) := by decide +kernel
theorem d_prog_2_method_4_28 : decode prog_2_method_4_code 28 = .ok (.aload_n 0, 1) := by decide +kernel
theorem d_prog_2_method_4_29 : decode prog_2_method_4_code 29 = .ok (.iload_n 3, 1) := by decide +kernel
theorem d_prog_2_method_4_30 : decode prog_2_method_4_code 30 = .ok (.iconst 1, 1) := by decide +kernel
theorem d_prog_2_method_4_31 : decode prog_2_method_4_code 31 = .ok (.iadd, 1) := by decide +kernel
theorem d_prog_2_method_4_32 : decode prog_2_method_4_code 32 = .ok (.invokevirtual 13, 3) := by decide +kernel
theorem d_prog_2_method_4_35 : decode prog_2_method_4_code 35 = .ok (.iload_n 2, 1) := by decide +kernel
theorem d_prog_2_method_4_36 : decode prog_2_method_4_code 36 = .ok (.if_icmp .ne 7, 3) := by decide +kernel
theorem d_prog_2_method_4_39 : decode prog_2_method_4_code 39 = .ok (.iconst 1, 1) := by decide +kernel
theorem d_prog_2_method_4_40 : decode prog_2_method_4_code 40 = .ok (.goto 4, 3) := by decide +kernel
theorem d_prog_2_method_4_74 : decode prog_2_method_4_code 74 = .ok (.iconst 2, 1) := by decide +kernel
theorem d_prog_2_method_4_75 : decode prog_2_method_4_code 75 = .ok (.goto 4, 3) := by decide +kernel
theorem d_prog_2_method_4_0 : decode prog_2_method_4_code 0 = .ok (.aload_n 0, 1) := by decide +kernel
theorem d_prog_2_method_4_1 : decode prog_2_method_4_code 1 = .ok (.iload_n 1, 1) := by decide +kernel
theorem d_prog_2_method_4_2 : decode prog_2_method_4_code 2 = .ok (.invokevirtual 13, 3) := by decide +kernel
theorem d_prog_2_method_4_5 : decode prog_2_method_4_code 5 = .ok (.istore_n 2, 1) := by decide +kernel
theorem d_prog_2_method_4_6 : decode prog_2_method_4_code 6 = .ok (.iload_n 1, 1) := by decide +kernel
theorem d_prog_2_method_4_7 : decode prog_2_method_4_code 7 = .ok (.iconst 1, 1) := by decide +kernel
theorem d_prog_2_method_4_8 : decode prog_2_method_4_code 8 = .ok (.iadd, 1) := by decide +kernel
theorem d_prog_2_method_4_9 : decode prog_2_method_4_code 9 = .ok (.istore_n 3, 1) := by decide +kernel
theorem pn_2 : plainName "com/example/enact/enact/compiler/XPathText" = true := by first | (simp [plainName, overriddenIn]; done) | decide +kernel
theorem d_prog_2_method_5_4 : decode prog_2_method_5_code 4 = .ok (.iload_n 3, 1) := by decide +kernel
theorem d_prog_2_method_5_5 : decode prog_2_method_5_code 5 = .ok (.aload_n 0, 1) := by decide +kernel
theorem d_prog_2_method_5_6 : decode prog_2_method_5_code 6 = .ok (.invokevirtual 7, 3) := by decide +kernel
theorem d_prog_2_method_5_9 : decode prog_2_method_5_code 9 = .ok (.if_icmp .ge 50, 3) := by decide +kernel
theorem d_prog_2_method_5_59 : decode prog_2_method_5_code 59 = .ok (.iload_n 3, 1) := by decide +kernel
theorem d_prog_2_method_5_60 : decode prog_2_method_5_code 60 = .ok (.ireturn, 1) := by decide +kernel
theorem d_prog_2_method_5_12 : decode prog_2_method_5_code 12 = .ok (.aload_n 0, 1) := by decide +kernel
theorem d_prog_2_method_5_13 : decode prog_2_method_5_code 13 = .ok (.ldc 40, 2) := by decide +kernel
theorem d_prog_2_method_5_15 : decode prog_2_method_5_code 15 = .ok (.iload_n 3, 1) := by decide +kernel
theorem d_prog_2_method_5_16 : decode prog_2_method_5_code 16 = .ok (.invokevirtual 42, 3) := by decide +kernel
theorem wd_83 {a0 : Array Value} {Z : State} (hw : ∀ d ∈ tables_1, d.before a0 Z = true) : (Jvm.Cond.methodLink "com/example/enact/enact/compiler/XPathText" (42 : Nat) ({ cls := "java/lang/String", name := "startsWith", desc := "(Ljava/lang/String;I)Z" } : Jvm.MethodName)).before a0 Z = true := hw _ (List.mem_of_getElem? (i := 83) rfl)
theorem wd_87 {a0 : Array Value} {Z : State} (hw : ∀ d ∈ tables_1, d.before a0 Z = true) : (Jvm.Cond.code ({ cls := "java/lang/String", name := "startsWith", desc := "(Ljava/lang/String;I)Z" } : Jvm.MethodName) jdk_42_method_75_code (8 : Nat) (Option.some Jvm.ClassFile.FieldType.boolean)).before a0 Z = true := hw _ (List.mem_of_getElem? (i := 87) rfl)
theorem wd_84 {a0 : Array Value} {Z : State} (hw : ∀ d ∈ tables_1, d.before a0 Z = true) : (Jvm.Cond.declares ({ cls := "java/lang/String", name := "startsWith", desc := "(Ljava/lang/String;I)Z" } : Jvm.MethodName)).before a0 Z = true := hw _ (List.mem_of_getElem? (i := 84) rfl)
theorem wd_86 {a0 : Array Value} {Z : State} (hw : ∀ d ∈ tables_1, d.before a0 Z = true) : (Jvm.Cond.selects "java/lang/String" ({ cls := "java/lang/String", name := "startsWith", desc := "(Ljava/lang/String;I)Z" } : Jvm.MethodName) ({ cls := "java/lang/String", name := "startsWith", desc := "(Ljava/lang/String;I)Z" } : Jvm.MethodName)).before a0 Z = true := hw _ (List.mem_of_getElem? (i := 86) rfl)
theorem wd_85 {a0 : Array Value} {Z : State} (hw : ∀ d ∈ tables_1, d.before a0 Z = true) : (Jvm.Cond.instanceMethod ({ cls := "java/lang/String", name := "startsWith", desc := "(Ljava/lang/String;I)Z" } : Jvm.MethodName)).before a0 Z = true := hw _ (List.mem_of_getElem? (i := 85) rfl)
theorem pd_4 : parseMethodDescriptor "(Ljava/lang/String;I)Z" = some ⟨[(.object "java/lang/String"), .int], some .boolean⟩ := by decide +kernel
theorem d_prog_2_method_5_19 : decode prog_2_method_5_code 19 = .ok (.ifCond .eq 12, 3) := by decide +kernel
theorem d_prog_2_method_5_31 : decode prog_2_method_5_code 31 = .ok (.aload_n 0, 1) := by decide +kernel
theorem d_prog_2_method_5_32 : decode prog_2_method_5_code 32 = .ok (.ldc 49, 2) := by decide +kernel
theorem d_prog_2_method_5_34 : decode prog_2_method_5_code 34 = .ok (.iload_n 3, 1) := by decide +kernel
theorem d_prog_2_method_5_35 : decode prog_2_method_5_code 35 = .ok (.invokevirtual 42, 3) := by decide +kernel
theorem d_prog_2_method_5_38 : decode prog_2_method_5_code 38 = .ok (.ifCond .eq 15, 3) := by decide +kernel
theorem d_prog_2_method_5_53 : decode prog_2_method_5_code 53 = .ok (.iinc 3 1, 3) := by decide +kernel
theorem d_prog_2_method_5_56 : decode prog_2_method_5_code 56 = .ok (.goto (-52), 3) := by decide +kernel
theorem d_prog_2_method_5_41 : decode prog_2_method_5_code 41 = .ok (.iinc 2 (-1), 3) := by decide +kernel
theorem d_prog_2_method_5_44 : decode prog_2_method_5_code 44 = .ok (.iinc 3 2, 3) := by decide +kernel
theorem d_prog_2_method_5_47 : decode prog_2_method_5_code 47 = .ok (.iload_n 2, 1) := by decide +kernel
theorem d_prog_2_method_5_48 : decode prog_2_method_5_code 48 = .ok (.ifCond .ne (-44), 3) := by decide +kernel
theorem d_prog_2_method_5_51 : decode prog_2_method_5_code 51 = .ok (.iload_n 3, 1) := by decide +kernel
theorem d_prog_2_method_5_52 : decode prog_2_method_5_code 52 = .ok (.ireturn, 1) := by decide +kernel
theorem d_prog_2_method_5_22 : decode prog_2_method_5_code 22 = .ok (.iinc 2 1, 3) := by decide +kernel
theorem d_prog_2_method_5_25 : decode prog_2_method_5_code 25 = .ok (.iinc 3 2, 3) := by decide +kernel
theorem d_prog_2_method_5_28 : decode prog_2_method_5_code 28 = .ok (.goto (-24), 3) := by decide +kernel
theorem d_prog_2_method_5_0 : decode prog_2_method_5_code 0 = .ok (.iconst 0, 1) := by decide +kernel
theorem d_prog_2_method_5_1 : decode prog_2_method_5_code 1 = .ok (.istore_n 2, 1) := by decide +kernel
theorem d_prog_2_method_5_2 : decode prog_2_method_5_code 2 = .ok (.iload_n 1, 1) := by decide +kernel
theorem d_prog_2_method_5_3 : decode prog_2_method_5_code 3 = .ok (.istore_n 3, 1) := by decide +kernel
theorem d_prog_2_method_3_0 : decode prog_2_method_3_code 0 = .ok (.aload_n 0, 1) := by decide +kernel
theorem d_prog_2_method_3_1 : decode prog_2_method_3_code 1 = .ok (.iload_n 1, 1) := by decide +kernel
theorem d_prog_2_method_3_2 : decode prog_2_method_3_code 2 = .ok (.invokevirtual 13, 3) := by decide +kernel
theorem d_prog_2_method_3_5 : decode prog_2_method_3_code 5 = .ok (.istore_n 2, 1) := by decide +kernel
theorem d_prog_2_method_3_6 : decode prog_2_method_3_code 6 = .ok (.iload_n 2, 1) := by decide +kernel
theorem d_prog_2_method_3_7 : decode prog_2_method_3_code 7 = .ok (.bipush 34, 2) := by decide +kernel
theorem d_prog_2_method_3_9 : decode prog_2_method_3_code 9 = .ok (.if_icmp .eq 9, 3) := by decide +kernel
theorem d_prog_2_method_3_18 : decode prog_2_method_3_code 18 = .ok (.aload_n 0, 1) := by decide +kernel
theorem d_prog_2_method_3_19 : decode prog_2_method_3_code 19 = .ok (.iload_n 1, 1) := by decide +kernel
theorem d_prog_2_method_3_20 : decode prog_2_method_3_code 20 = .ok (.invokestatic 37, 3) := by decide +kernel
theorem wd_130 {a0 : Array Value} {Z : State} (hw : ∀ d ∈ tables_1, d.before a0 Z = true) : (Jvm.Cond.methodLink "com/example/enact/enact/compiler/XPathText" (37 : Nat) ({ cls := "com/example/enact/enact/compiler/XPathText", name := "endOfLiteral", desc := "(Ljava/lang/String;I)I" } : Jvm.MethodName)).before a0 Z = true := hw _ (List.mem_of_getElem? (i := 130) rfl)
theorem wd_132 {a0 : Array Value} {Z : State} (hw : ∀ d ∈ tables_1, d.before a0 Z = true) : (Jvm.Cond.code ({ cls := "com/example/enact/enact/compiler/XPathText", name := "endOfLiteral", desc := "(Ljava/lang/String;I)I" } : Jvm.MethodName) prog_2_method_4_code (5 : Nat) (Option.some Jvm.ClassFile.FieldType.int)).before a0 Z = true := hw _ (List.mem_of_getElem? (i := 132) rfl)
theorem wd_43 {a0 : Array Value} {Z : State} (hw : ∀ d ∈ tables_1, d.before a0 Z = true) : (Jvm.Cond.initialized "com/example/enact/enact/compiler/XPathText").before a0 Z = true := hw _ (List.mem_of_getElem? (i := 43) rfl)
theorem wd_131 {a0 : Array Value} {Z : State} (hw : ∀ d ∈ tables_1, d.before a0 Z = true) : (Jvm.Cond.static ({ cls := "com/example/enact/enact/compiler/XPathText", name := "endOfLiteral", desc := "(Ljava/lang/String;I)I" } : Jvm.MethodName)).before a0 Z = true := hw _ (List.mem_of_getElem? (i := 131) rfl)
theorem pd_5 : parseMethodDescriptor "(Ljava/lang/String;I)I" = some ⟨[(.object "java/lang/String"), .int], some .int⟩ := by decide +kernel
theorem d_prog_2_method_3_23 : decode prog_2_method_3_code 23 = .ok (.istore_n 3, 1) := by decide +kernel
theorem d_prog_2_method_3_24 : decode prog_2_method_3_code 24 = .ok (.goto 24, 3) := by decide +kernel
theorem d_prog_2_method_3_48 : decode prog_2_method_3_code 48 = .ok (.iload_n 3, 1) := by decide +kernel
theorem d_prog_2_method_3_49 : decode prog_2_method_3_code 49 = .ok (.ireturn, 1) := by decide +kernel
theorem d_prog_2_method_3_12 : decode prog_2_method_3_code 12 = .ok (.iload_n 2, 1) := by decide +kernel
theorem d_prog_2_method_3_13 : decode prog_2_method_3_code 13 = .ok (.bipush 39, 2) := by decide +kernel
theorem d_prog_2_method_3_15 : decode prog_2_method_3_code 15 = .ok (.if_icmp .ne 12, 3) := by decide +kernel
theorem d_prog_2_method_3_27 : decode prog_2_method_3_code 27 = .ok (.aload_n 0, 1) := by decide +kernel
theorem d_prog_2_method_3_28 : decode prog_2_method_3_code 28 = .ok (.ldc 40, 2) := by decide +kernel
theorem d_prog_2_method_3_30 : decode prog_2_method_3_code 30 = .ok (.iload_n 1, 1) := by decide +kernel
theorem d_prog_2_method_3_31 : decode prog_2_method_3_code 31 = .ok (.invokevirtual 42, 3) := by decide +kernel
theorem d_prog_2_method_3_34 : decode prog_2_method_3_code 34 = .ok (.ifCond .eq 12, 3) := by decide +kernel
theorem d_prog_2_method_3_46 : decode prog_2_method_3_code 46 = .ok (.iload_n 1, 1) := by decide +kernel
theorem d_prog_2_method_3_47 : decode prog_2_method_3_code 47 = .ok (.istore_n 3, 1) := by decide +kernel
theorem d_prog_2_method_3_37 : decode prog_2_method_3_code 37 = .ok (.aload_n 0, 1) := by decide +kernel
theorem d_prog_2_method_3_38 : decode prog_2_method_3_code 38 = .ok (.iload_n 1, 1) := by decide +kernel
theorem d_prog_2_method_3_39 : decode prog_2_method_3_code 39 = .ok (.invokestatic 46, 3) := by decide +kernel
theorem wd_121 {a0 : Array Value} {Z : State} (hw : ∀ d ∈ tables_1, d.before a0 Z = true) : (Jvm.Cond.methodLink "com/example/enact/enact/compiler/XPathText" (46 : Nat) ({ cls := "com/example/enact/enact/compiler/XPathText", name := "endOfComment", desc := "(Ljava/lang/String;I)I" } : Jvm.MethodName)).before a0 Z = true := hw _ (List.mem_of_getElem? (i := 121) rfl)
theorem wd_123 {a0 : Array Value} {Z : State} (hw : ∀ d ∈ tables_1, d.before a0 Z = true) : (Jvm.Cond.code ({ cls := "com/example/enact/enact/compiler/XPathText", name := "endOfComment", desc := "(Ljava/lang/String;I)I" } : Jvm.MethodName) prog_2_method_5_code (4 : Nat) (Option.some Jvm.ClassFile.FieldType.int)).before a0 Z = true := hw _ (List.mem_of_getElem? (i := 123) rfl)
theorem wd_122 {a0 : Array Value} {Z : State} (hw : ∀ d ∈ tables_1, d.before a0 Z = true) : (Jvm.Cond.static ({ cls := "com/example/enact/enact/compiler/XPathText", name := "endOfComment", desc := "(Ljava/lang/String;I)I" } : Jvm.MethodName)).before a0 Z = true := hw _ (List.mem_of_getElem? (i := 122) rfl)
theorem d_prog_2_method_3_42 : decode prog_2_method_3_code 42 = .ok (.istore_n 3, 1) := by decide +kernel
theorem d_prog_2_method_3_43 : decode prog_2_method_3_code 43 = .ok (.goto 5, 3) := by decide +kernel
theorem d_jdk_29_method_65_0 : decode jdk_29_method_65_code 0 = .ok (.iload_n 0, 1) := by decide +kernel
theorem d_jdk_29_method_65_1 : decode jdk_29_method_65_code 1 = .ok (.iload_n 1, 1) := by decide +kernel
theorem d_jdk_29_method_65_2 : decode jdk_29_method_65_code 2 = .ok (.if_icmp .lt 7, 3) := by decide +kernel
theorem d_jdk_29_method_65_9 : decode jdk_29_method_65_code 9 = .ok (.iload_n 1, 1) := by decide +kernel
theorem d_jdk_29_method_65_10 : decode jdk_29_method_65_code 10 = .ok (.ireturn, 1) := by decide +kernel
theorem d_jdk_29_method_65_5 : decode jdk_29_method_65_code 5 = .ok (.iload_n 0, 1) := by decide +kernel
theorem d_jdk_29_method_65_6 : decode jdk_29_method_65_code 6 = .ok (.goto 4, 3) := by decide +kernel
theorem d_jdk_29_method_69_0 : decode jdk_29_method_69_code 0 = .ok (.iload_n 0, 1) := by decide +kernel
theorem d_jdk_29_method_69_1 : decode jdk_29_method_69_code 1 = .ok (.iload_n 1, 1) := by decide +kernel
theorem d_jdk_29_method_69_2 : decode jdk_29_method_69_code 2 = .ok (.if_icmp .gt 7, 3) := by decide +kernel
theorem d_jdk_29_method_69_9 : decode jdk_29_method_69_code 9 = .ok (.iload_n 1, 1) := by decide +kernel
theorem d_jdk_29_method_69_10 : decode jdk_29_method_69_code 10 = .ok (.ireturn, 1) := by decide +kernel
theorem d_jdk_29_method_69_5 : decode jdk_29_method_69_code 5 = .ok (.iload_n 0, 1) := by decide +kernel
theorem d_jdk_29_method_69_6 : decode jdk_29_method_69_code 6 = .ok (.goto 4, 3) := by decide +kernel
theorem d_jdk_42_method_154_0 : decode jdk_42_method_154_code 0 = .ok (.getstatic 38, 3) := by decide +kernel
theorem d_jdk_42_method_154_3 : decode jdk_42_method_154_code 3 = .ok (.ifCond .eq 14, 3) := by decide +kernel
theorem d_jdk_42_method_154_6 : decode jdk_42_method_154_code 6 = .ok (.aload_n 0, 1) := by decide +kernel
theorem d_jdk_42_method_154_7 : decode jdk_42_method_154_code 7 = .ok (.getfield 15, 3) := by decide +kernel
theorem d_jdk_42_method_154_10 : decode jdk_42_method_154_code 10 = .ok (.ifCond .ne 7, 3) := by decide +kernel
theorem d_jdk_42_method_154_13 : decode jdk_42_method_154_code 13 = .ok (.iconst 1, 1) := by decide +kernel
theorem d_jdk_42_method_154_14 : decode jdk_42_method_154_code 14 = .ok (.goto 4, 3) := by decide +kernel
theorem d_jdk_42_method_154_18 : decode jdk_42_method_154_code 18 = .ok (.ireturn, 1) := by decide +kernel
theorem d_jdk_43_method_4_0 : decode jdk_43_method_4_code 0 = .ok (.iload_n 0, 1) := by decide +kernel
theorem d_jdk_43_method_4_1 : decode jdk_43_method_4_code 1 = .ok (.ifCond .lt 14, 3) := by decide +kernel
theorem d_jdk_43_method_4_4 : decode jdk_43_method_4_code 4 = .ok (.iload_n 0, 1) := by decide +kernel
theorem d_jdk_43_method_4_5 : decode jdk_43_method_4_code 5 = .ok (.sipush 255, 3) := by decide +kernel
theorem d_jdk_43_method_4_8 : decode jdk_43_method_4_code 8 = .ok (.if_icmp .gt 7, 3) := by decide +kernel
theorem d_jdk_43_method_4_11 : decode jdk_43_method_4_code 11 = .ok (.iconst 1, 1) := by decide +kernel
theorem d_jdk_43_method_4_12 : decode jdk_43_method_4_code 12 = .ok (.goto 4, 3) := by decide +kernel
theorem d_jdk_43_method_4_16 : decode jdk_43_method_4_code 16 = .ok (.ireturn, 1) := by decide +kernel
theorem pn_3 : plainName "java/lang/StringLatin1" = true := by first | (simp [plainName, overriddenIn]; done) | decide +kernel
theorem d_jdk_43_method_23_0 : decode jdk_43_method_23_code 0 = .ok (.iload_n 1, 1) := by decide +kernel
theorem d_jdk_43_method_23_1 : decode jdk_43_method_23_code 1 = .ok (.i2b, 1) := by decide +kernel
theorem d_jdk_43_method_23_2 : decode jdk_43_method_23_code 2 = .ok (.istore 4, 2) := by decide +kernel
theorem d_jdk_43_method_23_4 : decode jdk_43_method_23_code 4 = .ok (.iload_n 2, 1) := by decide +kernel
theorem d_jdk_43_method_23_5 : decode jdk_43_method_23_code 5 = .ok (.istore 5, 2) := by decide +kernel
theorem d_jdk_43_method_23_7 : decode jdk_43_method_23_code 7 = .ok (.iload 5, 2) := by decide +kernel
theorem d_jdk_43_method_23_9 : decode jdk_43_method_23_code 9 = .ok (.iload_n 3, 1) := by decide +kernel
theorem d_jdk_43_method_23_10 : decode jdk_43_method_23_code 10 = .ok (.if_icmp .ge 21, 3) := by decide +kernel
theorem d_jdk_43_method_23_13 : decode jdk_43_method_23_code 13 = .ok (.aload_n 0, 1) := by decide +kernel
theorem d_jdk_43_method_23_14 : decode jdk_43_method_23_code 14 = .ok (.iload 5, 2) := by decide +kernel
theorem d_jdk_43_method_23_16 : decode jdk_43_method_23_code 16 = .ok (.baload, 1) := by decide +kernel
theorem d_jdk_43_method_23_17 : decode jdk_43_method_23_code 17 = .ok (.iload 4, 2) := by decide +kernel
theorem d_jdk_43_method_23_19 : decode jdk_43_method_23_code 19 = .ok (.if_icmp .ne 6, 3) := by decide +kernel
theorem d_jdk_43_method_23_25 : decode jdk_43_method_23_code 25 = .ok (.iinc 5 1, 3) := by decide +kernel
theorem d_jdk_43_method_23_28 : decode jdk_43_method_23_code 28 = .ok (.goto (-21), 3) := by decide +kernel
theorem d_jdk_43_method_23_31 : decode jdk_43_method_23_code 31 = .ok (.iconst (-1), 1) := by decide +kernel
theorem d_jdk_43_method_23_32 : decode jdk_43_method_23_code 32 = .ok (.ireturn, 1) := by decide +kernel
theorem d_jdk_43_method_23_22 : decode jdk_43_method_23_code 22 = .ok (.iload 5, 2) := by decide +kernel
theorem d_jdk_43_method_23_24 : decode jdk_43_method_23_code 24 = .ok (.ireturn, 1) := by decide +kernel
theorem d_jdk_43_method_22_0 : decode jdk_43_method_22_code 0 = .ok (.iload_n 1, 1) := by decide +kernel
theorem d_jdk_43_method_22_1 : decode jdk_43_method_22_code 1 = .ok (.invokestatic 88, 3) := by decide +kernel
theorem wd_107 {a0 : Array Value} {Z : State} (hw : ∀ d ∈ tables_1, d.before a0 Z = true) : (Jvm.Cond.methodLink "java/lang/StringLatin1" (88 : Nat) ({ cls := "java/lang/StringLatin1", name := "canEncode", desc := "(I)Z" } : Jvm.MethodName)).before a0 Z = true := hw _ (List.mem_of_getElem? (i := 107) rfl)
theorem wd_109 {a0 : Array Value} {Z : State} (hw : ∀ d ∈ tables_1, d.before a0 Z = true) : (Jvm.Cond.code ({ cls := "java/lang/StringLatin1", name := "canEncode", desc := "(I)Z" } : Jvm.MethodName) jdk_43_method_4_code (1 : Nat) (Option.some Jvm.ClassFile.FieldType.boolean)).before a0 Z = true := hw _ (List.mem_of_getElem? (i := 109) rfl)
theorem wd_67 {a0 : Array Value} {Z : State} (hw : ∀ d ∈ tables_1, d.before a0 Z = true) : (Jvm.Cond.initialized "java/lang/StringLatin1").before a0 Z = true := hw _ (List.mem_of_getElem? (i := 67) rfl)
theorem wd_108 {a0 : Array Value} {Z : State} (hw : ∀ d ∈ tables_1, d.before a0 Z = true) : (Jvm.Cond.static ({ cls := "java/lang/StringLatin1", name := "canEncode", desc := "(I)Z" } : Jvm.MethodName)).before a0 Z = true := hw _ (List.mem_of_getElem? (i := 108) rfl)
theorem pd_6 : parseMethodDescriptor "(I)Z" = some ⟨[.int], some .boolean⟩ := by decide +kernel
theorem d_jdk_43_method_22_4 : decode jdk_43_method_22_code 4 = .ok (.ifCond .ne 5, 3) := by decide +kernel
theorem d_jdk_43_method_22_9 : decode jdk_43_method_22_code 9 = .ok (.iload_n 2, 1) := by decide +kernel
theorem d_jdk_43_method_22_10 : decode jdk_43_method_22_code 10 = .ok (.iconst 0, 1) := by decide +kernel
theorem d_jdk_43_method_22_11 : decode jdk_43_method_22_code 11 = .ok (.invokestatic 92, 3) := by decide +kernel
theorem wd_110 {a0 : Array Value} {Z : State} (hw : ∀ d ∈ tables_1, d.before a0 Z = true) : (Jvm.Cond.methodLink "java/lang/StringLatin1" (92 : Nat) ({ cls := "java/lang/Math", name := "max", desc := "(II)I" } : Jvm.MethodName)).before a0 Z = true := hw _ (List.mem_of_getElem? (i := 110) rfl)
theorem wd_113 {a0 : Array Value} {Z : State} (hw : ∀ d ∈ tables_1, d.before a0 Z = true) : (Jvm.Cond.code ({ cls := "java/lang/Math", name := "max", desc := "(II)I" } : Jvm.MethodName) jdk_29_method_65_code (2 : Nat) (Option.some Jvm.ClassFile.FieldType.int)).before a0 Z = true := hw _ (List.mem_of_getElem? (i := 113) rfl)
theorem wd_112 {a0 : Array Value} {Z : State} (hw : ∀ d ∈ tables_1, d.before a0 Z = true) : (Jvm.Cond.initialized "java/lang/Math").before a0 Z = true := hw _ (List.mem_of_getElem? (i := 112) rfl)
theorem wd_111 {a0 : Array Value} {Z : State} (hw : ∀ d ∈ tables_1, d.before a0 Z = true) : (Jvm.Cond.static ({ cls := "java/lang/Math", name := "max", desc := "(II)I" } : Jvm.MethodName)).before a0 Z = true := hw _ (List.mem_of_getElem? (i := 111) rfl)
theorem pd_7 : parseMethodDescriptor "(II)I" = some ⟨[.int, .int], some .int⟩ := by decide +kernel
theorem d_jdk_43_method_22_14 : decode jdk_43_method_22_code 14 = .ok (.istore_n 2, 1) := by decide +kernel
theorem d_jdk_43_method_22_15 : decode jdk_43_method_22_code 15 = .ok (.iload_n 3, 1) := by decide +kernel
theorem d_jdk_43_method_22_16 : decode jdk_43_method_22_code 16 = .ok (.aload_n 0, 1) := by decide +kernel
theorem d_jdk_43_method_22_17 : decode jdk_43_method_22_code 17 = .ok (.arraylength, 1) := by decide +kernel
theorem d_jdk_43_method_22_18 : decode jdk_43_method_22_code 18 = .ok (.invokestatic 38, 3) := by decide +kernel
theorem wd_114 {a0 : Array Value} {Z : State} (hw : ∀ d ∈ tables_1, d.before a0 Z = true) : (Jvm.Cond.methodLink "java/lang/StringLatin1" (38 : Nat) ({ cls := "java/lang/Math", name := "min", desc := "(II)I" } : Jvm.MethodName)).before a0 Z = true := hw _ (List.mem_of_getElem? (i := 114) rfl)
theorem wd_116 {a0 : Array Value} {Z : State} (hw : ∀ d ∈ tables_1, d.before a0 Z = true) : (Jvm.Cond.code ({ cls := "java/lang/Math", name := "min", desc := "(II)I" } : Jvm.MethodName) jdk_29_method_69_code (2 : Nat) (Option.some Jvm.ClassFile.FieldType.int)).before a0 Z = true := hw _ (List.mem_of_getElem? (i := 116) rfl)
theorem wd_115 {a0 : Array Value} {Z : State} (hw : ∀ d ∈ tables_1, d.before a0 Z = true) : (Jvm.Cond.static ({ cls := "java/lang/Math", name := "min", desc := "(II)I" } : Jvm.MethodName)).before a0 Z = true := hw _ (List.mem_of_getElem? (i := 115) rfl)
theorem d_jdk_43_method_22_21 : decode jdk_43_method_22_code 21 = .ok (.istore_n 3, 1) := by decide +kernel
theorem d_jdk_43_method_22_22 : decode jdk_43_method_22_code 22 = .ok (.iload_n 2, 1) := by decide +kernel
theorem d_jdk_43_method_22_23 : decode jdk_43_method_22_code 23 = .ok (.iload_n 3, 1) := by decide +kernel
theorem d_jdk_43_method_22_24 : decode jdk_43_method_22_code 24 = .ok (.if_icmp .lt 5, 3) := by decide +kernel
theorem d_jdk_43_method_22_29 : decode jdk_43_method_22_code 29 = .ok (.aload_n 0, 1) := by decide +kernel
theorem d_jdk_43_method_22_30 : decode jdk_43_method_22_code 30 = .ok (.iload_n 1, 1) := by decide +kernel
theorem d_jdk_43_method_22_31 : decode jdk_43_method_22_code 31 = .ok (.iload_n 2, 1) := by decide +kernel
theorem d_jdk_43_method_22_32 : decode jdk_43_method_22_code 32 = .ok (.iload_n 3, 1) := by decide +kernel
theorem d_jdk_43_method_22_33 : decode jdk_43_method_22_code 33 = .ok (.invokestatic 95, 3) := by decide +kernel
theorem wd_117 {a0 : Array Value} {Z : State} (hw : ∀ d ∈ tables_1, d.before a0 Z = true) : (Jvm.Cond.methodLink "java/lang/StringLatin1" (95 : Nat) ({ cls := "java/lang/StringLatin1", name := "indexOfChar", desc := "([BIII)I" } : Jvm.MethodName)).before a0 Z = true := hw _ (List.mem_of_getElem? (i := 117) rfl)
theorem wd_119 {a0 : Array Value} {Z : State} (hw : ∀ d ∈ tables_1, d.before a0 Z = true) : (Jvm.Cond.code ({ cls := "java/lang/StringLatin1", name := "indexOfChar", desc := "([BIII)I" } : Jvm.MethodName) jdk_43_method_23_code (6 : Nat) (Option.some Jvm.ClassFile.FieldType.int)).before a0 Z = true := hw _ (List.mem_of_getElem? (i := 119) rfl)
theorem wd_118 {a0 : Array Value} {Z : State} (hw : ∀ d ∈ tables_1, d.before a0 Z = true) : (Jvm.Cond.static ({ cls := "java/lang/StringLatin1", name := "indexOfChar", desc := "([BIII)I" } : Jvm.MethodName)).before a0 Z = true := hw _ (List.mem_of_getElem? (i := 118) rfl)
theorem pd_8 : parseMethodDescriptor "([BIII)I" = some ⟨[(.array .byte), .int, .int, .int], some .int⟩ := by decide +kernel
theorem d_jdk_43_method_22_36 : decode jdk_43_method_22_code 36 = .ok (.ireturn, 1) := by decide +kernel
theorem d_jdk_42_method_80_0 : decode jdk_42_method_80_code 0 = .ok (.aload_n 0, 1) := by decide +kernel
theorem d_jdk_42_method_80_1 : decode jdk_42_method_80_code 1 = .ok (.invokevirtual 492, 3) := by decide +kernel
theorem wd_60 {a0 : Array Value} {Z : State} (hw : ∀ d ∈ tables_1, d.before a0 Z = true) : (Jvm.Cond.methodLink "java/lang/String" (492 : Nat) ({ cls := "java/lang/String", name := "isLatin1", desc := "()Z" } : Jvm.MethodName)).before a0 Z = true := hw _ (List.mem_of_getElem? (i := 60) rfl)
theorem wd_64 {a0 : Array Value} {Z : State} (hw : ∀ d ∈ tables_1, d.before a0 Z = true) : (Jvm.Cond.code ({ cls := "java/lang/String", name := "isLatin1", desc := "()Z" } : Jvm.MethodName) jdk_42_method_154_code (1 : Nat) (Option.some Jvm.ClassFile.FieldType.boolean)).before a0 Z = true := hw _ (List.mem_of_getElem? (i := 64) rfl)
theorem wd_61 {a0 : Array Value} {Z : State} (hw : ∀ d ∈ tables_1, d.before a0 Z = true) : (Jvm.Cond.declares ({ cls := "java/lang/String", name := "isLatin1", desc := "()Z" } : Jvm.MethodName)).before a0 Z = true := hw _ (List.mem_of_getElem? (i := 61) rfl)
theorem wd_63 {a0 : Array Value} {Z : State} (hw : ∀ d ∈ tables_1, d.before a0 Z = true) : (Jvm.Cond.selects "java/lang/String" ({ cls := "java/lang/String", name := "isLatin1", desc := "()Z" } : Jvm.MethodName) ({ cls := "java/lang/String", name := "isLatin1", desc := "()Z" } : Jvm.MethodName)).before a0 Z = true := hw _ (List.mem_of_getElem? (i := 63) rfl)
theorem wd_62 {a0 : Array Value} {Z : State} (hw : ∀ d ∈ tables_1, d.before a0 Z = true) : (Jvm.Cond.instanceMethod ({ cls := "java/lang/String", name := "isLatin1", desc := "()Z" } : Jvm.MethodName)).before a0 Z = true := hw _ (List.mem_of_getElem? (i := 62) rfl)
theorem pd_9 : parseMethodDescriptor "()Z" = some ⟨[], some .boolean⟩ := by decide +kernel
theorem d_jdk_42_method_80_4 : decode jdk_42_method_80_code 4 = .ok (.ifCond .eq 19, 3) := by decide +kernel
theorem d_jdk_42_method_80_7 : decode jdk_42_method_80_code 7 = .ok (.aload_n 0, 1) := by decide +kernel
theorem d_jdk_42_method_80_8 : decode jdk_42_method_80_code 8 = .ok (.getfield 9, 3) := by decide +kernel
theorem d_jdk_42_method_80_11 : decode jdk_42_method_80_code 11 = .ok (.iload_n 1, 1) := by decide +kernel
theorem d_jdk_42_method_80_12 : decode jdk_42_method_80_code 12 = .ok (.iload_n 2, 1) := by decide +kernel
theorem d_jdk_42_method_80_13 : decode jdk_42_method_80_code 13 = .ok (.aload_n 0, 1) := by decide +kernel
theorem d_jdk_42_method_80_14 : decode jdk_42_method_80_code 14 = .ok (.invokevirtual 505, 3) := by decide +kernel
theorem d_jdk_42_method_80_17 : decode jdk_42_method_80_code 17 = .ok (.invokestatic 637, 3) := by decide +kernel
theorem wd_104 {a0 : Array Value} {Z : State} (hw : ∀ d ∈ tables_1, d.before a0 Z = true) : (Jvm.Cond.methodLink "java/lang/String" (637 : Nat) ({ cls := "java/lang/StringLatin1", name := "indexOf", desc := "([BIII)I" } : Jvm.MethodName)).before a0 Z = true := hw _ (List.mem_of_getElem? (i := 104) rfl)
theorem wd_106 {a0 : Array Value} {Z : State} (hw : ∀ d ∈ tables_1, d.before a0 Z = true) : (Jvm.Cond.code ({ cls := "java/lang/StringLatin1", name := "indexOf", desc := "([BIII)I" } : Jvm.MethodName) jdk_43_method_22_code (4 : Nat) (Option.some Jvm.ClassFile.FieldType.int)).before a0 Z = true := hw _ (List.mem_of_getElem? (i := 106) rfl)
theorem wd_105 {a0 : Array Value} {Z : State} (hw : ∀ d ∈ tables_1, d.before a0 Z = true) : (Jvm.Cond.static ({ cls := "java/lang/StringLatin1", name := "indexOf", desc := "([BIII)I" } : Jvm.MethodName)).before a0 Z = true := hw _ (List.mem_of_getElem? (i := 105) rfl)
theorem d_jdk_42_method_80_20 : decode jdk_42_method_80_code 20 = .ok (.goto 16, 3) := by decide +kernel
theorem d_jdk_42_method_80_36 : decode jdk_42_method_80_code 36 = .ok (.ireturn, 1) := by decide +kernel
theorem d_jdk_42_method_79_0 : decode jdk_42_method_79_code 0 = .ok (.aload_n 0, 1) := by decide +kernel
theorem d_jdk_42_method_79_1 : decode jdk_42_method_79_code 1 = .ok (.iload_n 1, 1) := by decide +kernel
theorem d_jdk_42_method_79_2 : decode jdk_42_method_79_code 2 = .ok (.iconst 0, 1) := by decide +kernel
theorem d_jdk_42_method_79_3 : decode jdk_42_method_79_code 3 = .ok (.invokevirtual 633, 3) := by decide +kernel
theorem wd_99 {a0 : Array Value} {Z : State} (hw : ∀ d ∈ tables_1, d.before a0 Z = true) : (Jvm.Cond.methodLink "java/lang/String" (633 : Nat) ({ cls := "java/lang/String", name := "indexOf", desc := "(II)I" } : Jvm.MethodName)).before a0 Z = true := hw _ (List.mem_of_getElem? (i := 99) rfl)
theorem wd_103 {a0 : Array Value} {Z : State} (hw : ∀ d ∈ tables_1, d.before a0 Z = true) : (Jvm.Cond.code ({ cls := "java/lang/String", name := "indexOf", desc := "(II)I" } : Jvm.MethodName) jdk_42_method_80_code (3 : Nat) (Option.some Jvm.ClassFile.FieldType.int)).before a0 Z = true := hw _ (List.mem_of_getElem? (i := 103) rfl)
theorem wd_100 {a0 : Array Value} {Z : State} (hw : ∀ d ∈ tables_1, d.before a0 Z = true) : (Jvm.Cond.declares ({ cls := "java/lang/String", name := "indexOf", desc := "(II)I" } : Jvm.MethodName)).before a0 Z = true := hw _ (List.mem_of_getElem? (i := 100) rfl)
theorem wd_102 {a0 : Array Value} {Z : State} (hw : ∀ d ∈ tables_1, d.before a0 Z = true) : (Jvm.Cond.selects "java/lang/String" ({ cls := "java/lang/String", name := "indexOf", desc := "(II)I" } : Jvm.MethodName) ({ cls := "java/lang/String", name := "indexOf", desc := "(II)I" } : Jvm.MethodName)).before a0 Z = true := hw _ (List.mem_of_getElem? (i := 102) rfl)
theorem wd_101 {a0 : Array Value} {Z : State} (hw : ∀ d ∈ tables_1, d.before a0 Z = true) : (Jvm.Cond.instanceMethod ({ cls := "java/lang/String", name := "indexOf", desc := "(II)I" } : Jvm.MethodName)).before a0 Z = true := hw _ (List.mem_of_getElem? (i := 101) rfl)
theorem d_jdk_42_method_79_6 : decode jdk_42_method_79_code 6 = .ok (.ireturn, 1) := by decide +kernel
theorem d_prog_2_method_2_6 : decode prog_2_method_2_code 6 = .ok (.iload_n 3, 1) := by decide +kernel
theorem d_prog_2_method_2_7 : decode prog_2_method_2_code 7 = .ok (.aload_n 0, 1) := by decide +kernel
theorem d_prog_2_method_2_8 : decode prog_2_method_2_code 8 = .ok (.invokevirtual 7, 3) := by decide +kernel
theorem d_prog_2_method_2_11 : decode prog_2_method_2_code 11 = .ok (.if_icmp .ge 83, 3) := by decide +kernel
theorem d_prog_2_method_2_94 : decode prog_2_method_2_code 94 = .ok (.iload_n 2, 1) := by decide +kernel
theorem d_prog_2_method_2_95 : decode prog_2_method_2_code 95 = .ok (.ireturn, 1) := by decide +kernel
theorem d_prog_2_method_2_14 : decode prog_2_method_2_code 14 = .ok (.aload_n 0, 1) := by decide +kernel
theorem d_prog_2_method_2_15 : decode prog_2_method_2_code 15 = .ok (.iload_n 3, 1) := by decide +kernel
theorem d_prog_2_method_2_16 : decode prog_2_method_2_code 16 = .ok (.invokevirtual 13, 3) := by decide +kernel
theorem d_prog_2_method_2_19 : decode prog_2_method_2_code 19 = .ok (.istore 4, 2) := by decide +kernel
theorem d_prog_2_method_2_21 : decode prog_2_method_2_code 21 = .ok (.aload_n 0, 1) := by decide +kernel
theorem d_prog_2_method_2_22 : decode prog_2_method_2_code 22 = .ok (.iload_n 3, 1) := by decide +kernel
theorem d_prog_2_method_2_23 : decode prog_2_method_2_code 23 = .ok (.invokestatic 17, 3) := by decide +kernel
theorem wd_77 {a0 : Array Value} {Z : State} (hw : ∀ d ∈ tables_1, d.before a0 Z = true) : (Jvm.Cond.methodLink "com/example/enact/enact/compiler/XPathText" (17 : Nat) ({ cls := "com/example/enact/enact/compiler/XPathText", name := "afterLiteralOrComment", desc := "(Ljava/lang/String;I)I" } : Jvm.MethodName)).before a0 Z = true := hw _ (List.mem_of_getElem? (i := 77) rfl)
theorem wd_79 {a0 : Array Value} {Z : State} (hw : ∀ d ∈ tables_1, d.before a0 Z = true) : (Jvm.Cond.code ({ cls := "com/example/enact/enact/compiler/XPathText", name := "afterLiteralOrComment", desc := "(Ljava/lang/String;I)I" } : Jvm.MethodName) prog_2_method_3_code (4 : Nat) (Option.some Jvm.ClassFile.FieldType.int)).before a0 Z = true := hw _ (List.mem_of_getElem? (i := 79) rfl)
theorem wd_78 {a0 : Array Value} {Z : State} (hw : ∀ d ∈ tables_1, d.before a0 Z = true) : (Jvm.Cond.static ({ cls := "com/example/enact/enact/compiler/XPathText", name := "afterLiteralOrComment", desc := "(Ljava/lang/String;I)I" } : Jvm.MethodName)).before a0 Z = true := hw _ (List.mem_of_getElem? (i := 78) rfl)
theorem d_prog_2_method_2_26 : decode prog_2_method_2_code 26 = .ok (.istore 5, 2) := by decide +kernel
theorem d_prog_2_method_2_28 : decode prog_2_method_2_code 28 = .ok (.iload 5, 2) := by decide +kernel
theorem d_prog_2_method_2_30 : decode prog_2_method_2_code 30 = .ok (.iload_n 3, 1) := by decide +kernel
theorem d_prog_2_method_2_31 : decode prog_2_method_2_code 31 = .ok (.if_icmp .le 9, 3) := by decide +kernel
theorem d_prog_2_method_2_40 : decode prog_2_method_2_code 40 = .ok (.ldc 23, 2) := by decide +kernel
theorem d_prog_2_method_2_42 : decode prog_2_method_2_code 42 = .ok (.iload 4, 2) := by decide +kernel
theorem d_prog_2_method_2_44 : decode prog_2_method_2_code 44 = .ok (.invokevirtual 25, 3) := by decide +kernel
theorem wd_94 {a0 : Array Value} {Z : State} (hw : ∀ d ∈ tables_1, d.before a0 Z = true) : (Jvm.Cond.methodLink "com/example/enact/enact/compiler/XPathText" (25 : Nat) ({ cls := "java/lang/String", name := "indexOf", desc := "(I)I" } : Jvm.MethodName)).before a0 Z = true := hw _ (List.mem_of_getElem? (i := 94) rfl)
theorem wd_98 {a0 : Array Value} {Z : State} (hw : ∀ d ∈ tables_1, d.before a0 Z = true) : (Jvm.Cond.code ({ cls := "java/lang/String", name := "indexOf", desc := "(I)I" } : Jvm.MethodName) jdk_42_method_79_code (2 : Nat) (Option.some Jvm.ClassFile.FieldType.int)).before a0 Z = true := hw _ (List.mem_of_getElem? (i := 98) rfl)
theorem wd_95 {a0 : Array Value} {Z : State} (hw : ∀ d ∈ tables_1, d.before a0 Z = true) : (Jvm.Cond.declares ({ cls := "java/lang/String", name := "indexOf", desc := "(I)I" } : Jvm.MethodName)).before a0 Z = true := hw _ (List.mem_of_getElem? (i := 95) rfl)
theorem wd_97 {a0 : Array Value} {Z : State} (hw : ∀ d ∈ tables_1, d.before a0 Z = true) : (Jvm.Cond.selects "java/lang/String" ({ cls := "java/lang/String", name := "indexOf", desc := "(I)I" } : Jvm.MethodName) ({ cls := "java/lang/String", name := "indexOf", desc := "(I)I" } : Jvm.MethodName)).before a0 Z = true := hw _ (List.mem_of_getElem? (i := 97) rfl)
theorem wd_96 {a0 : Array Value} {Z : State} (hw : ∀ d ∈ tables_1, d.before a0 Z = true) : (Jvm.Cond.instanceMethod ({ cls := "java/lang/String", name := "indexOf", desc := "(I)I" } : Jvm.MethodName)).before a0 Z = true := hw _ (List.mem_of_getElem? (i := 96) rfl)
theorem pd_10 : parseMethodDescriptor "(I)I" = some ⟨[.int], some .int⟩ := by decide +kernel
theorem d_prog_2_method_2_47 : decode prog_2_method_2_code 47 = .ok (.ifCond .lt 18, 3) := by decide +kernel
theorem d_prog_2_method_2_65 : decode prog_2_method_2_code 65 = .ok (.ldc 35, 2) := by decide +kernel
theorem d_prog_2_method_2_67 : decode prog_2_method_2_code 67 = .ok (.iload 4, 2) := by decide +kernel
theorem d_prog_2_method_2_69 : decode prog_2_method_2_code 69 = .ok (.invokevirtual 25, 3) := by decide +kernel
theorem d_prog_2_method_2_72 : decode prog_2_method_2_code 72 = .ok (.ifCond .lt 16, 3) := by decide +kernel
theorem d_prog_2_method_2_88 : decode prog_2_method_2_code 88 = .ok (.iinc 3 1, 3) := by decide +kernel
theorem d_prog_2_method_2_91 : decode prog_2_method_2_code 91 = .ok (.goto (-85), 3) := by decide +kernel
theorem d_prog_2_method_2_75 : decode prog_2_method_2_code 75 = .ok (.iload_n 1, 1) := by decide +kernel
theorem d_prog_2_method_2_76 : decode prog_2_method_2_code 76 = .ok (.ifCond .le 12, 3) := by decide +kernel
theorem d_prog_2_method_2_79 : decode prog_2_method_2_code 79 = .ok (.iinc 1 (-1), 3) := by decide +kernel
theorem d_prog_2_method_2_82 : decode prog_2_method_2_code 82 = .ok (.iinc 3 1, 3) := by decide +kernel
theorem d_prog_2_method_2_85 : decode prog_2_method_2_code 85 = .ok (.goto 6, 3) := by decide +kernel
theorem d_prog_2_method_2_50 : decode prog_2_method_2_code 50 = .ok (.iinc 1 1, 3) := by decide +kernel
theorem d_prog_2_method_2_53 : decode prog_2_method_2_code 53 = .ok (.iload_n 2, 1) := by decide +kernel
theorem d_prog_2_method_2_54 : decode prog_2_method_2_code 54 = .ok (.iload_n 1, 1) := by decide +kernel
theorem d_prog_2_method_2_55 : decode prog_2_method_2_code 55 = .ok (.invokestatic 29, 3) := by decide +kernel
theorem wd_120 {a0 : Array Value} {Z : State} (hw : ∀ d ∈ tables_1, d.before a0 Z = true) : (Jvm.Cond.methodLink "com/example/enact/enact/compiler/XPathText" (29 : Nat) ({ cls := "java/lang/Math", name := "max", desc := "(II)I" } : Jvm.MethodName)).before a0 Z = true := hw _ (List.mem_of_getElem? (i := 120) rfl)
theorem d_prog_2_method_2_58 : decode prog_2_method_2_code 58 = .ok (.istore_n 2, 1) := by decide +kernel
theorem d_prog_2_method_2_59 : decode prog_2_method_2_code 59 = .ok (.iinc 3 1, 3) := by decide +kernel
theorem d_prog_2_method_2_62 : decode prog_2_method_2_code 62 = .ok (.goto 29, 3) := by decide +kernel
theorem d_prog_2_method_2_34 : decode prog_2_method_2_code 34 = .ok (.iload 5, 2) := by decide +kernel
theorem d_prog_2_method_2_36 : decode prog_2_method_2_code 36 = .ok (.istore_n 3, 1) := by decide +kernel
theorem d_prog_2_method_2_37 : decode prog_2_method_2_code 37 = .ok (.goto 54, 3) := by decide +kernel
theorem d_prog_2_method_2_0 : decode prog_2_method_2_code 0 = .ok (.iconst 0, 1) := by decide +kernel
theorem d_prog_2_method_2_1 : decode prog_2_method_2_code 1 = .ok (.istore_n 1, 1) := by decide +kernel
theorem d_prog_2_method_2_2 : decode prog_2_method_2_code 2 = .ok (.iconst 0, 1) := by decide +kernel
theorem d_prog_2_method_2_3 : decode prog_2_method_2_code 3 = .ok (.istore_n 2, 1) := by decide +kernel
theorem d_prog_2_method_2_4 : decode prog_2_method_2_code 4 = .ok (.iconst 0, 1) := by decide +kernel
theorem d_prog_2_method_2_5 : decode prog_2_method_2_code 5 = .ok (.istore_n 3, 1) := by decide +kernel
theorem d_method_3_0 : decode method_3_code 0 = .ok (.iload_n 0, 1) := by decide +kernel
theorem d_method_3_1 : decode method_3_code 1 = .ok (.sipush 255, 3) := by decide +kernel
theorem d_method_3_4 : decode method_3_code 4 = .ok (.iand, 1) := by decide +kernel
theorem d_method_3_5 : decode method_3_code 5 = .ok (.i2c, 1) := by decide +kernel
theorem d_method_3_6 : decode method_3_code 6 = .ok (.istore_n 1, 1) := by decide +kernel
theorem d_method_3_7 : decode method_3_code 7 = .ok (.iload_n 1, 1) := by decide +kernel
theorem d_method_3_8 : decode method_3_code 8 = .ok (.bipush 40, 2) := by decide +kernel
theorem d_method_3_10 : decode method_3_code 10 = .ok (.if_icmp .eq 51, 3) := by decide +kernel
theorem d_method_3_61 : decode method_3_code 61 = .ok (.bipush 120, 2) := by decide +kernel
theorem d_method_3_63 : decode method_3_code 63 = .ok (.ireturn, 1) := by decide +kernel
theorem d_method_3_13 : decode method_3_code 13 = .ok (.iload_n 1, 1) := by decide +kernel
theorem d_method_3_14 : decode method_3_code 14 = .ok (.bipush 41, 2) := by decide +kernel
theorem d_method_3_16 : decode method_3_code 16 = .ok (.if_icmp .eq 45, 3) := by decide +kernel
theorem d_method_3_19 : decode method_3_code 19 = .ok (.iload_n 1, 1) := by decide +kernel
theorem d_method_3_20 : decode method_3_code 20 = .ok (.bipush 91, 2) := by decide +kernel
theorem d_method_3_22 : decode method_3_code 22 = .ok (.if_icmp .eq 39, 3) := by decide +kernel
theorem d_method_3_25 : decode method_3_code 25 = .ok (.iload_n 1, 1) := by decide +kernel
theorem d_method_3_26 : decode method_3_code 26 = .ok (.bipush 93, 2) := by decide +kernel
theorem d_method_3_28 : decode method_3_code 28 = .ok (.if_icmp .eq 33, 3) := by decide +kernel
theorem d_method_3_31 : decode method_3_code 31 = .ok (.iload_n 1, 1) := by decide +kernel
theorem d_method_3_32 : decode method_3_code 32 = .ok (.bipush 123, 2) := by decide +kernel
theorem d_method_3_34 : decode method_3_code 34 = .ok (.if_icmp .eq 27, 3) := by decide +kernel
theorem d_method_3_37 : decode method_3_code 37 = .ok (.iload_n 1, 1) := by decide +kernel
theorem d_method_3_38 : decode method_3_code 38 = .ok (.bipush 125, 2) := by decide +kernel
theorem d_method_3_40 : decode method_3_code 40 = .ok (.if_icmp .eq 21, 3) := by decide +kernel
theorem d_method_3_43 : decode method_3_code 43 = .ok (.iload_n 1, 1) := by decide +kernel
theorem d_method_3_44 : decode method_3_code 44 = .ok (.bipush 39, 2) := by decide +kernel
theorem d_method_3_46 : decode method_3_code 46 = .ok (.if_icmp .eq 15, 3) := by decide +kernel
theorem d_method_3_49 : decode method_3_code 49 = .ok (.iload_n 1, 1) := by decide +kernel
theorem d_method_3_50 : decode method_3_code 50 = .ok (.bipush 34, 2) := by decide +kernel
theorem d_method_3_52 : decode method_3_code 52 = .ok (.if_icmp .eq 9, 3) := by decide +kernel
theorem d_method_3_55 : decode method_3_code 55 = .ok (.iload_n 1, 1) := by decide +kernel
theorem d_method_3_56 : decode method_3_code 56 = .ok (.bipush 58, 2) := by decide +kernel
theorem d_method_3_58 : decode method_3_code 58 = .ok (.if_icmp .ne 6, 3) := by decide +kernel
theorem d_method_3_64 : decode method_3_code 64 = .ok (.iload_n 1, 1) := by decide +kernel
theorem d_method_3_65 : decode method_3_code 65 = .ok (.ireturn, 1) := by decide +kernel
theorem pn_4 : plainName "com/example/enact/enact/compiler/XPathTextNestingPinLaw" = true := by first | (simp [plainName, overriddenIn]; done) | decide +kernel
theorem d_method_4_0 : decode method_4_code 0 = .ok (.iload_n 0, 1) := by decide +kernel
theorem d_method_4_1 : decode method_4_code 1 = .ok (.ifCond .ne 6, 3) := by decide +kernel
theorem d_method_4_7 : decode method_4_code 7 = .ok (.iload_n 0, 1) := by decide +kernel
theorem d_method_4_8 : decode method_4_code 8 = .ok (.iconst 1, 1) := by decide +kernel
theorem d_method_4_9 : decode method_4_code 9 = .ok (.if_icmp .ne 6, 3) := by decide +kernel
theorem d_method_4_15 : decode method_4_code 15 = .ok (.iload_n 0, 1) := by decide +kernel
theorem d_method_4_16 : decode method_4_code 16 = .ok (.iconst 2, 1) := by decide +kernel
theorem d_method_4_17 : decode method_4_code 17 = .ok (.if_icmp .ne 6, 3) := by decide +kernel
theorem d_method_4_23 : decode method_4_code 23 = .ok (.iload_n 0, 1) := by decide +kernel
theorem d_method_4_24 : decode method_4_code 24 = .ok (.iconst 3, 1) := by decide +kernel
theorem d_method_4_25 : decode method_4_code 25 = .ok (.if_icmp .ne 6, 3) := by decide +kernel
theorem d_method_4_31 : decode method_4_code 31 = .ok (.iload_n 0, 1) := by decide +kernel
theorem d_method_4_32 : decode method_4_code 32 = .ok (.iconst 4, 1) := by decide +kernel
theorem d_method_4_33 : decode method_4_code 33 = .ok (.if_icmp .ne 6, 3) := by decide +kernel
theorem d_method_4_39 : decode method_4_code 39 = .ok (.iload_n 0, 1) := by decide +kernel
theorem d_method_4_40 : decode method_4_code 40 = .ok (.iconst 5, 1) := by decide +kernel
theorem d_method_4_41 : decode method_4_code 41 = .ok (.if_icmp .ne 6, 3) := by decide +kernel
theorem d_method_4_47 : decode method_4_code 47 = .ok (.iload_n 1, 1) := by decide +kernel
theorem d_method_4_48 : decode method_4_code 48 = .ok (.ireturn, 1) := by decide +kernel
theorem d_method_4_44 : decode method_4_code 44 = .ok (.bipush 125, 2) := by decide +kernel
theorem d_method_4_46 : decode method_4_code 46 = .ok (.ireturn, 1) := by decide +kernel
theorem d_method_4_36 : decode method_4_code 36 = .ok (.bipush 93, 2) := by decide +kernel
theorem d_method_4_38 : decode method_4_code 38 = .ok (.ireturn, 1) := by decide +kernel
theorem d_method_4_28 : decode method_4_code 28 = .ok (.bipush 41, 2) := by decide +kernel
theorem d_method_4_30 : decode method_4_code 30 = .ok (.ireturn, 1) := by decide +kernel
theorem d_method_4_20 : decode method_4_code 20 = .ok (.bipush 123, 2) := by decide +kernel
theorem d_method_4_22 : decode method_4_code 22 = .ok (.ireturn, 1) := by decide +kernel
theorem d_method_4_12 : decode method_4_code 12 = .ok (.bipush 91, 2) := by decide +kernel
theorem d_method_4_14 : decode method_4_code 14 = .ok (.ireturn, 1) := by decide +kernel
theorem d_method_4_4 : decode method_4_code 4 = .ok (.bipush 40, 2) := by decide +kernel
theorem d_method_4_6 : decode method_4_code 6 = .ok (.ireturn, 1) := by decide +kernel
theorem d_method_6_0 : decode method_6_code 0 = .ok (.aload_n 0, 1) := by decide +kernel
theorem d_method_6_1 : decode method_6_code 1 = .ok (.iconst 3, 1) := by decide +kernel
theorem d_method_6_2 : decode method_6_code 2 = .ok (.iload_n 1, 1) := by decide +kernel
theorem d_method_6_3 : decode method_6_code 3 = .ok (.castore, 1) := by decide +kernel
theorem d_method_6_4 : decode method_6_code 4 = .ok (.aload_n 0, 1) := by decide +kernel
theorem d_method_6_5 : decode method_6_code 5 = .ok (.iconst 4, 1) := by decide +kernel
theorem d_method_6_6 : decode method_6_code 6 = .ok (.iload_n 2, 1) := by decide +kernel
theorem d_method_6_7 : decode method_6_code 7 = .ok (.castore, 1) := by decide +kernel
theorem d_method_6_8 : decode method_6_code 8 = .ok (.aload_n 0, 1) := by decide +kernel
theorem d_method_6_9 : decode method_6_code 9 = .ok (.iconst 5, 1) := by decide +kernel
theorem d_method_6_10 : decode method_6_code 10 = .ok (.iload_n 3, 1) := by decide +kernel
theorem d_method_6_11 : decode method_6_code 11 = .ok (.castore, 1) := by decide +kernel
theorem d_method_6_12 : decode method_6_code 12 = .ok (.aload_n 0, 1) := by decide +kernel
theorem d_method_6_13 : decode method_6_code 13 = .ok (.bipush 6, 2) := by decide +kernel
theorem d_method_6_15 : decode method_6_code 15 = .ok (.iload 4, 2) := by decide +kernel
theorem d_method_6_17 : decode method_6_code 17 = .ok (.castore, 1) := by decide +kernel
theorem d_method_6_18 : decode method_6_code 18 = .ok (.aload_n 0, 1) := by decide +kernel
theorem d_method_6_19 : decode method_6_code 19 = .ok (.bipush 7, 2) := by decide +kernel
theorem d_method_6_21 : decode method_6_code 21 = .ok (.iload 5, 2) := by decide +kernel
theorem d_method_6_23 : decode method_6_code 23 = .ok (.castore, 1) := by decide +kernel
theorem d_method_6_24 : decode method_6_code 24 = .ok (.aload_n 0, 1) := by decide +kernel
theorem d_method_6_25 : decode method_6_code 25 = .ok (.bipush 8, 2) := by decide +kernel
theorem d_method_6_27 : decode method_6_code 27 = .ok (.iload 6, 2) := by decide +kernel
theorem d_method_6_29 : decode method_6_code 29 = .ok (.castore, 1) := by decide +kernel
theorem d_method_6_30 : decode method_6_code 30 = .ok (.aload_n 0, 1) := by decide +kernel
theorem d_method_6_31 : decode method_6_code 31 = .ok (.bipush 9, 2) := by decide +kernel
theorem d_method_6_33 : decode method_6_code 33 = .ok (.iload 7, 2) := by decide +kernel
theorem d_method_6_35 : decode method_6_code 35 = .ok (.castore, 1) := by decide +kernel
theorem d_method_6_36 : decode method_6_code 36 = .ok (.aload_n 0, 1) := by decide +kernel
theorem d_method_6_37 : decode method_6_code 37 = .ok (.bipush 10, 2) := by decide +kernel
theorem d_method_6_39 : decode method_6_code 39 = .ok (.iload 8, 2) := by decide +kernel
theorem d_method_6_41 : decode method_6_code 41 = .ok (.castore, 1) := by decide +kernel
theorem d_method_6_42 : decode method_6_code 42 = .ok (.return_, 1) := by decide +kernel
theorem d_method_5_0 : decode method_5_code 0 = .ok (.iload_n 1, 1) := by decide +kernel
theorem d_method_5_1 : decode method_5_code 1 = .ok (.iconst 3, 1) := by decide +kernel
theorem d_method_5_2 : decode method_5_code 2 = .ok (.if_icmp .ge 7, 3) := by decide +kernel
theorem d_method_5_9 : decode method_5_code 9 = .ok (.iload_n 1, 1) := by decide +kernel
theorem d_method_5_10 : decode method_5_code 10 = .ok (.bipush 6, 2) := by decide +kernel
theorem d_method_5_12 : decode method_5_code 12 = .ok (.if_icmp .ge 15, 3) := by decide +kernel
theorem d_method_5_27 : decode method_5_code 27 = .ok (.iload_n 0, 1) := by decide +kernel
theorem d_method_5_28 : decode method_5_code 28 = .ok (.ireturn, 1) := by decide +kernel
theorem d_method_5_15 : decode method_5_code 15 = .ok (.iload_n 0, 1) := by decide +kernel
theorem d_method_5_16 : decode method_5_code 16 = .ok (.ifCond .le 9, 3) := by decide +kernel
theorem d_method_5_25 : decode method_5_code 25 = .ok (.iload_n 0, 1) := by decide +kernel
theorem d_method_5_26 : decode method_5_code 26 = .ok (.ireturn, 1) := by decide +kernel
theorem d_method_5_19 : decode method_5_code 19 = .ok (.iload_n 0, 1) := by decide +kernel
theorem d_method_5_20 : decode method_5_code 20 = .ok (.iconst 1, 1) := by decide +kernel
theorem d_method_5_21 : decode method_5_code 21 = .ok (.isub, 1) := by decide +kernel
theorem d_method_5_22 : decode method_5_code 22 = .ok (.goto 4, 3) := by decide +kernel
theorem d_method_5_5 : decode method_5_code 5 = .ok (.iload_n 0, 1) := by decide +kernel
theorem d_method_5_6 : decode method_5_code 6 = .ok (.iconst 1, 1) := by decide +kernel
theorem d_method_5_7 : decode method_5_code 7 = .ok (.iadd, 1) := by decide +kernel
theorem d_method_5_8 : decode method_5_code 8 = .ok (.ireturn, 1) := by decide +kernel
theorem wd_6 {a0 : Array Value} {Z : State} (hw : ∀ d ∈ tables_1, d.before a0 Z = true) : (Jvm.Cond.methodLink "com/example/enact/enact/compiler/XPathTextNestingPinLaw" (14 : Nat) ({ cls := "com/example/enact/enact/compiler/XPathTextNestingPinLaw", name := "sym", desc := "(IC)C" } : Jvm.MethodName)).before a0 Z = true := hw _ (List.mem_of_getElem? (i := 6) rfl)
theorem wd_8 {a0 : Array Value} {Z : State} (hw : ∀ d ∈ tables_1, d.before a0 Z = true) : (Jvm.Cond.code ({ cls := "com/example/enact/enact/compiler/XPathTextNestingPinLaw", name := "sym", desc := "(IC)C" } : Jvm.MethodName) method_4_code (2 : Nat) (Option.some Jvm.ClassFile.FieldType.char)).before a0 Z = true := hw _ (List.mem_of_getElem? (i := 8) rfl)
theorem wd_2 {a0 : Array Value} {Z : State} (hw : ∀ d ∈ tables_1, d.before a0 Z = true) : (Jvm.Cond.initialized "com/example/enact/enact/compiler/XPathTextNestingPinLaw").before a0 Z = true := hw _ (List.mem_of_getElem? (i := 2) rfl)
theorem wd_7 {a0 : Array Value} {Z : State} (hw : ∀ d ∈ tables_1, d.before a0 Z = true) : (Jvm.Cond.static ({ cls := "com/example/enact/enact/compiler/XPathTextNestingPinLaw", name := "sym", desc := "(IC)C" } : Jvm.MethodName)).before a0 Z = true := hw _ (List.mem_of_getElem? (i := 7) rfl)
theorem pd_11 : parseMethodDescriptor "(IC)C" = some ⟨[.int, .char], some .char⟩ := by decide +kernel
theorem wd_12 {a0 : Array Value} {Z : State} (hw : ∀ d ∈ tables_1, d.before a0 Z = true) : (Jvm.Cond.classLink "com/example/enact/enact/compiler/XPathTextNestingPinLaw" (22 : Nat) "java/lang/String").before a0 Z = true := hw _ (List.mem_of_getElem? (i := 12) rfl)
theorem wd_38 {a0 : Array Value} {Z : State} (hw : ∀ d ∈ tables_1, d.before a0 Z = true) : (Jvm.Cond.laysFinal "java/lang/String" "java/lang/String" "coder" "B").before a0 Z = true := hw _ (List.mem_of_getElem? (i := 38) rfl)
theorem wd_40 {a0 : Array Value} {Z : State} (hw : ∀ d ∈ tables_1, d.before a0 Z = true) : (Jvm.Cond.laysFinal "java/lang/String" "java/lang/String" "value" "[B").before a0 Z = true := hw _ (List.mem_of_getElem? (i := 40) rfl)
theorem wd_15 {a0 : Array Value} {Z : State} (hw : ∀ d ∈ tables_1, d.before a0 Z = true) : (Jvm.Cond.methodLink "com/example/enact/enact/compiler/XPathTextNestingPinLaw" (24 : Nat) ({ cls := "java/lang/String", name := "<init>", desc := "([C)V" } : Jvm.MethodName)).before a0 Z = true := hw _ (List.mem_of_getElem? (i := 15) rfl)
theorem wd_16 {a0 : Array Value} {Z : State} (hw : ∀ d ∈ tables_1, d.before a0 Z = true) : (Jvm.Cond.instanceMethod ({ cls := "java/lang/String", name := "<init>", desc := "([C)V" } : Jvm.MethodName)).before a0 Z = true := hw _ (List.mem_of_getElem? (i := 16) rfl)
theorem wd_17 {a0 : Array Value} {Z : State} (hw : ∀ d ∈ tables_1, d.before a0 Z = true) : (Jvm.Cond.code ({ cls := "java/lang/String", name := "<init>", desc := "([C)V" } : Jvm.MethodName) jdk_42_method_3_code (2 : Nat) (Option.none : Option Jvm.ClassFile.FieldType)).before a0 Z = true := hw _ (List.mem_of_getElem? (i := 17) rfl)
theorem pd_12 : parseMethodDescriptor "([C)V" = some ⟨[(.array .char)], none⟩ := by decide +kernel
theorem wd_41 {a0 : Array Value} {Z : State} (hw : ∀ d ∈ tables_1, d.before a0 Z = true) : (Jvm.Cond.methodLink "com/example/enact/enact/compiler/XPathTextNestingPinLaw" (27 : Nat) ({ cls := "com/example/enact/enact/compiler/XPathText", name := "nesting", desc := "(Ljava/lang/String;)I" } : Jvm.MethodName)).before a0 Z = true := hw _ (List.mem_of_getElem? (i := 41) rfl)
theorem wd_44 {a0 : Array Value} {Z : State} (hw : ∀ d ∈ tables_1, d.before a0 Z = true) : (Jvm.Cond.code ({ cls := "com/example/enact/enact/compiler/XPathText", name := "nesting", desc := "(Ljava/lang/String;)I" } : Jvm.MethodName) prog_2_method_2_code (6 : Nat) (Option.some Jvm.ClassFile.FieldType.int)).before a0 Z = true := hw _ (List.mem_of_getElem? (i := 44) rfl)
theorem wd_42 {a0 : Array Value} {Z : State} (hw : ∀ d ∈ tables_1, d.before a0 Z = true) : (Jvm.Cond.static ({ cls := "com/example/enact/enact/compiler/XPathText", name := "nesting", desc := "(Ljava/lang/String;)I" } : Jvm.MethodName)).before a0 Z = true := hw _ (List.mem_of_getElem? (i := 42) rfl)
theorem pd_13 : parseMethodDescriptor "(Ljava/lang/String;)I" = some ⟨[(.object "java/lang/String")], some .int⟩ := by decide +kernel
theorem wd_126 {a0 : Array Value} {Z : State} (hw : ∀ d ∈ tables_1, d.before a0 Z = true) : (Jvm.Cond.methodLink "com/example/enact/enact/compiler/XPathTextNestingPinLaw" (33 : Nat) ({ cls := "com/example/enact/enact/compiler/XPathTextNestingPinLaw", name := "next", desc := "(II)I" } : Jvm.MethodName)).before a0 Z = true := hw _ (List.mem_of_getElem? (i := 126) rfl)
theorem wd_128 {a0 : Array Value} {Z : State} (hw : ∀ d ∈ tables_1, d.before a0 Z = true) : (Jvm.Cond.code ({ cls := "com/example/enact/enact/compiler/XPathTextNestingPinLaw", name := "next", desc := "(II)I" } : Jvm.MethodName) method_5_code (2 : Nat) (Option.some Jvm.ClassFile.FieldType.int)).before a0 Z = true := hw _ (List.mem_of_getElem? (i := 128) rfl)
theorem wd_127 {a0 : Array Value} {Z : State} (hw : ∀ d ∈ tables_1, d.before a0 Z = true) : (Jvm.Cond.static ({ cls := "com/example/enact/enact/compiler/XPathTextNestingPinLaw", name := "next", desc := "(II)I" } : Jvm.MethodName)).before a0 Z = true := hw _ (List.mem_of_getElem? (i := 127) rfl)
theorem wd_129 {a0 : Array Value} {Z : State} (hw : ∀ d ∈ tables_1, d.before a0 Z = true) : (Jvm.Cond.methodLink "com/example/enact/enact/compiler/XPathTextNestingPinLaw" (37 : Nat) ({ cls := "java/lang/Math", name := "max", desc := "(II)I" } : Jvm.MethodName)).before a0 Z = true := hw _ (List.mem_of_getElem? (i := 129) rfl)
theorem wd_0 {a0 : Array Value} {Z : State} (hw : ∀ d ∈ tables_1, d.before a0 Z = true) : (Jvm.Cond.methodLink "com/example/enact/enact/compiler/XPathTextNestingPinLaw" (7 : Nat) ({ cls := "com/example/enact/enact/compiler/XPathTextNestingPinLaw", name := "filler", desc := "(I)C" } : Jvm.MethodName)).before a0 Z = true := hw _ (List.mem_of_getElem? (i := 0) rfl)
theorem wd_3 {a0 : Array Value} {Z : State} (hw : ∀ d ∈ tables_1, d.before a0 Z = true) : (Jvm.Cond.code ({ cls := "com/example/enact/enact/compiler/XPathTextNestingPinLaw", name := "filler", desc := "(I)C" } : Jvm.MethodName) method_3_code (2 : Nat) (Option.some Jvm.ClassFile.FieldType.char)).before a0 Z = true := hw _ (List.mem_of_getElem? (i := 3) rfl)
theorem wd_1 {a0 : Array Value} {Z : State} (hw : ∀ d ∈ tables_1, d.before a0 Z = true) : (Jvm.Cond.static ({ cls := "com/example/enact/enact/compiler/XPathTextNestingPinLaw", name := "filler", desc := "(I)C" } : Jvm.MethodName)).before a0 Z = true := hw _ (List.mem_of_getElem? (i := 1) rfl)
theorem wd_4 {a0 : Array Value} {Z : State} (hw : ∀ d ∈ tables_1, d.before a0 Z = true) : (Jvm.Cond.constant "com/example/enact/enact/compiler/XPathTextNestingPinLaw" (13 : Nat) (2147483647 : Int32)).before a0 Z = true := hw _ (List.mem_of_getElem? (i := 4) rfl)
theorem wd_5 {a0 : Array Value} {Z : State} (hw : ∀ d ∈ tables_1, d.before a0 Z = true) : (Jvm.Cond.arrayClass Jvm.ClassFile.FieldType.char).before a0 Z = true := hw _ (List.mem_of_getElem? (i := 5) rfl)
theorem wd_9 {a0 : Array Value} {Z : State} (hw : ∀ d ∈ tables_1, d.before a0 Z = true) : (Jvm.Cond.methodLink "com/example/enact/enact/compiler/XPathTextNestingPinLaw" (18 : Nat) ({ cls := "com/example/enact/enact/compiler/XPathTextNestingPinLaw", name := "put8", desc := "([CCCCCCCCC)V" } : Jvm.MethodName)).before a0 Z = true := hw _ (List.mem_of_getElem? (i := 9) rfl)
theorem wd_11 {a0 : Array Value} {Z : State} (hw : ∀ d ∈ tables_1, d.before a0 Z = true) : (Jvm.Cond.code ({ cls := "com/example/enact/enact/compiler/XPathTextNestingPinLaw", name := "put8", desc := "([CCCCCCCCC)V" } : Jvm.MethodName) method_6_code (9 : Nat) (Option.none : Option Jvm.ClassFile.FieldType)).before a0 Z = true := hw _ (List.mem_of_getElem? (i := 11) rfl)
theorem wd_10 {a0 : Array Value} {Z : State} (hw : ∀ d ∈ tables_1, d.before a0 Z = true) : (Jvm.Cond.static ({ cls := "com/example/enact/enact/compiler/XPathTextNestingPinLaw", name := "put8", desc := "([CCCCCCCCC)V" } : Jvm.MethodName)).before a0 Z = true := hw _ (List.mem_of_getElem? (i := 10) rfl)
theorem pd_14 : parseMethodDescriptor "([CCCCCCCCC)V" = some ⟨[(.array .char), .char, .char, .char, .char, .char, .char, .char, .char], none⟩ := by decide +kernel
theorem wd_30 {a0 : Array Value} {Z : State} (hw : ∀ d ∈ tables_1, d.before a0 Z = true) : (Jvm.Cond.arrayClass Jvm.ClassFile.FieldType.byte).before a0 Z = true := hw _ (List.mem_of_getElem? (i := 30) rfl)
theorem wd_81 {a0 : Array Value} {Z : State} (hw : ∀ d ∈ tables_1, d.before a0 Z = true) : (Jvm.Cond.soleField "java/lang/String" "value").before a0 Z = true := hw _ (List.mem_of_getElem? (i := 81) rfl)
theorem wd_82 {a0 : Array Value} {Z : State} (hw : ∀ d ∈ tables_1, d.before a0 Z = true) : (Jvm.Cond.soleField "java/lang/String" "coder").before a0 Z = true := hw _ (List.mem_of_getElem? (i := 82) rfl)

/-- what is left by new String(chars): the String x spells cs -/
def Str (Z : State) (h : Heap) (x : Addr) (cs : List Int32) : Prop := Exa Z h x "java/lang/String" ∧ Fld Z h x "java/lang/String" "coder" "B" (.int 0) ∧ (∀ c ∈ cs, ¬ c < 0 ∧ ¬ (255 : Int32) < c) ∧ ∃ (t : Addr) (kb : ClassId), Fld Z h x "java/lang/String" "value" "[B" (.ref t) ∧ Arv Z h t kb .byte (Int32.ofNat cs.length) ((cs.map fun c => c.toInt8.toInt32).map Value.int) (.int 0)
section StrX
variable {Z : State} {a0 : Array Value} {h h' : Heap} {x w : Addr} {cs : List Int32}
theorem Str.exa (S : Str Z h x cs) : Exa Z h x "java/lang/String" := S.1
theorem Str.lt (S : Str Z h x cs) : x < h.size := S.1.lt
theorem Str.ext (S : Str Z h x cs) (E : Ext h h') : Str Z h' x cs := by
  obtain ⟨A, F, q, t, kb, V, K⟩ := S
  exact ⟨A.ext E, F.ext E, q, t, kb, V.ext E, K.ext E⟩
theorem Str.wr {sl : Nat} {v : Value} (S : Str Z h x cs) (W : Wr h h' w sl v) (o : Off Z h w) : Str Z h' x cs := by
  obtain ⟨A, F, q, t, kb, V, K⟩ := S
  exact ⟨A.wr W, F.other W (Or.inl (o.1 x A)), q, t, kb, V.other W (Or.inl (o.1 x A)), K.other W (o.2 _ _ _ _ _ K)⟩
theorem Str.keep {ws : List Addr} (S : Str Z h x cs) (W : Keep h h' ws) (o : ∀ w ∈ ws, Off Z h w) : Str Z h' x cs := by
  obtain ⟨A, F, q, t, kb, V, K⟩ := S
  have n1 : x ∉ ws := fun m => (o x m).1 x A rfl
  have n2 : t ∉ ws := fun m => (o t m).2 _ _ _ _ _ K rfl
  exact ⟨A.keep W, F.keep W n1, q, t, kb, V.keep W n1, K.keep W n2⟩
def StrOf (Z : State) (n0 : Nat) (h : Heap) (n : Nat) (h' : Heap) (x : Addr) (cs : List Int32) (v : Option Value) : Prop := v = none ∧ Keep h h' [x] ∧ Str Z h' x cs
theorem strOf_of {n0 n : Nat} {v : Option Value} {L : List Loc} (hn : cs.length = n) (hp : ∀ c ∈ cs, ¬ c < 0 ∧ ¬ (255 : Int32) < c) (q : StrChars.Road.QV Z x (Int32.ofNat n) (cs.map fun c => c.toInt8.toInt32) h n0 v h' L) : StrOf Z n0 h n h' x cs v ∧ Fr n0 L ∧ h.size ≤ h'.size := by
  obtain ⟨q1, q2, q3, q4, q5, t, kb, -, -, -, q6, q7⟩ := q
  subst hn
  exact ⟨⟨q1, q3, q4, q5, hp, t, kb, q6, q7⟩, q2, q3.1⟩
theorem and255c (x : Int32) : ¬ (x &&& 255) < 0 ∧ ¬ (255 : Int32) < (x &&& 255) := by
  have h : (x &&& 255).toBitVec.toNat ≤ 255 := by
    rw [Int32.toBitVec_and, BitVec.toNat_and]; exact Nat.and_le_right
  have e : (x &&& 255).toInt = (x &&& 255).toBitVec.toNat := by
    rw [← Int32.toInt_toBitVec, BitVec.toInt_eq_toNat_of_lt (by omega)]
  constructor
  · rw [Int32.lt_iff_toInt_lt, e]; have : (0 : Int32).toInt = 0 := rfl; omega
  · rw [Int32.lt_iff_toInt_lt, e]; have : (255 : Int32).toInt = 255 := rfl; omega
theorem hwS (hw : ∀ d ∈ tables_1, d.before a0 Z = true) : ∀ d ∈ StrChars.Road.words, d.before a0 Z = true := fun d hd => hw d ((by decide +kernel : ∀ d ∈ StrChars.Road.words, d ∈ tables_1) d hd)
end StrX

theorem up16 {cs : List Int32} (h : ∀ c ∈ cs, ¬ c < 0 ∧ ¬ (255 : Int32) < c) : ∀ c ∈ cs, ¬ c < 0 ∧ ¬ (65535 : Int32) < c := fun c hc => ⟨(h c hc).1, fun q => (h c hc).2 (by rw [Int32.lt_iff_toInt_lt] at q ⊢; have e1 : (65535 : Int32).toInt = 65535 := rfl; have e2 : (255 : Int32).toInt = 255 := rfl; omega)⟩
theorem codS {cs : List Int32} (h : ∀ c ∈ cs, ¬ c < 0 ∧ ¬ (255 : Int32) < c) : StrChars.Road.CodA cs 0 (Int32.ofNat cs.length) ((cs.map fun c => c.toInt8.toInt32).map Value.int) := StrChars.Road.codOf rfl fun c hc => (h c hc).2

theorem hwLen {Z : State} {a0 : Array Value} (hw : ∀ d ∈ tables_1, d.before a0 Z = true) : ∀ d ∈ StrChars.Road.wordsLen, d.before a0 Z = true := fun d hd => hw d ((by decide +kernel : ∀ d ∈ StrChars.Road.wordsLen, d ∈ tables_1) d hd)
theorem backLen {C : Cx} {Z : State} {a0 : Array Value} {b : ByteArray} {ml : Nat} {ret : Option FieldType} {nm own : String} {rm : Room} {n0 W : Nat} {h : Heap} {x : Addr} {cs : List Int32} {zc : Int32} (o : Ok C Z a0 b ml ret nm own rm) (wi : (Jvm.Cond.instantiable "java/lang/String" 4).before a0 Z = true) (Sc : Sta Z Z.heap "java/lang/String" "COMPACT_STRINGS" "Z" (.int zc)) (nzc : ¬ zc = 0) (X : Old Z n0 h) (S1 : Str Z h x cs) (l1 : cs.length ≤ 4000) (hf : 2 ≤ rm.frames) (hl : W + 25 ≤ rm.locals) :
    ∀ vm0, Z.Warmed39 vm0 → BackQ C vm0 (⟨"java/lang/String", "length", "()I"⟩ : MethodName) W #[.ref x] h 0 0 (fun v h' L => (v = some (.int (Int32.ofNat cs.length)) ∧ h' = h) ∧ Fr n0 L ∧ h.size ≤ h'.size) := fun vm0 hZ => by
  obtain ⟨A, F, q, t, kb, V, K⟩ := S1
  refine Back.mono (StrChars.Road.lenW (W := W) (s := C.s.setVm vm0) hZ (hwLen o.hw) wi A V F K (codS q) (up16 q) (Sc.ext X.2) nzc l1 (o.rf hf) (o.rl hl)) (fun P a hp => hp) (fun P a v B hp hq => ?_)
  obtain ⟨L, ⟨r1, r2, r3⟩, r4⟩ := hq
  exact ⟨L, ⟨⟨r1, r3⟩, by rw [r2]; exact Fr.nil _, by rw [r3]; exact Nat.le_refl _⟩, r4⟩

theorem hwChN {Z : State} {a0 : Array Value} (hw : ∀ d ∈ tables_1, d.before a0 Z = true) : ∀ d ∈ StrChars.Road.wordsChN, d.before a0 Z = true := fun d hd => hw d ((by decide +kernel : ∀ d ∈ StrChars.Road.wordsChN, d ∈ tables_1) d hd)
theorem backCh {C : Cx} {Z : State} {a0 : Array Value} {b : ByteArray} {ml : Nat} {ret : Option FieldType} {nm own : String} {rm : Room} {n0 W : Nat} {h : Heap} {x : Addr} {cs : List Int32} {zc : Int32} {fm : Value} {i : Nat} {j : Int32} (o : Ok C Z a0 b ml ret nm own rm) (wi : (Jvm.Cond.instantiable "java/lang/String" 4).before a0 Z = true) (Sc : Sta Z Z.heap "java/lang/String" "COMPACT_STRINGS" "Z" (.int zc)) (nzc : ¬ zc = 0) (Sf : Sta Z Z.heap "jdk/internal/util/Preconditions" "SIOOBE_FORMATTER" "Ljava/util/function/BiFunction;" fm) (rf : fm.isRef = true) (X : Old Z n0 h) (S1 : Str Z h x cs) (l1 : cs.length ≤ 4000) (hi : i < cs.length) (hj : j = Int32.ofNat i) (hf : 4 ≤ rm.frames) (hl : W + 53 ≤ rm.locals) :
    ∀ vm0, Z.Warmed39 vm0 → BackQ C vm0 (⟨"java/lang/String", "charAt", "(I)C"⟩ : MethodName) W #[.ref x, .int j] h 0 0 (fun v h' L => (v = some (.int (cs.getD i 0)) ∧ h' = h) ∧ Fr n0 L ∧ h.size ≤ h'.size) := fun vm0 hZ => by
  obtain ⟨A, F, q, t, kb, V, K⟩ := S1
  refine Back.mono (StrChars.Road.chN (W := W) (s := C.s.setVm vm0) hZ (hwChN o.hw) wi A V F K (codS q) (up16 q) (Sc.ext X.2) nzc (Sf.ext X.2) rf l1 hi hj (o.rf hf) (o.rl hl)) (fun P a hp => hp) (fun P a v B hp hq => ?_)
  obtain ⟨L, ⟨r1, r2, r3⟩, r4⟩ := hq
  exact ⟨L, ⟨⟨r1, r3⟩, by rw [r2]; exact Fr.nil _, by rw [r3]; exact Nat.le_refl _⟩, r4⟩
/-! own text: constants (ldc of a String) and callees that load them -/
section Wide
variable {C : Cx} {Z : State} {a0 : Array Value} {b : ByteArray} {ml : Nat} {ret : Option FieldType} {nm own : String} {rm : Room} {n0 : Nat} {Q : Option Value → Heap → Prop} {M : List Addr} {h : Heap} {k n pc : Nat} {L : Array Slot} {S : List Value}
abbrev BackQS (C : Cx) (Z : State) (vm0 : Vm) (y : MethodName) (W : Nat) (as : Array Value) (h : Heap) (rc rs : Nat) (P : Option Value → Heap → List Loc → Prop) : Prop :=
  BackS C.l C.R C.p C.e C.below (C.s.setVm vm0) C.args y 3 W (fun A a => a = as ∧ A.U.heap = h ∧ A.cells + (rc + 2 * rho Z C.PL vm0) ≤ C.R.cells ∧ A.slots + (rs + C.cs * rho Z C.PL vm0) ≤ C.R.slots) (fun A _ v B => ∃ L, P v B.U.heap L ∧ B.locs = A.locs ++ L ∧ B.cells + 2 * rho Z C.PL B.U.vm ≤ A.cells + rc + 2 * rho Z C.PL vm0 ∧ B.slots + C.cs * rho Z C.PL B.U.vm ≤ A.slots + rs + C.cs * rho Z C.PL vm0 ∧ CHr Z C.EL vm0 h B.U.vm B.U.heap)
theorem Ok.wc (o : Ok C Z a0 b ml ret nm own rm) {vm0 : Vm} {k' n' rc : Nat} (B : Bal C Z vm0 k' n' k n) (hc : k + rc ≤ rm.cells) : k' + (rc + 2 * rho Z C.PL vm0) ≤ C.R.cells := by
  rw [o.bigR]; show _ ≤ rm.cells + 2 * C.r
  have := o.rr; have := B.1; omega
theorem Ok.ws (o : Ok C Z a0 b ml ret nm own rm) {vm0 : Vm} {k' n' rs : Nat} (B : Bal C Z vm0 k' n' k n) (hc : n + rs ≤ rm.slots) : n' + (rs + C.cs * rho Z C.PL vm0) ≤ C.R.slots := by
  rw [o.bigR]; show _ ≤ rm.slots + C.cs * C.r
  have := Nat.mul_le_mul_left C.cs o.rr; have := B.2; omega
theorem g_staticW (o : Ok C Z a0 b ml ret nm own rm) (hwd : C.wide = true) {ix mL kc ks W : Nat} {y : MethodName} {by' : ByteArray} {rt : Option FieldType} {P : Option Value → Heap → List Loc → Prop} {Q' : Option Value → Heap → Prop} {ps : List FieldType} {r : Option FieldType} (as rest : List Value) (d : decode b pc = .ok (.invokestatic ix, 3))
    (w1 : (Jvm.Cond.methodLink own ix y).before a0 Z = true) (w2 : (Jvm.Cond.static y).before a0 Z = true) (w3 : (Jvm.Cond.initialized y.cls).before a0 Z = true) (w4 : (Jvm.Cond.code y by' mL rt).before a0 Z = true) (hy : y.cls ≠ "java/lang/invoke/MethodHandle" ∧ y.cls ≠ "java/lang/invoke/VarHandle")
    (By : ∀ vm0, Z.Warmed39 vm0 → CHv Z C.EL vm0 h → BackQS C Z vm0 y W as.toArray h kc ks P) (hP : ∀ v h' L, P v h' L → Q' v h' ∧ Fr n0 L ∧ h.size ≤ h'.size) (hpd : parseMethodDescriptor y.desc = some ⟨ps, r⟩) (hlen : as.length = ps.length) (hS : S = as.reverse ++ rest) (hW : wt rest = W) (hL : L.size = ml) (hc : k + kc ≤ rm.cells) (hl : n + ks ≤ rm.slots)
    (K : ∀ v h', Q' v h' → Go C Z n0 Q M h' (k + kc) (n + ks) (pc + 3) L (v.toList ++ rest)) : Go C Z n0 Q M h k n pc L S := by
  subst hS
  refine Go.viaW hwd (dk := kc) (dn := ks) (ι := Option Value) (P := Q') (S' := fun v => v.toList ++ rest) K fun T vm0 locs k0 k' n' X B hZ hf eT N hSi hk H hM => ?_
  obtain ⟨v, vm₁, ⟨T', L', kk, nn⟩, -, X', hS2, hg, ⟨Lc, hQ, l1, l2, l3, hC⟩, st⟩ := callSS X o.1 (y := y) (own := own) (by rw [← o.hown]; exact hf) (mvT (s := C.s.setVm vm0) hZ w1) (mvT (s := C.s.setVm vm0) hZ w2) (mvT (s := C.s.setVm vm0) hZ w3) (mvT (s := C.s.setVm vm0) hZ w4) hy (By vm0 hZ H) (g := mkF C.m pc L (as.reverse ++ rest)) rfl (hL.trans o.2.2.1.symm) (argsL := as) (rest := rest) (lenOf hpd hlen) rfl (by show 2 * 0 + wt rest ≤ _; omega) (hb o.2.1 d) (fun _ _ => ⟨rfl, eT, o.wc B hc, o.ws B hl⟩)
  dsimp only [Pt.U, Pt.locs, Pt.cells, Pt.slots] at X' hQ l1 l2 l3 st hS2 hg hC
  subst l1
  obtain ⟨q1, q2, q3⟩ := hP _ _ _ hQ
  obtain ⟨X2, hS3, hZ2, hf2⟩ := rebS (own := C.own) hSi hk X' hS2 (by rw [← eT]; exact hg) hZ hf
  exact ⟨v, T', T'.vm, _, _, _, _, _, q1, X2, ⟨by have := B.1; omega, by have := B.2; omega⟩, rfl, N.app q2, hS3, Nat.le_refl _, hZ2, hf2, hC, fun target z => st.trans z⟩
theorem g_specialW (o : Ok C Z a0 b ml ret nm own rm) (hwd : C.wide = true) {ix mL kc ks W : Nat} {y : MethodName} {by' : ByteArray} {P : Option Value → Heap → List Loc → Prop} {Q' : Option Value → Heap → Prop} {ps : List FieldType} {r : Option FieldType} (a : Addr) (as rest : List Value) (d : decode b pc = .ok (.invokespecial ix, 3)) (hy1 : y.name = "<init>")
    (w1 : (Jvm.Cond.methodLink own ix y).before a0 Z = true) (w2 : (Jvm.Cond.instanceMethod y).before a0 Z = true) (w4 : (Jvm.Cond.code y by' mL none).before a0 Z = true) (hy : y.cls ≠ "java/lang/invoke/MethodHandle" ∧ y.cls ≠ "java/lang/invoke/VarHandle")
    (By : ∀ vm0, Z.Warmed39 vm0 → CHv Z C.EL vm0 h → BackQS C Z vm0 y W (.ref a :: as).toArray h kc ks P) (hP : ∀ v h' L, P v h' L → Q' v h' ∧ Fr n0 L ∧ h.size ≤ h'.size) (hpd : parseMethodDescriptor y.desc = some ⟨ps, r⟩) (hlen : as.length = ps.length) (hS : S = as.reverse ++ .ref a :: rest) (hW : wt rest = W) (hL : L.size = ml) (hc : k + kc ≤ rm.cells) (hl : n + ks ≤ rm.slots)
    (K : ∀ v h', Q' v h' → Go C Z n0 Q M h' (k + kc) (n + ks) (pc + 3) L (v.toList ++ rest)) : Go C Z n0 Q M h k n pc L S := by
  subst hS
  refine Go.viaW hwd (dk := kc) (dn := ks) (ι := Option Value) (P := Q') (S' := fun v => v.toList ++ rest) K fun T vm0 locs k0 k' n' X B hZ hf eT N hSi hk H hM => ?_
  obtain ⟨v, vm₁, ⟨T', L', kk, nn⟩, -, X', hS2, hg, ⟨Lc, hQ, l1, l2, l3, hC⟩, st⟩ := X.specialBackS o.1 (y := y) (own := own) hy1 (by rw [← o.hown]; exact hf) (mvT (s := C.s.setVm vm0) hZ w1) (mvT (s := C.s.setVm vm0) hZ w2) (mvT (s := C.s.setVm vm0) hZ w4) hy (By vm0 hZ H) (g := mkF C.m pc L (as.reverse ++ .ref a :: rest)) rfl (hL.trans o.2.2.1.symm) (Steps.refl _) (a := a) (argsL := as) (rest := rest) (lenOf hpd hlen) rfl (by show 2 * 0 + wt rest ≤ _; omega) (hb o.2.1 d) (fun _ _ => ⟨rfl, eT, o.wc B hc, o.ws B hl⟩)
  dsimp only [Pt.U, Pt.locs, Pt.cells, Pt.slots] at X' hQ l1 l2 l3 st hS2 hg hC
  subst l1
  obtain ⟨q1, q2, q3⟩ := hP _ _ _ hQ
  obtain ⟨X2, hS3, hZ2, hf2⟩ := rebS (own := C.own) hSi hk X' hS2 (by rw [← eT]; exact hg) hZ hf
  exact ⟨v, T', T'.vm, _, _, _, _, _, q1, X2, ⟨by have := B.1; omega, by have := B.2; omega⟩, rfl, N.app q2, hS3, Nat.le_refl _, hZ2, hf2, hC, fun target z => st.trans z⟩
theorem g_virtualW (o : Ok C Z a0 b ml ret nm own rm) (hwd : C.wide = true) {ix kc ks W : Nat} {Cn : String} {y z : MethodName} {P : Option Value → Heap → List Loc → Prop} {Q' : Option Value → Heap → Prop} {ps : List FieldType} {r : Option FieldType} (a : Addr) (as rest : List Value) (d : decode b pc = .ok (.invokevirtual ix, 3))
    (w1 : (Jvm.Cond.methodLink own ix y).before a0 Z = true) (w2 : (Jvm.Cond.declares y).before a0 Z = true) (w3 : (Jvm.Cond.selects Cn y z).before a0 Z = true) (w4 : (Jvm.Cond.instanceMethod z).before a0 Z = true) (nf : ∀ s : State, (Jvm.Cond.selects Cn y z).before C.args s = true → NotFace s y) (hy : y.cls ≠ "java/lang/invoke/MethodHandle" ∧ y.cls ≠ "java/lang/invoke/VarHandle") (E : Exa Z h a Cn)
    (By : ∀ vm0, Z.Warmed39 vm0 → CHv Z C.EL vm0 h → BackQS C Z vm0 z W (.ref a :: as).toArray h kc ks P) (hP : ∀ v h' L, P v h' L → Q' v h' ∧ Fr n0 L ∧ h.size ≤ h'.size) (hpd : parseMethodDescriptor y.desc = some ⟨ps, r⟩) (hlen : as.length = ps.length) (hS : S = as.reverse ++ .ref a :: rest) (hW : wt rest = W) (hL : L.size = ml) (hc : k + kc ≤ rm.cells) (hl : n + ks ≤ rm.slots)
    (K : ∀ v h', Q' v h' → Go C Z n0 Q M h' (k + kc) (n + ks) (pc + 3) L (v.toList ++ rest)) : Go C Z n0 Q M h k n pc L S := by
  subst hS
  refine Go.viaW hwd (dk := kc) (dn := ks) (ι := Option Value) (P := Q') (S' := fun v => v.toList ++ rest) K fun T vm0 locs k0 k' n' X B hZ hf eT N hSi hk H hM => ?_
  obtain ⟨cq, kq, qa, qb, qc⟩ := isOf (s := C.s.setVm vm0) (T := T) hZ eT E
  have hsel := mvT (s := C.s.setVm vm0) (args := C.args) hZ w3
  obtain ⟨v, vm₁, ⟨T', L', kk, nn⟩, -, X', hS2, hg, ⟨Lc, hQ, l1, l2, l3, hC⟩, st⟩ := X.virtualBackS o.1 (y := y) (z := z) (own := own) (by rw [← o.hown]; exact hf) (mvT (s := C.s.setVm vm0) hZ w1) (mvT (s := C.s.setVm vm0) hZ w2) (nf _ hsel) hsel (mvT (s := C.s.setVm vm0) hZ w4) hy (By vm0 hZ H) qa qc (g := mkF C.m pc L (as.reverse ++ .ref a :: rest)) rfl (hL.trans o.2.2.1.symm) (Steps.refl _) (argsL := as) (rest := rest) (lenOf hpd hlen) rfl (by show 2 * 0 + wt rest ≤ _; omega) (hb o.2.1 d) (fun _ _ => ⟨rfl, eT, o.wc B hc, o.ws B hl⟩)
  dsimp only [Pt.U, Pt.locs, Pt.cells, Pt.slots] at X' hQ l1 l2 l3 st hS2 hg hC
  subst l1
  obtain ⟨q1, q2, q3⟩ := hP _ _ _ hQ
  obtain ⟨X2, hS3, hZ2, hf2⟩ := rebS (own := C.own) hSi hk X' hS2 (by rw [← eT]; exact hg) hZ hf
  exact ⟨v, T', T'.vm, _, _, _, _, _, q1, X2, ⟨by have := B.1; omega, by have := B.2; omega⟩, rfl, N.app q2, hS3, Nat.le_refl _, hZ2, hf2, hC, fun target z => st.trans z⟩
theorem MetW.back {y : MethodName} {as : Array Value} {mL : Nat} {by' : ByteArray} {rt : Option FieldType} {rm' : Room} {Q' : Option Value → Heap → Prop} {W : Nat} {EL PL : List (String × Nat)} {cs : Nat} (hE : C.EL = EL) (hPL : C.PL = PL) (hcs : C.cs = cs) (o : Ok C Z a0 b ml ret nm own rm) (Mt : ∀ r, MetW C.l Z n0 EL PL cs r y by' mL rt rm' as h Q') (w4 : (Jvm.Cond.code y by' mL rt).before a0 Z = true) (w3 : (Jvm.Cond.initialized y.cls).before a0 Z = true) (hf : rm'.frames + 1 ≤ rm.frames) (hl : W + (mL + 11) + rm'.locals ≤ rm.locals) :
    ∀ vm0, Z.Warmed39 vm0 → CHv Z C.EL vm0 h → BackQS C Z vm0 y W as h rm'.cells rm'.slots (fun v h' L => Q' v h' ∧ Fr n0 L ∧ h.size ≤ h'.size) := fun vm0 hZ H => by
  subst hE hPL hcs
  refine BackS.of_freeW (bytes := by') (maxL := mL) (ret := rt) (E := fun _ U o U' L k n => (∃ v, o = .returned v ∧ Q' v U'.heap ∧ Fr n0 L ∧ h.size ≤ U'.heap.size) ∧ CHr Z C.EL U.vm U.heap U'.vm U'.heap ∧ k + 2 * rho Z C.PL U'.vm ≤ rm'.cells + 2 * rho Z C.PL U.vm ∧ n + C.cs * rho Z C.PL U'.vm ≤ rm'.slots + C.cs * rho Z C.PL U.vm) (Mt (rho Z C.PL vm0)) (o.rf hf) (o.rl hl) ?_ ?_ (fun _ _ _ _ _ _ _ _ _ => trivial) ?_ ?_
  · intro m meth c A a Y hp
    have hU : Z.Warmed39 A.U.vm := wtrans (s := C.s.setVm vm0) hZ Y.warmed
    exact ⟨by show (Cond.and _ .tt).before a A.U = true; rw [Cond.before_and, mv hU w4]; rfl, mv hU w4, mv hU w3, hp.2.2.1, hp.2.2.2⟩
  · intro m meth c A a g mk Y hp
    have hwz : (Z.setVm vm0).Warmed39 A.U.vm := (Y.warmed.wide :)
    exact ⟨hp.1, wtrans (s := C.s.setVm vm0) hZ Y.warmed, hp.2.1, (CHv.at Y hZ o.ew H).1, rho_mono hwz⟩
  · rintro a U oc t ⟨v, L, k, n, h1, h2, h3, h4, h5, h6⟩
    exact ⟨L, k, n, h4, ⟨v, h1, h2⟩, h3, h5, h6⟩
  · rintro m meth c A a g mk v t L k n Y hp - - ⟨⟨v', e3, e4⟩, e5, e6, e7⟩
    cases e3
    have hwz : (Z.setVm vm0).Warmed39 A.U.vm := (Y.warmed.wide :)
    have q := rho_mono (Z := Z) (PL := C.PL) hwz
    have q2 := Nat.mul_le_mul_left C.cs q
    have e6 : k + 2 * rho Z C.PL t.vm ≤ rm'.cells + 2 * rho Z C.PL A.U.vm := e6
    have e7 : n + C.cs * rho Z C.PL t.vm ≤ rm'.slots + C.cs * rho Z C.PL A.U.vm := e7
    refine ⟨L, e4, rfl, ?_, ?_, (CHv.at Y hZ o.ew H).trans ?_⟩
    · show A.cells + k + 2 * rho Z C.PL t.vm ≤ _; omega
    · show A.slots + n + C.cs * rho Z C.PL t.vm ≤ _; omega
    · rw [← hp.2.1]; exact e5
end Wide
/-! own text: constants of PL, paid once -/
section Paid
variable {C : Cx} {Z : State} {a0 : Array Value} {b : ByteArray} {ml : Nat} {ret : Option FieldType} {nm own : String} {rm : Room} {n0 : Nat} {Q : Option Value → Heap → Prop} {M : List Addr} {h : Heap} {k n pc : Nat} {L : Array Slot} {S : List Value}
theorem str_of {vm : Vm} {q : Jvm.Free.SB.SQ} {u : Array UInt16} {cs : List Int32} (hal : Z.vm.Alike vm) (F : SlB (Wst Z vm h) q u) (hlat : u.all (· < 256) = true) (hcs : u.toList.map (fun c => Value.int (Jvm.Lit.byteI c)) = (cs.map fun c => c.toInt8.toInt32).map Value.int)
    (hp : ∀ c ∈ cs, ¬ c < 0 ∧ ¬ (255 : Int32) < c) (hz : ¬ (Int32.ofNat cs.length) < 0) (hzl : (Int32.ofNat cs.length).toNatClampNeg = cs.length) : Str Z h q.sa cs := by
  obtain ⟨cS, ⟨St, hfS, hcS⟩, ⟨kS, k1, k2, k3⟩, hB, hby⟩ := F
  obtain ⟨s1, s2, s3, ⟨cv, kv, iv, s4, s4'⟩, ⟨cc, kc, ic, s5, s5'⟩, s6, s7, s8, s9, s10, ⟨hst, kA, hkA, comp, hkd⟩, s12, s13, s14, s15, s16⟩ := St
  have hcl : Z.vm.findClass "java/lang/String" = some q.sC.cls := by rw [← hal.findClass, hcS]; exact hfS
  have hclB : Z.vm.findClass "[B" = some q.SA.cls := by rw [← hal.findClass]; exact hB
  have exa : Exa Z h q.sa "java/lang/String" := by
    obtain ⟨kz, hkz, -⟩ := Vm.findClass_spec hcl
    obtain ⟨kz', g1, g2⟩ := hal.2.2 _ _ hkz
    have k1 : vm.classes[cS]? = some kS := k1
    rw [hcS] at g1
    cases g1.symm.trans k1
    exact ⟨q.sC, kz, s1, hcl, hkz, s3, fun _ => by rw [k3, g2]⟩
  have fld : ∀ {f d : String} {c i : Nat} {kx : Class} {fd : Field} {v : Value}, (Wst Z vm h).fieldFound? "java/lang/String" f d = some (c, kx, i, fd) → (Wst Z vm h).vm.assignable q.sC.cls c = true → fd.isStatic = false → q.sC.slots[fd.slot]? = some v → Fld Z h q.sa "java/lang/String" f d v := fun h1 h2 h3 h4 => by
    obtain ⟨kx', h5⟩ := ff_back (U := Wst Z vm h) hal h1
    exact ⟨q.sC, _, kx', _, _, s1, h5, h3, s2, s3, by rw [← hal.assignable]; exact h2, h4⟩
  have hsl : q.SA.slots = u.map fun c => Value.int (Jvm.Lit.byteI c) := by rw [hby, Jvm.Free.SBG.stringBytes_lat hlat]; rfl
  have hlist : q.SA.slots.toList = (cs.map fun c => c.toInt8.toInt32).map Value.int := by rw [hsl, Array.toList_map, hcs]
  have hlen : q.SA.slots.size = cs.length := by rw [← Array.length_toList, hlist, List.length_map, List.length_map]
  have has : Has q.SA ((cs.map fun c => c.toInt8.toInt32).map Value.int) (.int 0) := fun j hj => by
    rw [← hlist, ← Array.getElem?_toList, List.getD_eq_getElem?_getD, List.getElem?_eq_getElem (by rw [Array.length_toList]; exact hj)]; rfl
  have arr : Z.isArrayOf q.SA .byte := by
    obtain ⟨kb, hkb, -⟩ := Vm.findClass_spec hclB
    obtain ⟨kb', g1, g2⟩ := hal.2.2 _ _ hkb
    have hkA : vm.classes[q.SA.cls]? = some kA := hkA
    cases g1.symm.trans hkA
    exact ⟨hst, kb, hkb, comp, by rw [g2] at hkd; exact hkd⟩
  refine ⟨exa, fld s5 s5' s7 s9, hp, q.sd, q.SA.cls, fld s4 s4' s6 s8, q.SA, ⟨s10, arr, s12⟩, rfl, by rw [hlen, hzl], hz, has, fun j hj => ?_⟩
  rw [List.getD_eq_getElem?_getD, List.getElem?_map, List.getElem?_map]
  rw [hlen] at hj
  rw [List.getElem?_eq_getElem hj]
  show fits .byte (.int _) = true
  exact fits_byte_narrow _
theorem rho_pos {PL : List (String × Nat)} {vm : Vm} {p : String × Nat} (hp : p ∈ PL) (h0 : (Z.setVm vm).resolvedAt? p.1 p.2 = none) : 1 ≤ rho Z PL vm :=
  List.length_pos_of_mem (List.mem_filter.mpr ⟨hp, by rw [h0]; rfl⟩)
theorem g_ldcP (o : Ok C Z a0 b ml ret nm own rm) (hwd : C.wide = true) {ix : Nat} {text : String} {cs : List Int32} (d : decode b pc = .ok (.ldc ix, 2)) (w : (Jvm.Cond.stringLink own ix text).before a0 Z = true) (wS : ∀ a ∈ Bundle.stringAtoms, a.before a0 Z = true) (hmem : (own, ix) ∈ C.EL) (hpl : (own, ix) ∈ C.PL) (hlat : ∀ c ∈ text.toList, c.toNat < 256) (hcs : text.toList.map (fun c => Value.int (Jvm.Lit.byteI c.toNat.toUInt16)) = (cs.map fun c => c.toInt8.toInt32).map Value.int)
    (hp : ∀ c ∈ cs, ¬ c < 0 ∧ ¬ (255 : Int32) < c) (hz : ¬ (Int32.ofNat cs.length) < 0) (hzl : (Int32.ofNat cs.length).toNatClampNeg = cs.length) {m : Nat} (hm : 4 * text.toList.length ≤ m) (hbig : m ≤ 536870912) (hmc : m + 4 = C.cs) (hk : k ≤ rm.cells) (hn : n ≤ rm.slots)
    (K : ∀ a h', Ext h h' → Str Z h' a cs → Go C Z n0 Q M h' k n (pc + 2) L (.ref a :: S)) : Go C Z n0 Q M h k n pc L S := by
  refine Go.viaW hwd (dk := 0) (dn := 0) (ι := Addr) (P := fun a h' => Ext h h' ∧ Str Z h' a cs) (S' := fun a => .ref a :: S) (fun a h' q => K a h' q.1 q.2) fun T vm0 locs k0 k' n' X B hZ hf eT N hS hk0 H hM => ?_
  have hf' : vm0.findClass own = some C.m.cls := by rw [← o.hown]; exact hf
  cases hr : (Z.setVm vm0).resolvedAt? own ix with
  | none =>
    have hpos := rho_pos hpl hr
    have hr1 := o.wc (rc := 0) B hk
    have hr2 := o.ws (rs := 0) B hn
    have hmul := Nat.mul_le_mul_left C.cs hpos
    obtain ⟨a, T', h', k1, t, kb, X', e', E, hS', hk', hW, hf2, f1, f2, f3, f4, -, -, hC, hL, -, st⟩ := ldcCH (s := C.s.setVm vm0) X o.1 hZ (own := own) hf' w wS eT (k0 := h.size) ⟨State.Warmed39.refl _, fun j p hj hp => absurd (Array.getElem?_eq_some_iff.mp hp).1 (Nat.not_lt.mpr hj)⟩ (Nat.le_refl _) o.ew hmem H ⟨hlat, hcs⟩ hz (by rw [hzl]; simp) (g := mkF C.m pc L S) rfl (hb o.2.1 d) hm hbig (by omega) (by omega)
    have hwz : (Z.setVm vm0).Warmed39 T'.vm := hS'.1
    have h1 : (Z.setVm T'.vm).resolvedAt? own ix = some (.string a) := hL
    have q1 := rho_step hwz hpl hr h1
    have q2 := Nat.mul_le_mul_left C.cs q1
    refine ⟨a, T', T'.vm, locs, h', _, _, _, ⟨E, f1, f2, hp, t, kb, f3, f4⟩, X', ⟨?_, ?_⟩, e', N, hS.trans ⟨hS'.1, hS'.2.mono hk'⟩ (Nat.le_trans hk0 E.1), Nat.le_refl _, hW, by rw [o.hown]; exact hf2, hC, st⟩
    · have := B.1; omega
    · have := B.2; rw [Nat.mul_add] at q2; omega
  | some r =>
    have w2 : (Jvm.Cond.stringLink own ix text).before a0 (Wst Z vm0 h) = true := mvS (s := { Z with heap := h }) hZ w
    obtain ⟨kc, cf, i, units, hkx, hcf, hpo, hu, -, htext, hres⟩ := Cond.stringLink_spec (s := Wst Z vm0 h) hf' w2
    have hra : kc.resolved[ix]? = some (some r) := by
      have hk' : vm0.classes[C.m.cls]? = some kc := hkx
      simp [State.resolvedAt?, hf', hk'] at hr
      cases hq : kc.resolved[ix]? with
      | none => rw [hq] at hr; cases hr
      | some o => rw [hq] at hr; cases o with
        | none => cases hr
        | some r => simpa using hr
    obtain ⟨a, rfl⟩ : ∃ a, r = .string a := by
      rcases hres with h0 | ⟨a, h0⟩
      · rw [h0] at hra; cases hra
      · rw [h0] at hra; cases hra; exact ⟨a, rfl⟩
    have hB0 : Booksv vm0 own ix units a := ⟨C.m.cls, kc, cf, i, hf', hkx, hcf, hpo, hu, Or.inl hra⟩
    obtain ⟨q, rfl, F⟩ := SlB.of (H _ hmem units a hB0)
    have hu2 : units.toList.map (fun c => Value.int (Jvm.Lit.byteI c)) = (cs.map fun c => c.toInt8.toInt32).map Value.int := by rw [← hcs, Jvm.ClassFile.units_of_text htext hlat, List.map_map]; rfl
    have Sa := str_of (cs := cs) hZ.alike F (Jvm.ClassFile.lat_of_text htext hlat) hu2 hp hz hzl
    exact ⟨q.sa, T, vm0, locs, h, k0, k', n', ⟨⟨Nat.le_refl _, fun _ _ q => q⟩, Sa⟩, X, B, eT, N, hS, hk0, hZ, hf, CHr.refl H, ldcAgain X o.1 hZ hf' w (show Lit (C.s.setVm vm0) own ix q.sa from hr) (g := mkF C.m pc L S) rfl (hb o.2.1 d)⟩
theorem safe_blank {vm : Vm} {EL : List (String × Nat)} {x : Addr} (hal : Z.vm.Alike vm) (E : Exa Z h x "java/lang/String") (F : Fld Z h x "java/lang/String" "value" "[B" .null) : Safe Z EL vm h x := fun B => by
  obtain ⟨p, hp, u, a, hb, q, hqa, ⟨cS, ⟨⟨s1, s2, s3, ⟨cv, kv, iv, s4, s4'⟩, ⟨cc, kc, ic, s5, s5'⟩, s6, s7, s8, s9, s10, s11, s12, s13, s14, s15, s16⟩, hfS, hcS⟩, ⟨kS, k1, k2, k3⟩, hB, hbyt⟩, hx⟩ := B
  obtain ⟨cell, cf, k, i, f, h1, h2, h3, h4, h5, h6, h7⟩ := F
  rcases hx with rfl | rfl
  · obtain ⟨kv', z4⟩ := ff_back (U := Wst Z vm h) hal s4
    cases h2.symm.trans z4
    have s1 : h[q.sa]? = some q.sC := s1
    cases h1.symm.trans s1
    cases h7.symm.trans s8
  · obtain ⟨c1, kE, e1, e2, e3, -⟩ := E
    have s10 : h[q.sd]? = some q.SA := s10
    cases e1.symm.trans s10
    have hBZ : Z.vm.findClass "[B" = some q.SA.cls := by rw [← hal.findClass]; exact hB
    obtain ⟨k5, g1, g2⟩ := Vm.findClass_spec e2
    obtain ⟨k6, g3, g4⟩ := Vm.findClass_spec hBZ
    cases g1.symm.trans g3
    exact absurd (g2.symm.trans g4) (by decide)
end Paid
theorem wS_ {Z : State} {a0 : Array Value} (hw : ∀ d ∈ tables_1, d.before a0 Z = true) : ∀ a ∈ Bundle.stringAtoms, a.before a0 Z = true := fun d hd => by
  simp only [Bundle.stringAtoms, List.mem_cons, List.not_mem_nil, or_false] at hd
  rcases hd with rfl | rfl | rfl | rfl | rfl | rfl | rfl
  · exact (wd_14 hw)
  · exact (wd_13 hw)
  · exact (wd_30 hw)
  · exact (wd_40 hw)
  · exact (wd_38 hw)
  · exact (wd_81 hw)
  · exact (wd_82 hw)
theorem ew_ {Z : State} {a0 : Array Value} (hw : ∀ d ∈ tables_1, d.before a0 Z = true) : EW Z a0 consts_1 := (EW.cons (text := "([{") (wd_93 hw) (by decide +kernel) (EW.cons (text := ")]}") (wd_125 hw) (by decide +kernel) (EW.cons (text := "(:") (wd_80 hw) (by decide +kernel) (EW.cons (text := ":)") (wd_124 hw) (by decide +kernel) EW.nil))))
/-! own text: small numbers as ints -/
theorem n_int {i : Nat} (hi : i < 100000) : (Int32.ofNat i).toInt = i := by
  rw [Int32.toInt_ofNat']; have e : Int32.size = 4294967296 := rfl
  apply Int.bmod_eq_of_le <;> rw [e] <;> omega
theorem n_lt {i j : Nat} (hi : i < 100000) (hj : j < 100000) : Int32.ofNat i < Int32.ofNat j ↔ i < j := by
  rw [Int32.lt_iff_toInt_lt, n_int hi, n_int hj]; omega
theorem n_nn {i : Nat} (hi : i < 100000) : ¬ Int32.ofNat i < 0 := fun q => by
  have q : Int32.ofNat i < Int32.ofNat 0 := q
  rw [n_lt hi (by decide)] at q; omega
theorem n_clamp {i : Nat} (hi : i < 100000) : (Int32.ofNat i).toNatClampNeg = i := by
  show (Int32.ofNat i).toInt.toNat = i
  rw [n_int hi]; rfl
theorem n_add (i j : Nat) : Int32.ofNat i + Int32.ofNat j = Int32.ofNat (i + j) := (Int32.ofNat_add i j).symm
theorem n_eq {i j : Nat} (hi : i < 100000) (hj : j < 100000) : Int32.ofNat i = Int32.ofNat j ↔ i = j := ⟨fun q => by have q := congrArg Int32.toInt q; rw [n_int hi, n_int hj] at q; omega, fun q => by rw [q]⟩
theorem getD_int {cs : List Int32} {i : Nat} : (cs.map Value.int).getD i (.int 0) = .int (cs.getD i 0) := by
  rw [List.getD_eq_getElem?_getD, List.getElem?_map, List.getD_eq_getElem?_getD]; cases cs[i]? <;> rfl
theorem getD_byte {cs : List Int32} {i : Nat} : ((cs.map fun c => c.toInt8.toInt32).map Value.int).getD i (.int 0) = .int (cs.getD i 0).toInt8.toInt32 := by
  rw [List.getD_eq_getElem?_getD, List.getElem?_map, List.getElem?_map, List.getD_eq_getElem?_getD]; cases cs[i]? <;> rfl
theorem getD_all {cs : List Int32} {P : Int32 → Prop} (h0 : P 0) (h : ∀ c ∈ cs, P c) (i : Nat) : P (cs.getD i 0) := by
  rw [List.getD_eq_getElem?_getD]
  cases q : cs[i]? with
  | none => exact h0
  | some c => exact h c (List.mem_of_getElem? q)
abbrev Lat (x : Int32) : Prop := ¬ x < 0 ∧ ¬ (255 : Int32) < x
theorem lat_nat {x : Int32} (h : Lat x) : ∃ m : Nat, m < 256 ∧ x = Int32.ofNat m := by
  obtain ⟨h0, h1⟩ := h
  rw [Int32.lt_iff_toInt_lt] at h0 h1
  have e0 : (0 : Int32).toInt = 0 := rfl
  have e1 : (255 : Int32).toInt = 255 := rfl
  refine ⟨x.toInt.toNat, by omega, ?_⟩
  apply Int32.toInt_inj.mp
  rw [n_int (by omega)]; omega
theorem byte_inj {x y : Int32} (hx : Lat x) (hy : Lat y) : x.toInt8.toInt32 = y.toInt8.toInt32 ↔ x = y := by
  constructor
  · intro q
    obtain ⟨m, hm, rfl⟩ := lat_nat hx
    obtain ⟨k, hk, rfl⟩ := lat_nat hy
    have q := congrArg Int32.toInt q
    rw [Int8.toInt_toInt32, Int8.toInt_toInt32, Int32.toInt_toInt8, Int32.toInt_toInt8, n_int (by omega), n_int (by omega)] at q
    have d1 : ((m : Int).bmod (2 ^ 8)) % ((2 ^ 8 : Nat) : Int) = m := by rw [Int.bmod_emod]; omega
    have d2 : ((k : Int).bmod (2 ^ 8)) % ((2 ^ 8 : Nat) : Int) = k := by rw [Int.bmod_emod]; omega
    have : (m : Int) = k := by rw [← d1, ← d2, q]
    have : m = k := by omega
    rw [this]
  · intro q; rw [q]
theorem i2c_lat {x : Int32} (h : Lat x) : x.toUInt32.toUInt16.toUInt32.toInt32 = x := by
  obtain ⟨m, hm, rfl⟩ := lat_nat h
  have : ∀ m : Fin 256, (Int32.ofNat m.val).toUInt32.toUInt16.toUInt32.toInt32 = Int32.ofNat m.val := by decide +kernel
  exact this ⟨m, hm⟩
theorem l2i_lat (z : Int64) : Lat (z &&& 255).toInt32 := by
  have hb : (z &&& 255).toBitVec.toNat ≤ 255 := by rw [Int64.toBitVec_and, BitVec.toNat_and]; exact Nat.and_le_right
  have e : (z &&& 255).toInt32 = Int32.ofNat (z &&& 255).toBitVec.toNat := by
    apply Int32.toBitVec_inj.mp
    apply BitVec.eq_of_toNat_eq
    rw [Int64.toBitVec_toInt32]
    show ((z &&& 255).toBitVec.signExtend 32).toNat = (BitVec.ofNat 32 _).toNat
    rw [BitVec.signExtend_eq_setWidth_of_le _ (by decide), BitVec.toNat_setWidth, BitVec.toNat_ofNat]
  rw [e]
  refine ⟨n_nn (by omega), fun q => ?_⟩
  have q : Int32.ofNat 255 < Int32.ofNat (z &&& 255).toBitVec.toNat := q
  rw [n_lt (by decide) (by omega)] at q; omega
theorem par_up {x : Int32} (h : x &&& 1 = 0) : (x + 1) &&& 1 = 1 := by
  apply Int32.toBitVec_inj.mp
  apply BitVec.eq_of_toNat_eq
  have h := congrArg (fun z : Int32 => z.toBitVec.toNat) h
  simp only [Int32.toBitVec_and, BitVec.toNat_and, Int32.toBitVec_add, BitVec.toNat_add] at h ⊢
  change x.toBitVec.toNat &&& 1 = 0 at h
  change (x.toBitVec.toNat + 1) % 2 ^ 32 &&& 1 = 1
  rw [Nat.and_one_is_mod] at h ⊢
  omega
theorem par_dn {x : Int32} (h : x &&& 1 = 1) : (x + 1) &&& 1 = 0 := by
  apply Int32.toBitVec_inj.mp
  apply BitVec.eq_of_toNat_eq
  have h := congrArg (fun z : Int32 => z.toBitVec.toNat) h
  simp only [Int32.toBitVec_and, BitVec.toNat_and, Int32.toBitVec_add, BitVec.toNat_add] at h ⊢
  change x.toBitVec.toNat &&& 1 = 1 at h
  change (x.toBitVec.toNat + 1) % 2 ^ 32 &&& 1 = 0
  rw [Nat.and_one_is_mod] at h ⊢
  omega
/-! what the methods of XPathText reckon -/
def pre (n : Nat) (cs : List Int32) (i : Nat) (a b : Int32) : Prop := i + 2 ≤ n ∧ cs.getD i 0 = a ∧ cs.getD (i + 1) 0 = b
instance {n : Nat} {cs : List Int32} {i : Nat} {a b : Int32} : Decidable (pre n cs i a b) := by unfold pre; infer_instance
def mis (x0 x1 y0 y1 : Int32) : Int32 := if x0 = y0 then if x1 = y1 then -1 else 1 else 0
theorem mis_pre {n : Nat} {cs : List Int32} {i : Nat} {a b : Int32} (hl : ∀ c ∈ cs, Lat c) (ha : Lat a) (hb : Lat b) (hi : i + 2 ≤ n) : mis (cs.getD i 0).toInt8.toInt32 (cs.getD (i + 1) 0).toInt8.toInt32 a.toInt8.toInt32 b.toInt8.toInt32 < 0 ↔ pre n cs i a b := by
  have l0 : Lat (cs.getD i 0) := getD_all (by decide) hl i
  have l1 : Lat (cs.getD (i + 1) 0) := getD_all (by decide) hl (i + 1)
  unfold mis pre
  have b0 := byte_inj l0 ha
  have b1 := byte_inj l1 hb
  by_cases h1 : cs.getD i 0 = a
  · by_cases h2 : cs.getD (i + 1) 0 = b
    · rw [if_pos (b0.mpr h1), if_pos (b1.mpr h2)]; exact ⟨fun _ => ⟨hi, h1, h2⟩, fun _ => by decide⟩
    · rw [if_pos (b0.mpr h1), if_neg (fun z => h2 (b1.mp z))]; exact ⟨fun q => absurd q (by decide), fun q => absurd q.2.2 h2⟩
  · rw [if_neg (fun z => h1 (b0.mp z))]; exact ⟨fun q => absurd q (by decide), fun q => absurd q.2.1 h1⟩
def litF (n : Nat) (cs : List Int32) (q : Int32) : Nat → Nat → Nat
  | 0, i => i
  | f + 1, i => if i < n then (if cs.getD i 0 = q then (if i + 1 < n ∧ cs.getD (i + 1) 0 = q then litF n cs q f (i + 2) else i + 1) else litF n cs q f (i + 1)) else i
def comF (n : Nat) (cs : List Int32) : Nat → Int32 → Nat → Nat
  | 0, _, i => i
  | f + 1, d, i => if i < n then (if pre n cs i 40 58 then comF n cs f (d + 1) (i + 2) else if pre n cs i 58 41 then (if d + (-1) = 0 then i + 2 else comF n cs f (d + (-1)) (i + 2)) else comF n cs f d (i + 1)) else i
def aloc (n : Nat) (cs : List Int32) (i : Nat) : Nat :=
  if cs.getD i 0 = 34 ∨ cs.getD i 0 = 39 then litF n cs (cs.getD i 0) (n + 1) (i + 1) else if pre n cs i 40 58 then comF n cs (n + 1) 0 i else i
/-! what the law's own steps reckon -/
def lst (n : Nat) (cs : List Int32) (j : Nat) (q : Int32) (p : Int32 × Int32) : Int32 × Int32 :=
  if ¬ j < n ∨ ¬ p.2 < 0 then p else
  if ((if cs.getD j 0 = q then p.1 + 1 else p.1) &&& 1 = 1) ∧ (¬ j + 1 < n ∨ ¬ cs.getD (j + 1) 0 = q) then ((if cs.getD j 0 = q then p.1 + 1 else p.1), Int32.ofNat (j + 1)) else ((if cs.getD j 0 = q then p.1 + 1 else p.1), p.2)
def cst (n : Nat) (cs : List Int32) (s k : Nat) (p : Int32 × Int32) : Int32 × Int32 :=
  if ¬ k + 1 < n ∨ ¬ p.2 < 0 then p else
  if cs.getD k 0 = 40 ∧ cs.getD (k + 1) 0 = 58 then (p.1 + 1, p.2) else
  if cs.getD k 0 = 58 ∧ cs.getD (k + 1) 0 = 41 ∧ (k = s ∨ ¬ cs.getD (k - 1) 0 = 40) then (p.1 - 1, if p.1 - 1 = 0 then Int32.ofNat (k + 2) else p.2) else p
def lrun (n : Nat) (cs : List Int32) (q : Int32) : Nat → Nat → Int32 × Int32 → Int32 × Int32
  | 0, _, p => p
  | f + 1, j, p => lrun n cs q f (j + 1) (lst n cs j q p)
def crun (n : Nat) (cs : List Int32) (s : Nat) : Nat → Nat → Int32 × Int32 → Int32 × Int32
  | 0, _, p => p
  | f + 1, j, p => crun n cs s f (j + 1) (cst n cs s j p)
def fin (n : Nat) (p : Int32 × Int32) : Int32 := if p.2 < 0 then Int32.ofNat n else p.2
theorem m1 : (-1 : Int32) < 0 := by decide
theorem fin_neg {n : Nat} {x : Int32} : fin n (x, -1) = Int32.ofNat n := if_pos m1
theorem fin_pos {n m : Nat} {x : Int32} (hm : m < 100000) : fin n (x, Int32.ofNat m) = Int32.ofNat m := if_neg (n_nn hm)
theorem lst_skip {n : Nat} {cs : List Int32} {j : Nat} {q x : Int32} (h : j < n) (hc : ¬ cs.getD j 0 = q) (hx : x &&& 1 = 0) : lst n cs j q (x, -1) = (x, -1) := by
  unfold lst
  rw [if_neg (fun z => z.elim (fun z => z h) (fun z => z m1)), if_neg hc, if_neg (fun z => absurd (z.1.symm.trans hx) (by decide))]
theorem lst_odd {n : Nat} {cs : List Int32} {j : Nat} {q x : Int32} (h : j < n) (hc : cs.getD j 0 = q) (hx : x &&& 1 = 1) : lst n cs j q (x, -1) = (x + 1, -1) := by
  unfold lst
  rw [if_neg (fun z => z.elim (fun z => z h) (fun z => z m1)), if_pos hc, if_neg (fun z => absurd (z.1.symm.trans (par_dn hx)) (by decide))]
theorem lst_dbl {n : Nat} {cs : List Int32} {j : Nat} {q x : Int32} (h : j < n) (hc : cs.getD j 0 = q) (h2 : j + 1 < n ∧ cs.getD (j + 1) 0 = q) : lst n cs j q (x, -1) = (x + 1, -1) := by
  unfold lst
  rw [if_neg (fun z => z.elim (fun z => z h) (fun z => z m1)), if_pos hc, if_neg (fun z => z.2.elim (fun z => z h2.1) (fun z => z h2.2))]
theorem lst_end {n : Nat} {cs : List Int32} {j : Nat} {q x : Int32} (h : j < n) (hc : cs.getD j 0 = q) (hx : x &&& 1 = 0) (h2 : ¬ (j + 1 < n ∧ cs.getD (j + 1) 0 = q)) : lst n cs j q (x, -1) = (x + 1, Int32.ofNat (j + 1)) := by
  unfold lst
  rw [if_neg (fun z => z.elim (fun z => z h) (fun z => z m1)), if_pos hc, if_pos ⟨par_up hx, Classical.not_and_iff_not_or_not.mp h2⟩]
theorem cst_off {n : Nat} {cs : List Int32} {s k : Nat} {p : Int32 × Int32} (h : n ≤ k + 1 ∨ ¬ p.2 < 0) : cst n cs s k p = p := if_pos (h.imp (fun z => by omega) id)
theorem cst_up {n : Nat} {cs : List Int32} {s k : Nat} {x : Int32} (h : pre n cs k 40 58) : cst n cs s k (x, -1) = (x + 1, -1) := by
  obtain ⟨h1, h2⟩ := h
  unfold cst
  rw [if_neg (fun z => z.elim (fun z => z (by omega)) (fun z => z m1)), if_pos h2]
theorem cst_dn {n : Nat} {cs : List Int32} {s k : Nat} {x : Int32} (h : pre n cs k 58 41) (hk : k = s ∨ ¬ cs.getD (k - 1) 0 = 40) : cst n cs s k (x, -1) = (x - 1, if x - 1 = 0 then Int32.ofNat (k + 2) else -1) := by
  obtain ⟨h1, h2, h3⟩ := h
  unfold cst
  rw [if_neg (fun z => z.elim (fun z => z (by omega)) (fun z => z m1)), if_neg (fun z => absurd (z.1.symm.trans h2) (by decide)), if_pos ⟨h2, h3, hk⟩]
theorem cst_no {n : Nat} {cs : List Int32} {s k : Nat} {x : Int32} (h1 : ¬ pre n cs k 40 58) (h2 : pre n cs k 58 41 → ¬ (k = s ∨ ¬ cs.getD (k - 1) 0 = 40)) : cst n cs s k (x, -1) = (x, -1) := by
  by_cases hk : k + 1 < n
  · unfold cst
    rw [if_neg (fun z => z.elim (fun z => z hk) (fun z => z m1)), if_neg (fun z => h1 ⟨by omega, z.1, z.2⟩), if_neg (fun z => h2 ⟨by omega, z.1, z.2.1⟩ z.2.2)]
  · exact cst_off (Or.inl (by omega))
theorem lrun_off {n : Nat} {cs : List Int32} {q : Int32} : ∀ (f j : Nat) (p : Int32 × Int32), n ≤ j ∨ ¬ p.2 < 0 → lrun n cs q f j p = p
  | 0, _, _, _ => rfl
  | f + 1, j, p, h => by
    have e : lst n cs j q p = p := if_pos (h.imp (fun z => by omega) id)
    show lrun n cs q f (j + 1) (lst n cs j q p) = p
    rw [e]; exact lrun_off f (j + 1) p (h.imp (fun z => by omega) id)
theorem crun_off {n : Nat} {cs : List Int32} {s : Nat} : ∀ (f j : Nat) (p : Int32 × Int32), n ≤ j + 1 ∨ ¬ p.2 < 0 → crun n cs s f j p = p
  | 0, _, _, _ => rfl
  | f + 1, j, p, h => by
    show crun n cs s f (j + 1) (cst n cs s j p) = p
    rw [cst_off h]; exact crun_off f (j + 1) p (h.imp (fun z => by omega) id)
theorem lrun_s {n : Nat} {cs : List Int32} {q : Int32} {f j : Nat} {p : Int32 × Int32} : lrun n cs q (f + 1) j p = lrun n cs q f (j + 1) (lst n cs j q p) := rfl
theorem crun_s {n : Nat} {cs : List Int32} {s f j : Nat} {p : Int32 × Int32} : crun n cs s (f + 1) j p = crun n cs s f (j + 1) (cst n cs s j p) := rfl
theorem lit_ok {n : Nat} {cs : List Int32} {q : Int32} (hn : n < 1000) : ∀ (f i g : Nat) (x : Int32), n - i < f → i ≤ n → n ≤ g + i → x &&& 1 = 0 → Int32.ofNat (litF n cs q f i) = fin n (lrun n cs q g i (x, -1)) := by
  intro f
  induction f with
  | zero => intro i g x hf; omega
  | succ f ih =>
    intro i g x hf hi hg hx
    rw [litF]
    by_cases h1 : i < n
    · rw [if_pos h1]
      obtain ⟨g, rfl⟩ : ∃ g', g = g' + 1 := ⟨g - 1, by omega⟩
      rw [lrun_s]
      by_cases h2 : cs.getD i 0 = q
      · rw [if_pos h2]
        by_cases h3 : i + 1 < n ∧ cs.getD (i + 1) 0 = q
        · rw [if_pos h3]
          obtain ⟨g, rfl⟩ : ∃ g', g = g' + 1 := ⟨g - 1, by omega⟩
          rw [lst_dbl h1 h2 h3, lrun_s, lst_odd h3.1 h3.2 (par_up hx)]
          exact ih (i + 2) g (x + 1 + 1) (by omega) (by omega) (by omega) (par_dn (par_up hx))
        · have hh : ¬ ((x + 1, Int32.ofNat (i + 1)) : Int32 × Int32).2 < 0 := n_nn (i := i + 1) (by omega)
          rw [if_neg h3, lst_end h1 h2 hx h3, lrun_off g (i + 1) _ (Or.inr hh), fin_pos (m := i + 1) (by omega)]
      · rw [if_neg h2, lst_skip h1 h2 hx]
        exact ih (i + 1) g x (by omega) (by omega) (by omega) hx
    · rw [if_neg h1, lrun_off g i _ (Or.inl (by omega)), fin_neg]
      have : i = n := by omega
      rw [this]
theorem comF_end {n : Nat} {cs : List Int32} {f i : Nat} {d : Int32} (h : ¬ i < n) : comF n cs f d i = i := by
  cases f with
  | zero => rfl
  | succ f => rw [comF, if_neg h]
theorem com_ok {n : Nat} {cs : List Int32} {s : Nat} (hn : n < 1000) : ∀ (f i g : Nat) (d : Int32), n - i < f → i ≤ n → n ≤ g + i + 1 → s ≤ i → (i = s ∨ ¬ (cs.getD (i - 1) 0 = 40 ∧ cs.getD i 0 = 58)) → Int32.ofNat (comF n cs f d i) = fin n (crun n cs s g i (d, -1)) := by
  intro f
  induction f with
  | zero => intro i g d hf; omega
  | succ f ih =>
    intro i g d hf hi hg hsi hI
    rw [comF]
    have two : ∀ (g : Nat) (d' : Int32), i + 2 ≤ n → n ≤ g + 1 + i + 1 → (cs.getD (i + 1) 0 = 58 ∧ cs.getD i 0 = 40 ∨ cs.getD (i + 1) 0 = 41) → Int32.ofNat (comF n cs f d' (i + 2)) = fin n (crun n cs s g (i + 1) (d', -1)) := fun g d' a1 a2 a3 => by
      have hI2 : i + 2 = s ∨ ¬ (cs.getD (i + 2 - 1) 0 = 40 ∧ cs.getD (i + 2) 0 = 58) := Or.inr (fun z => by
        have z1 : cs.getD (i + 1) 0 = 40 := z.1
        rcases a3 with a3 | a3
        · exact absurd (z1.symm.trans a3.1) (by decide)
        · exact absurd (z1.symm.trans a3) (by decide))
      cases g with
      | zero =>
        show _ = fin n (crun n cs s 0 (i + 2) (d', -1))
        exact ih (i + 2) 0 d' (by omega) a1 (by omega) (by omega) hI2
      | succ g =>
        rw [crun_s, cst_no (k := i + 1)]
        · exact ih (i + 2) g d' (by omega) a1 (by omega) (by omega) hI2
        · intro z
          have z1 := z.2.1
          rcases a3 with a3 | a3
          · exact absurd (z1.symm.trans a3.1) (by decide)
          · exact absurd (z1.symm.trans a3) (by decide)
        · intro z w
          rcases a3 with a3 | a3
          · rcases w with w | w
            · omega
            · exact w a3.2
          · exact absurd (z.2.1.symm.trans a3) (by decide)
    by_cases h1 : i < n
    · rw [if_pos h1]
      by_cases h2 : pre n cs i 40 58
      · rw [if_pos h2]
        obtain ⟨g, rfl⟩ : ∃ g', g = g' + 1 := ⟨g - 1, by have := h2.1; omega⟩
        rw [crun_s, cst_up h2]
        exact two g (d + 1) h2.1 (by omega) (Or.inl ⟨h2.2.2, h2.2.1⟩)
      · rw [if_neg h2]
        by_cases h3 : pre n cs i 58 41
        · rw [if_pos h3]
          obtain ⟨g, rfl⟩ : ∃ g', g = g' + 1 := ⟨g - 1, by have := h3.1; omega⟩
          have hk : i = s ∨ ¬ cs.getD (i - 1) 0 = 40 := hI.imp id (fun z w => z ⟨w, h3.2.1⟩)
          have ed : d + (-1) = d - 1 := by rw [Int32.sub_eq_add_neg]
          rw [crun_s, cst_dn h3 hk, ed]
          by_cases h4 : d - 1 = 0
          · have hh : ¬ ((d - 1, Int32.ofNat (i + 2)) : Int32 × Int32).2 < 0 := n_nn (i := i + 2) (by omega)
            rw [if_pos h4, if_pos h4, crun_off g (i + 1) _ (Or.inr hh), fin_pos (m := i + 2) (by omega)]
          · rw [if_neg h4, if_neg h4]
            exact two g (d - 1) h3.1 (by omega) (Or.inr h3.2.2)
        · rw [if_neg h3]
          by_cases hin : i + 1 < n
          · obtain ⟨g, rfl⟩ : ∃ g', g = g' + 1 := ⟨g - 1, by omega⟩
            rw [crun_s, cst_no h2 (fun z => absurd z h3)]
            exact ih (i + 1) g d (by omega) (by omega) (by omega) (by omega) (Or.inr fun z => h2 ⟨by omega, z.1, z.2⟩)
          · have e : i + 1 = n := by omega
            rw [crun_off g i _ (Or.inl (by omega)), fin_neg, comF_end (by omega), e]
    · rw [if_neg h1, crun_off g i _ (Or.inl (by omega)), fin_neg]
      have : i = n := by omega
      rw [this]
def refF (n : Nat) (cs : List Int32) (s : Nat) : Int32 :=
  if cs.getD s 0 = 34 ∨ cs.getD s 0 = 39 then fin n (lrun n cs (cs.getD s 0) 9 (s + 1) (0, -1)) else if cs.getD s 0 = 40 ∧ s + 1 < n ∧ cs.getD (s + 1) 0 = 58 then fin n (crun n cs s 9 s (0, -1)) else Int32.ofNat s
theorem ref_ok {cs : List Int32} {s : Nat} (hs : s ≤ 2) : Int32.ofNat (aloc 10 cs s) = refF 10 cs s := by
  unfold aloc refF
  by_cases h1 : cs.getD s 0 = 34 ∨ cs.getD s 0 = 39
  · rw [if_pos h1, if_pos h1]; exact lit_ok (by decide) 11 (s + 1) 9 0 (by omega) (by omega) (by omega) (by decide)
  · rw [if_neg h1, if_neg h1]
    by_cases h2 : pre 10 cs s 40 58
    · rw [if_pos h2, if_pos ⟨h2.2.1, by have := h2.1; omega, h2.2.2⟩]
      exact com_ok (by decide) 11 s 9 0 (by omega) (by omega) (by omega) (Nat.le_refl _) (Or.inl rfl)
    · rw [if_neg h2, if_neg (fun z => h2 ⟨by have := z.2.1; omega, z.1, z.2.2⟩)]
theorem if_z {P : Prop} [Decidable P] (h : (if P then (1 : Int32) else 0) = 0) : ¬ P := fun z => by rw [if_pos z] at h; exact absurd h (by decide)
theorem if_o {P : Prop} [Decidable P] (h : ¬ (if P then (1 : Int32) else 0) = 0) : P := Classical.byContradiction fun z => h (if_neg z)
section
variable {n : Nat} {cs : List Int32} {f i : Nat} {d q : Int32}
theorem comF_0 (h : ¬ i < n) : comF n cs (f + 1) d i = i := comF_end h
theorem comF_1 (h1 : i < n) (h2 : pre n cs i 40 58) : comF n cs (f + 1) d i = comF n cs f (d + 1) (i + 2) := by rw [comF, if_pos h1, if_pos h2]
theorem comF_2 (h1 : i < n) (h2 : ¬ pre n cs i 40 58) (h3 : pre n cs i 58 41) (h4 : d + (-1) = 0) : comF n cs (f + 1) d i = i + 2 := by rw [comF, if_pos h1, if_neg h2, if_pos h3, if_pos h4]
theorem comF_3 (h1 : i < n) (h2 : ¬ pre n cs i 40 58) (h3 : pre n cs i 58 41) (h4 : ¬ d + (-1) = 0) : comF n cs (f + 1) d i = comF n cs f (d + (-1)) (i + 2) := by rw [comF, if_pos h1, if_neg h2, if_pos h3, if_neg h4]
theorem comF_4 (h1 : i < n) (h2 : ¬ pre n cs i 40 58) (h3 : ¬ pre n cs i 58 41) : comF n cs (f + 1) d i = comF n cs f d (i + 1) := by rw [comF, if_pos h1, if_neg h2, if_neg h3]
theorem litF_0 (h : ¬ i < n) : litF n cs q (f + 1) i = i := by rw [litF, if_neg h]
theorem litF_1 (h1 : i < n) (h2 : ¬ cs.getD i 0 = q) : litF n cs q (f + 1) i = litF n cs q f (i + 1) := by rw [litF, if_pos h1, if_neg h2]
theorem litF_2 (h1 : i < n) (h2 : cs.getD i 0 = q) (h3 : i + 1 < n) (h4 : cs.getD (i + 1) 0 = q) : litF n cs q (f + 1) i = litF n cs q f (i + 2) := by rw [litF, if_pos h1, if_pos h2, if_pos ⟨h3, h4⟩]
theorem litF_3 (h1 : i < n) (h2 : cs.getD i 0 = q) (h3 : ¬ i + 1 < n) : litF n cs q (f + 1) i = i + 1 := by rw [litF, if_pos h1, if_pos h2, if_neg (fun z => h3 z.1)]
theorem litF_4 (h1 : i < n) (h2 : cs.getD i 0 = q) (h3 : ¬ cs.getD (i + 1) 0 = q) : litF n cs q (f + 1) i = i + 1 := by rw [litF, if_pos h1, if_pos h2, if_neg (fun z => h3 z.2)]
theorem len_map {m : Nat} (h : cs.length = m) (hm : m < 100000) : (Int32.ofNat m).toNatClampNeg = (cs.map Value.int).length := by rw [n_clamp hm, List.length_map, h]
theorem lt_map {m : Nat} (h : cs.length = m) (hi : i < m) : i < (cs.map Value.int).length := by rw [List.length_map, h]; exact hi
theorem len_mapb {m : Nat} (h : cs.length = m) (hm : m < 100000) : (Int32.ofNat m).toNatClampNeg = ((cs.map fun c => c.toInt8.toInt32).map Value.int).length := by rw [n_clamp hm, List.length_map, List.length_map, h]
theorem lt_mapb {m : Nat} (h : cs.length = m) (hi : i < m) : i < ((cs.map fun c => c.toInt8.toInt32).map Value.int).length := by rw [List.length_map, List.length_map, h]; exact hi
end
theorem n_sub1 {i : Nat} (h : 1 ≤ i) : Int32.ofNat i - 1 = Int32.ofNat (i - 1) := by
  obtain ⟨j, rfl⟩ : ∃ j, i = j + 1 := ⟨i - 1, by omega⟩
  rw [← n_add j 1]
  show Int32.ofNat j + Int32.ofNat 1 - Int32.ofNat 1 = Int32.ofNat j
  rw [Int32.sub_eq_add_neg, Int32.add_assoc, Int32.add_right_neg, Int32.add_zero]
theorem rem3 (x : Int32) : (x &&& 2147483647) % 3 = 0 ∨ (x &&& 2147483647) % 3 = 1 ∨ (x &&& 2147483647) % 3 = 2 := by
  have hb : (x &&& 2147483647).toBitVec.toNat ≤ 2147483647 := by rw [Int32.toBitVec_and, BitVec.toNat_and]; exact Nat.and_le_right
  have hx : (x &&& 2147483647).toInt = (x &&& 2147483647).toBitVec.toNat := by
    rw [← Int32.toInt_toBitVec, BitVec.toInt_eq_toNat_of_lt (by omega)]
  generalize x &&& 2147483647 = y at hb hx
  have e : (y % 3).toInt = y.toInt.tmod 3 := by rw [Int32.toInt_mod]; rfl
  have e2 : y.toInt.tmod 3 = y.toInt % 3 := Int.tmod_eq_emod_of_nonneg (by omega)
  have : (y % 3).toInt = 0 ∨ (y % 3).toInt = 1 ∨ (y % 3).toInt = 2 := by omega
  rcases this with q | q | q
  · exact Or.inl (Int32.toInt_inj.mp (q.trans rfl))
  · exact Or.inr (Or.inl (Int32.toInt_inj.mp (q.trans rfl)))
  · exact Or.inr (Or.inr (Int32.toInt_inj.mp (q.trans rfl)))
theorem lrun_e {n : Nat} {cs : List Int32} {q : Int32} {f j j' : Nat} {p p' : Int32 × Int32} (hj : j' = j + 1) (hp : p' = lst n cs j q (p.1, p.2)) : lrun n cs q (f + 1) j p = lrun n cs q f j' p' := by subst hj hp; rfl
theorem crun_e {n : Nat} {cs : List Int32} {s f j j' : Nat} {p p' : Int32 × Int32} (hj : j' = j + 1) (hp : p' = cst n cs s j (p.1, p.2)) : crun n cs s (f + 1) j p = crun n cs s f j' p' := by subst hj hp; rfl
/-! own text: what XPathText.nesting reckons, and what the law asks -/
def imax (a b : Int32) : Int32 := if a < b then b else a
def imin (a b : Int32) : Int32 := if b < a then b else a
def idx3 (a b e c : Int32) : Int32 := if a = c then 0 else if b = c then 1 else if e = c then 2 else -1
def opn (c : Int32) : Prop := c = 40 ∨ c = 91 ∨ c = 123
def cls (c : Int32) : Prop := c = 41 ∨ c = 93 ∨ c = 125
instance {c : Int32} : Decidable (opn c) := by unfold opn; infer_instance
instance {c : Int32} : Decidable (cls c) := by unfold cls; infer_instance
def symF (op f : Int32) : Int32 := if op = 0 then 40 else if op = 1 then 91 else if op = 2 then 123 else if op = 3 then 41 else if op = 4 then 93 else if op = 5 then 125 else f
def nxt (d op : Int32) : Int32 := if op < 3 then d + 1 else if op < 6 then (if 0 < d then d - 1 else d) else d
/-- a char that is no bracket, no quote and no colon -/
def Pl (f : Int32) : Prop := f ≠ 40 ∧ f ≠ 41 ∧ f ≠ 91 ∧ f ≠ 93 ∧ f ≠ 123 ∧ f ≠ 125 ∧ f ≠ 39 ∧ f ≠ 34 ∧ f ≠ 58
def Op7 (op : Int32) : Prop := op = 0 ∨ op = 1 ∨ op = 2 ∨ op = 3 ∨ op = 4 ∨ op = 5 ∨ op = 6
section
variable {n : Nat} {cs : List Int32} {f i : Nat} {d m q : Int32}
theorem litF_le : ∀ (f i : Nat), i ≤ n → litF n cs q f i ≤ n := by
  intro f
  induction f with
  | zero => intro i hi; exact hi
  | succ f ih =>
    intro i hi
    rw [litF]
    by_cases h1 : i < n
    · rw [if_pos h1]
      by_cases h2 : cs.getD i 0 = q
      · rw [if_pos h2]
        by_cases h3 : i + 1 < n ∧ cs.getD (i + 1) 0 = q
        · rw [if_pos h3]; exact ih _ (by omega)
        · rw [if_neg h3]; omega
      · rw [if_neg h2]; exact ih _ (by omega)
    · rw [if_neg h1]; exact hi
theorem comF_le : ∀ (f i : Nat) (d : Int32), i ≤ n → comF n cs f d i ≤ n := by
  intro f
  induction f with
  | zero => intro i d hi; exact hi
  | succ f ih =>
    intro i d hi
    rw [comF]
    by_cases h1 : i < n
    · rw [if_pos h1]
      by_cases h2 : pre n cs i 40 58
      · rw [if_pos h2]; exact ih _ _ h2.1
      · rw [if_neg h2]
        by_cases h3 : pre n cs i 58 41
        · rw [if_pos h3]
          by_cases h4 : d + (-1) = 0
          · rw [if_pos h4]; exact h3.1
          · rw [if_neg h4]; exact ih _ _ h3.1
        · rw [if_neg h3]; exact ih _ _ (by omega)
    · rw [if_neg h1]; exact hi
theorem aloc_le (hi : i < n) : aloc n cs i ≤ n := by
  unfold aloc
  by_cases h1 : cs.getD i 0 = 34 ∨ cs.getD i 0 = 39
  · rw [if_pos h1]; exact litF_le _ _ (by omega)
  · rw [if_neg h1]
    by_cases h2 : pre n cs i 40 58
    · rw [if_pos h2]; exact comF_le _ _ _ (by omega)
    · rw [if_neg h2]; omega
theorem aloc_no (h1 : cs.getD i 0 ≠ 34) (h2 : cs.getD i 0 ≠ 39) (h3 : ¬ pre n cs i 40 58) : aloc n cs i = i := by
  unfold aloc; rw [if_neg (fun z => z.elim h1 h2), if_neg h3]
end
def nxtN (D : Nat) (op : Int32) : Nat := if op < 3 then D + 1 else if op < 6 then D - 1 else D
theorem nxt_n {D : Nat} {op : Int32} (hD : D < 1000) : nxt (Int32.ofNat D) op = Int32.ofNat (nxtN D op) := by
  unfold nxt nxtN
  by_cases h1 : op < 3
  · rw [if_pos h1, if_pos h1]; exact n_add D 1
  · rw [if_neg h1, if_neg h1]
    by_cases h2 : op < 6
    · rw [if_pos h2, if_pos h2]
      by_cases h3 : (0 : Int32) < Int32.ofNat D
      · have h4 : 0 < D := (n_lt (i := 0) (j := D) (by decide) (by omega)).mp h3
        rw [if_pos h3]; exact n_sub1 h4
      · have h4 : ¬ 0 < D := mt (n_lt (i := 0) (j := D) (by decide) (by omega)).mpr h3
        rw [if_neg h3]; have : D = 0 := by omega
        rw [this]
    · rw [if_neg h2, if_neg h2]
theorem imax_n {A B : Nat} (hA : A < 1000) (hB : B < 1000) : imax (Int32.ofNat A) (Int32.ofNat B) = Int32.ofNat (max A B) := by
  unfold imax
  by_cases h : A < B
  · rw [if_pos ((n_lt (by omega) (by omega)).mpr h), Nat.max_eq_right (by omega)]
  · rw [if_neg (mt (n_lt (by omega) (by omega)).mp h), Nat.max_eq_left (by omega)]
theorem idx_in {a b e c : Int32} (ha : Lat a) (hb : Lat b) (he : Lat e) (hc : Lat c) : ¬ idx3 a.toInt8.toInt32 b.toInt8.toInt32 e.toInt8.toInt32 c.toInt8.toInt32 < 0 ↔ (c = a ∨ c = b ∨ c = e) := by
  have b0 := byte_inj ha hc
  have b1 := byte_inj hb hc
  have b2 := byte_inj he hc
  unfold idx3
  by_cases h0 : a = c
  · rw [if_pos (b0.mpr h0)]; exact ⟨fun _ => Or.inl h0.symm, fun _ => by decide⟩
  · rw [if_neg (fun z => h0 (b0.mp z))]
    by_cases h1 : b = c
    · rw [if_pos (b1.mpr h1)]; exact ⟨fun _ => Or.inr (Or.inl h1.symm), fun _ => by decide⟩
    · rw [if_neg (fun z => h1 (b1.mp z))]
      by_cases h2 : e = c
      · rw [if_pos (b2.mpr h2)]; exact ⟨fun _ => Or.inr (Or.inr h2.symm), fun _ => by decide⟩
      · rw [if_neg (fun z => h2 (b2.mp z))]; exact ⟨fun z => absurd (by decide) z, fun z => z.elim (fun z => absurd z.symm h0) (fun z => z.elim (fun z => absurd z.symm h1) (fun z => absurd z.symm h2))⟩
theorem nb {D k : Nat} {op : Int32} (h : D ≤ k) : nxtN D op ≤ k + 1 := by
  unfold nxtN
  by_cases h1 : op < 3
  · rw [if_pos h1]; omega
  · rw [if_neg h1]
    by_cases h2 : op < 6
    · rw [if_pos h2]; omega
    · rw [if_neg h2]; omega
def gst (p : Nat × Nat) (op : Int32) : Nat × Nat := (nxtN p.1 op, max p.2 (nxtN p.1 op))
/-- nestF over small numbers -/
def nestN (n : Nat) (cs : List Int32) : Nat → Nat → Nat → Nat → Nat
  | 0, _, m, _ => m
  | f + 1, d, m, i => if i < n then (if i < aloc n cs i then nestN n cs f d m (aloc n cs i) else if opn (cs.getD i 0) then nestN n cs f (d + 1) (max m (d + 1)) (i + 1) else if cls (cs.getD i 0) ∧ 0 < d then nestN n cs f (d - 1) m (i + 1) else nestN n cs f d m (i + 1)) else m
section
variable {n : Nat} {cs : List Int32} {f i d m : Nat}
theorem nn_0 (h : ¬ i < n) : nestN n cs (f + 1) d m i = m := by rw [nestN, if_neg h]
theorem nn_1 (h : i < n) (h1 : i < aloc n cs i) : nestN n cs (f + 1) d m i = nestN n cs f d m (aloc n cs i) := by rw [nestN, if_pos h, if_pos h1]
theorem nn_2 (h : i < n) (h1 : ¬ i < aloc n cs i) (h2 : opn (cs.getD i 0)) : nestN n cs (f + 1) d m i = nestN n cs f (d + 1) (max m (d + 1)) (i + 1) := by rw [nestN, if_pos h, if_neg h1, if_pos h2]
theorem nn_3 (h : i < n) (h1 : ¬ i < aloc n cs i) (h2 : ¬ opn (cs.getD i 0)) (h3 : cls (cs.getD i 0)) (h4 : 0 < d) : nestN n cs (f + 1) d m i = nestN n cs f (d - 1) m (i + 1) := by rw [nestN, if_pos h, if_neg h1, if_neg h2, if_pos ⟨h3, h4⟩]
theorem nn_4 (h : i < n) (h1 : ¬ i < aloc n cs i) (h2 : ¬ opn (cs.getD i 0)) (h3 : ¬ (cls (cs.getD i 0) ∧ 0 < d)) : nestN n cs (f + 1) d m i = nestN n cs f d m (i + 1) := by rw [nestN, if_pos h, if_neg h1, if_neg h2, if_neg h3]
end
/-- one symbol, outside literals and comments -/
theorem nn_sym {n : Nat} {cs : List Int32} {f i D M : Nat} {op fl : Int32} (hD : D ≤ M) (hi : i < n) (hop : Op7 op) (hf : Pl fl) (hc : cs.getD i 0 = symF op fl) (hn : ¬ pre n cs i 40 58) :
    nestN n cs (f + 1) D M i = nestN n cs f (nxtN D op) (max M (nxtN D op)) (i + 1) := by
  obtain ⟨f1, f2, f3, f4, f5, f6, f7, f8, f9⟩ := hf
  have open_ : opn (cs.getD i 0) → nxtN D op = D + 1 → cs.getD i 0 ≠ 34 → cs.getD i 0 ≠ 39 → nestN n cs (f + 1) D M i = nestN n cs f (nxtN D op) (max M (nxtN D op)) (i + 1) := fun o e q1 q2 => by
    rw [nn_2 hi (by rw [aloc_no q1 q2 hn]; omega) o, e]
  have close_ : ¬ opn (cs.getD i 0) → cls (cs.getD i 0) → nxtN D op = D - 1 → cs.getD i 0 ≠ 34 → cs.getD i 0 ≠ 39 → nestN n cs (f + 1) D M i = nestN n cs f (nxtN D op) (max M (nxtN D op)) (i + 1) := fun no c e q1 q2 => by
    rw [e, Nat.max_eq_left (by omega)]
    by_cases h : 0 < D
    · rw [nn_3 hi (by rw [aloc_no q1 q2 hn]; omega) no c h]
    · rw [nn_4 hi (by rw [aloc_no q1 q2 hn]; omega) no (fun z => h z.2)]
      have : D = 0 := by omega
      rw [this]
  rcases hop with rfl | rfl | rfl | rfl | rfl | rfl | rfl
  · have hc : cs.getD i 0 = 40 := hc
    exact open_ (Or.inl hc) rfl (by rw [hc]; decide) (by rw [hc]; decide)
  · have hc : cs.getD i 0 = 91 := hc
    exact open_ (Or.inr (Or.inl hc)) rfl (by rw [hc]; decide) (by rw [hc]; decide)
  · have hc : cs.getD i 0 = 123 := hc
    exact open_ (Or.inr (Or.inr hc)) rfl (by rw [hc]; decide) (by rw [hc]; decide)
  · have hc : cs.getD i 0 = 41 := hc
    exact close_ (by rw [hc]; decide) (Or.inl hc) rfl (by rw [hc]; decide) (by rw [hc]; decide)
  · have hc : cs.getD i 0 = 93 := hc
    exact close_ (by rw [hc]; decide) (Or.inr (Or.inl hc)) rfl (by rw [hc]; decide) (by rw [hc]; decide)
  · have hc : cs.getD i 0 = 125 := hc
    exact close_ (by rw [hc]; decide) (Or.inr (Or.inr hc)) rfl (by rw [hc]; decide) (by rw [hc]; decide)
  · have hc : cs.getD i 0 = fl := hc
    have e : nxtN D 6 = D := rfl
    rw [e, Nat.max_eq_left hD, nn_4 hi (by rw [aloc_no (by rw [hc]; exact f8) (by rw [hc]; exact f7) hn]; omega) (by rw [hc]; exact fun z => z.elim f1 (fun z => z.elim f3 f5)) (by rw [hc]; exact fun z => z.1.elim f2 (fun z => z.elim f4 f6))]
theorem nn_col {n : Nat} {cs : List Int32} {f i d m : Nat} (hi : i < n) (hc : cs.getD i 0 = 58) : nestN n cs (f + 1) d m i = nestN n cs f d m (i + 1) :=
  nn_4 hi (by rw [aloc_no (by rw [hc]; decide) (by rw [hc]; decide) (fun z => absurd (hc.symm.trans z.2.1) (by decide))]; omega) (by rw [hc]; decide) (by rw [hc]; exact fun z => absurd z.1 (by decide))
/-! own text: the law's fourteen chars -/
def Nq (y : Int32) : Prop := y ≠ 34 ∧ y ≠ 39 ∧ y ≠ 58
theorem sym_nq {op f : Int32} (h : Op7 op) (hf : Pl f) : Nq (symF op f) := by
  obtain ⟨f1, f2, f3, f4, f5, f6, f7, f8, f9⟩ := hf
  rcases h with rfl | rfl | rfl | rfl | rfl | rfl | rfl
  · exact (show Nq 40 from ⟨by decide, by decide, by decide⟩)
  · exact (show Nq 91 from ⟨by decide, by decide, by decide⟩)
  · exact (show Nq 123 from ⟨by decide, by decide, by decide⟩)
  · exact (show Nq 41 from ⟨by decide, by decide, by decide⟩)
  · exact (show Nq 93 from ⟨by decide, by decide, by decide⟩)
  · exact (show Nq 125 from ⟨by decide, by decide, by decide⟩)
  · exact (show Nq f from ⟨f8, f7, f9⟩)
abbrev L14 (x0 x1 x2 c3 c4 c5 c6 c7 c8 c9 c10 y0 y1 y2 : Int32) : List Int32 := [x0, x1, x2, c3, c4, c5, c6, c7, c8, c9, c10, y0, y1, y2]
section
variable {x0 x1 x2 y0 y1 y2 f : Int32}
theorem al_0a (hf : Pl f) (h0 : Nq y0) : aloc 14 (L14 x0 x1 x2 34 40 58 93 125 f 39 34 y0 y1 y2) 3 = 11 := by
  obtain ⟨f1, f2, f3, f4, f5, f6, f7, f8, f9⟩ := hf; obtain ⟨a, b, c⟩ := h0
  simp [aloc, litF, *]
theorem al_0b (hf : Pl f) (h0 : Nq y0) : aloc 14 (L14 x0 x1 x2 39 40 58 93 125 f 34 39 y0 y1 y2) 3 = 11 := by
  obtain ⟨f1, f2, f3, f4, f5, f6, f7, f8, f9⟩ := hf; obtain ⟨a, b, c⟩ := h0
  simp [aloc, litF, *]
theorem al_1a (hf : Pl f) (h0 : Nq y0) : aloc 14 (L14 x0 x1 x2 34 34 34 40 39 41 f 34 y0 y1 y2) 3 = 11 := by
  obtain ⟨f1, f2, f3, f4, f5, f6, f7, f8, f9⟩ := hf; obtain ⟨a, b, c⟩ := h0
  simp [aloc, litF, *]
theorem al_1b (hf : Pl f) (h0 : Nq y0) : aloc 14 (L14 x0 x1 x2 39 39 39 40 34 41 f 39 y0 y1 y2) 3 = 11 := by
  obtain ⟨f1, f2, f3, f4, f5, f6, f7, f8, f9⟩ := hf; obtain ⟨a, b, c⟩ := h0
  simp [aloc, litF, *]
theorem al_2a (hf : Pl f) (h0 : Nq y0) (h1 : Nq y1) (h2 : Nq y2) : aloc 14 (L14 x0 x1 x2 34 40 91 34 34 f f f y0 y1 y2) 3 = 14 := by
  obtain ⟨f1, f2, f3, f4, f5, f6, f7, f8, f9⟩ := hf; obtain ⟨a, b, c⟩ := h0; obtain ⟨a1, b1, c1⟩ := h1; obtain ⟨a2, b2, c2⟩ := h2
  simp [aloc, litF, *]
theorem al_2b (hf : Pl f) (h0 : Nq y0) (h1 : Nq y1) (h2 : Nq y2) : aloc 14 (L14 x0 x1 x2 39 40 91 39 39 f f f y0 y1 y2) 3 = 14 := by
  obtain ⟨f1, f2, f3, f4, f5, f6, f7, f8, f9⟩ := hf; obtain ⟨a, b, c⟩ := h0; obtain ⟨a1, b1, c1⟩ := h1; obtain ⟨a2, b2, c2⟩ := h2
  simp [aloc, litF, *]
theorem al_3 : aloc 14 (L14 x0 x1 x2 40 58 40 91 58 41 f f y0 y1 y2) 3 = 9 := by
  simp [aloc, comF, pre]
theorem al_4 : aloc 14 (L14 x0 x1 x2 40 58 40 58 58 41 58 41 y0 y1 y2) 3 = 11 := by
  simp [aloc, comF, pre]
theorem al_5 (hf : Pl f) (h0 : Nq y0) (h1 : Nq y1) (h2 : Nq y2) : aloc 14 (L14 x0 x1 x2 40 58 40 58 f f 58 41 y0 y1 y2) 3 = 14 := by
  obtain ⟨f1, f2, f3, f4, f5, f6, f7, f8, f9⟩ := hf; obtain ⟨a, b, c⟩ := h0; obtain ⟨a1, b1, c1⟩ := h1; obtain ⟨a2, b2, c2⟩ := h2
  simp [aloc, comF, pre, *]
end
theorem nn_sym3 {n : Nat} {cs : List Int32} {f i D M : Nat} {a0 a1 a2 fl : Int32} (hD : D ≤ M) (hi : i + 2 < n) (o0 : Op7 a0) (o1 : Op7 a1) (o2 : Op7 a2) (hf : Pl fl) (c0 : cs.getD i 0 = symF a0 fl) (c1 : cs.getD (i + 1) 0 = symF a1 fl) (c2 : cs.getD (i + 2) 0 = symF a2 fl) (hn : ¬ pre n cs (i + 2) 40 58) :
    nestN n cs (f + 3) D M i = nestN n cs f (nxtN (nxtN (nxtN D a0) a1) a2) (max (max (max M (nxtN D a0)) (nxtN (nxtN D a0) a1)) (nxtN (nxtN (nxtN D a0) a1) a2)) (i + 3) := by
  have e1 := sym_nq o1 hf
  have e2 := sym_nq o2 hf
  rw [show f + 3 = f + 2 + 1 from rfl, nn_sym hD (by omega) o0 hf c0 (fun z => e1.2.2 (c1.symm.trans z.2.2)), show f + 2 = f + 1 + 1 from rfl,
    nn_sym (Nat.le_max_right _ _) (by omega) o1 hf c1 (fun z => e2.2.2 (c2.symm.trans z.2.2)), nn_sym (Nat.le_max_right _ _) (by omega) o2 hf c2 hn]
theorem nn_pl {n : Nat} {cs : List Int32} {f i D M : Nat} {fl : Int32} (hD : D ≤ M) (hi : i < n) (hf : Pl fl) (hc : cs.getD i 0 = fl) : nestN n cs (f + 1) D M i = nestN n cs f D M (i + 1) := by
  have e := nn_sym (f := f) (op := 6) hD hi (Or.inr (Or.inr (Or.inr (Or.inr (Or.inr (Or.inr rfl)))))) hf hc (fun z => hf.1 (hc.symm.trans z.2.1))
  have e6 : nxtN D 6 = D := rfl
  rw [e6, Nat.max_eq_left hD] at e
  exact e
abbrev g3 (D : Nat) (a0 a1 a2 : Int32) : Nat := nxtN (nxtN (nxtN D a0) a1) a2
abbrev h3 (D M : Nat) (a0 a1 a2 : Int32) : Nat := max (max (max M (nxtN D a0)) (nxtN (nxtN D a0) a1)) (nxtN (nxtN (nxtN D a0) a1) a2)
theorem gh {D M : Nat} {a0 a1 a2 : Int32} : g3 D a0 a1 a2 ≤ h3 D M a0 a1 a2 := Nat.le_max_right _ _
/-- what the law reckons -/
def refG (k a0 a1 a2 b0 b1 b2 : Int32) : Nat :=
  if k = 6 then h3 (g3 (g3 0 a0 a1 a2) 3 0 3) (h3 (g3 0 a0 a1 a2) (h3 0 0 a0 a1 a2) 3 0 3) b0 b1 b2
  else if k = 2 ∨ k = 5 then h3 0 0 a0 a1 a2 else h3 (g3 0 a0 a1 a2) (h3 0 0 a0 a1 a2) b0 b1 b2
section
variable {a0 a1 a2 b0 b1 b2 f c3 c4 c5 c6 c7 c8 c9 c10 : Int32}
theorem head3 {y0 y1 y2 : Int32} (o0 : Op7 a0) (o1 : Op7 a1) (o2 : Op7 a2) (hf : Pl f) (h : c3 ≠ 58) : nestN 14 (L14 (symF a0 f) (symF a1 f) (symF a2 f) c3 c4 c5 c6 c7 c8 c9 c10 y0 y1 y2) 15 0 0 0 = nestN 14 (L14 (symF a0 f) (symF a1 f) (symF a2 f) c3 c4 c5 c6 c7 c8 c9 c10 y0 y1 y2) 12 (g3 0 a0 a1 a2) (h3 0 0 a0 a1 a2) 3 :=
  nn_sym3 (f := 12) (Nat.le_refl _) (by decide) o0 o1 o2 hf rfl rfl rfl (fun z => h z.2.2)
theorem tail3 {x0 x1 x2 : Int32} {g D M : Nat} (p0 : Op7 b0) (p1 : Op7 b1) (p2 : Op7 b2) (hf : Pl f) (hD : D ≤ M) : nestN 14 (L14 x0 x1 x2 c3 c4 c5 c6 c7 c8 c9 c10 (symF b0 f) (symF b1 f) (symF b2 f)) (g + 4) D M 11 = h3 D M b0 b1 b2 := by
  rw [show g + 4 = g + 1 + 3 from rfl, nn_sym3 hD (by decide) p0 p1 p2 hf rfl rfl rfl (fun z => absurd z.1 (by decide)), nn_0 (by decide)]
theorem skip {cs : List Int32} {g D M j : Nat} (h : aloc 14 cs 3 = j) (hj : 3 < j) : nestN 14 cs (g + 1) D M 3 = nestN 14 cs g D M j := by
  rw [nn_1 (by decide) (by rw [h]; exact hj), h]
end
theorem kd_0a {a0 a1 a2 b0 b1 b2 f : Int32} (o0 : Op7 a0) (o1 : Op7 a1) (o2 : Op7 a2) (p0 : Op7 b0) (p1 : Op7 b1) (p2 : Op7 b2) (hf : Pl f) : nestN 14 (L14 (symF a0 f) (symF a1 f) (symF a2 f) 34 40 58 93 125 f 39 34 (symF b0 f) (symF b1 f) (symF b2 f)) 15 0 0 0 = refG 0 a0 a1 a2 b0 b1 b2 := by
  rw [refG, if_neg (by decide), if_neg (by decide), head3 o0 o1 o2 hf (by decide), skip (al_0a hf (sym_nq p0 hf)) (by decide)]; exact tail3 (g := 7) p0 p1 p2 hf gh
theorem kd_0b {a0 a1 a2 b0 b1 b2 f : Int32} (o0 : Op7 a0) (o1 : Op7 a1) (o2 : Op7 a2) (p0 : Op7 b0) (p1 : Op7 b1) (p2 : Op7 b2) (hf : Pl f) : nestN 14 (L14 (symF a0 f) (symF a1 f) (symF a2 f) 39 40 58 93 125 f 34 39 (symF b0 f) (symF b1 f) (symF b2 f)) 15 0 0 0 = refG 0 a0 a1 a2 b0 b1 b2 := by
  rw [refG, if_neg (by decide), if_neg (by decide), head3 o0 o1 o2 hf (by decide), skip (al_0b hf (sym_nq p0 hf)) (by decide)]; exact tail3 (g := 7) p0 p1 p2 hf gh
theorem kd_1a {a0 a1 a2 b0 b1 b2 f : Int32} (o0 : Op7 a0) (o1 : Op7 a1) (o2 : Op7 a2) (p0 : Op7 b0) (p1 : Op7 b1) (p2 : Op7 b2) (hf : Pl f) : nestN 14 (L14 (symF a0 f) (symF a1 f) (symF a2 f) 34 34 34 40 39 41 f 34 (symF b0 f) (symF b1 f) (symF b2 f)) 15 0 0 0 = refG 1 a0 a1 a2 b0 b1 b2 := by
  rw [refG, if_neg (by decide), if_neg (by decide), head3 o0 o1 o2 hf (by decide), skip (al_1a hf (sym_nq p0 hf)) (by decide)]; exact tail3 (g := 7) p0 p1 p2 hf gh
theorem kd_1b {a0 a1 a2 b0 b1 b2 f : Int32} (o0 : Op7 a0) (o1 : Op7 a1) (o2 : Op7 a2) (p0 : Op7 b0) (p1 : Op7 b1) (p2 : Op7 b2) (hf : Pl f) : nestN 14 (L14 (symF a0 f) (symF a1 f) (symF a2 f) 39 39 39 40 34 41 f 39 (symF b0 f) (symF b1 f) (symF b2 f)) 15 0 0 0 = refG 1 a0 a1 a2 b0 b1 b2 := by
  rw [refG, if_neg (by decide), if_neg (by decide), head3 o0 o1 o2 hf (by decide), skip (al_1b hf (sym_nq p0 hf)) (by decide)]; exact tail3 (g := 7) p0 p1 p2 hf gh
theorem kd_2a {a0 a1 a2 b0 b1 b2 f : Int32} (o0 : Op7 a0) (o1 : Op7 a1) (o2 : Op7 a2) (p0 : Op7 b0) (p1 : Op7 b1) (p2 : Op7 b2) (hf : Pl f) : nestN 14 (L14 (symF a0 f) (symF a1 f) (symF a2 f) 34 40 91 34 34 f f f (symF b0 f) (symF b1 f) (symF b2 f)) 15 0 0 0 = refG 2 a0 a1 a2 b0 b1 b2 := by
  rw [refG, if_neg (by decide), if_pos (Or.inl rfl), head3 o0 o1 o2 hf (by decide), skip (al_2a hf (sym_nq p0 hf) (sym_nq p1 hf) (sym_nq p2 hf)) (by decide)]; exact nn_0 (by decide)
theorem kd_2b {a0 a1 a2 b0 b1 b2 f : Int32} (o0 : Op7 a0) (o1 : Op7 a1) (o2 : Op7 a2) (p0 : Op7 b0) (p1 : Op7 b1) (p2 : Op7 b2) (hf : Pl f) : nestN 14 (L14 (symF a0 f) (symF a1 f) (symF a2 f) 39 40 91 39 39 f f f (symF b0 f) (symF b1 f) (symF b2 f)) 15 0 0 0 = refG 2 a0 a1 a2 b0 b1 b2 := by
  rw [refG, if_neg (by decide), if_pos (Or.inl rfl), head3 o0 o1 o2 hf (by decide), skip (al_2b hf (sym_nq p0 hf) (sym_nq p1 hf) (sym_nq p2 hf)) (by decide)]; exact nn_0 (by decide)
theorem kd_3 {a0 a1 a2 b0 b1 b2 f : Int32} (o0 : Op7 a0) (o1 : Op7 a1) (o2 : Op7 a2) (p0 : Op7 b0) (p1 : Op7 b1) (p2 : Op7 b2) (hf : Pl f) : nestN 14 (L14 (symF a0 f) (symF a1 f) (symF a2 f) 40 58 40 91 58 41 f f (symF b0 f) (symF b1 f) (symF b2 f)) 15 0 0 0 = refG 3 a0 a1 a2 b0 b1 b2 := by
  rw [refG, if_neg (by decide), if_neg (by decide), head3 o0 o1 o2 hf (by decide), skip al_3 (by decide), nn_pl (f := 10) gh (by decide) hf rfl, nn_pl (f := 9) gh (by decide) hf rfl]; exact tail3 (g := 5) p0 p1 p2 hf gh
theorem kd_4 {a0 a1 a2 b0 b1 b2 f : Int32} (o0 : Op7 a0) (o1 : Op7 a1) (o2 : Op7 a2) (p0 : Op7 b0) (p1 : Op7 b1) (p2 : Op7 b2) (hf : Pl f) : nestN 14 (L14 (symF a0 f) (symF a1 f) (symF a2 f) 40 58 40 58 58 41 58 41 (symF b0 f) (symF b1 f) (symF b2 f)) 15 0 0 0 = refG 4 a0 a1 a2 b0 b1 b2 := by
  rw [refG, if_neg (by decide), if_neg (by decide), head3 o0 o1 o2 hf (by decide), skip al_4 (by decide)]; exact tail3 (g := 7) p0 p1 p2 hf gh
theorem kd_5 {a0 a1 a2 b0 b1 b2 f : Int32} (o0 : Op7 a0) (o1 : Op7 a1) (o2 : Op7 a2) (p0 : Op7 b0) (p1 : Op7 b1) (p2 : Op7 b2) (hf : Pl f) : nestN 14 (L14 (symF a0 f) (symF a1 f) (symF a2 f) 40 58 40 58 f f 58 41 (symF b0 f) (symF b1 f) (symF b2 f)) 15 0 0 0 = refG 5 a0 a1 a2 b0 b1 b2 := by
  rw [refG, if_neg (by decide), if_pos (Or.inr rfl), head3 o0 o1 o2 hf (by decide), skip (al_5 hf (sym_nq p0 hf) (sym_nq p1 hf) (sym_nq p2 hf)) (by decide)]; exact nn_0 (by decide)
theorem kd_6 {a0 a1 a2 b0 b1 b2 f : Int32} (o0 : Op7 a0) (o1 : Op7 a1) (o2 : Op7 a2) (p0 : Op7 b0) (p1 : Op7 b1) (p2 : Op7 b2) (hf : Pl f) : nestN 14 (L14 (symF a0 f) (symF a1 f) (symF a2 f) f 58 41 40 f 58 41 f (symF b0 f) (symF b1 f) (symF b2 f)) 15 0 0 0 = refG 6 a0 a1 a2 b0 b1 b2 := by
  have n6 : ¬ pre 14 (L14 (symF a0 f) (symF a1 f) (symF a2 f) f 58 41 40 f 58 41 f (symF b0 f) (symF b1 f) (symF b2 f)) 6 40 58 := fun z => hf.2.2.2.2.2.2.2.2 z.2.2
  have n5 : ¬ pre 14 (L14 (symF a0 f) (symF a1 f) (symF a2 f) f 58 41 40 f 58 41 f (symF b0 f) (symF b1 f) (symF b2 f)) 5 40 58 := fun z => absurd (show (41 : Int32) = 40 from z.2.1) (by decide)
  have n9 : ¬ pre 14 (L14 (symF a0 f) (symF a1 f) (symF a2 f) f 58 41 40 f 58 41 f (symF b0 f) (symF b1 f) (symF b2 f)) 9 40 58 := fun z => absurd (show (41 : Int32) = 40 from z.2.1) (by decide)
  rw [refG, if_pos rfl, head3 o0 o1 o2 hf hf.2.2.2.2.2.2.2.2, nn_pl (f := 11) gh (by decide) hf rfl, nn_col (f := 10) (by decide) rfl, nn_sym (f := 9) (op := 3) gh (by decide) (Or.inr (Or.inr (Or.inr (Or.inl rfl)))) hf rfl n5,
    nn_sym (f := 8) (op := 0) (Nat.le_max_right _ _) (by decide) (Or.inl rfl) hf rfl n6, nn_pl (f := 7) (Nat.le_max_right _ _) (by decide) hf rfl, nn_col (f := 6) (by decide) rfl, nn_sym (f := 5) (op := 3) (Nat.le_max_right _ _) (by decide) (Or.inr (Or.inr (Or.inr (Or.inl rfl)))) hf rfl n9, nn_pl (f := 4) (Nat.le_max_right _ _) (by decide) hf rfl]
  exact tail3 (g := 0) p0 p1 p2 hf gh
theorem kd_7 {a0 a1 a2 b0 b1 b2 f : Int32} (o0 : Op7 a0) (o1 : Op7 a1) (o2 : Op7 a2) (p0 : Op7 b0) (p1 : Op7 b1) (p2 : Op7 b2) (hf : Pl f) : nestN 14 (L14 (symF a0 f) (symF a1 f) (symF a2 f) f f f f f f f f (symF b0 f) (symF b1 f) (symF b2 f)) 15 0 0 0 = refG 7 a0 a1 a2 b0 b1 b2 := by
  rw [refG, if_neg (by decide), if_neg (by decide), head3 o0 o1 o2 hf hf.2.2.2.2.2.2.2.2, nn_pl (f := 11) gh (by decide) hf rfl, nn_pl (f := 10) gh (by decide) hf rfl, nn_pl (f := 9) gh (by decide) hf rfl, nn_pl (f := 8) gh (by decide) hf rfl, nn_pl (f := 7) gh (by decide) hf rfl, nn_pl (f := 6) gh (by decide) hf rfl, nn_pl (f := 5) gh (by decide) hf rfl, nn_pl (f := 4) gh (by decide) hf rfl]; exact tail3 (g := 0) p0 p1 p2 hf gh
theorem op7_of {y : Int32} (h : ¬ y < 0) : Op7 (y % 7) := by
  rw [Int32.lt_iff_toInt_lt] at h
  have e0 : (0 : Int32).toInt = 0 := rfl
  have e : (y % 7).toInt = y.toInt.tmod 7 := by rw [Int32.toInt_mod]; rfl
  have e2 : y.toInt.tmod 7 = y.toInt % 7 := Int.tmod_eq_emod_of_nonneg (by omega)
  have : (y % 7).toInt = 0 ∨ (y % 7).toInt = 1 ∨ (y % 7).toInt = 2 ∨ (y % 7).toInt = 3 ∨ (y % 7).toInt = 4 ∨ (y % 7).toInt = 5 ∨ (y % 7).toInt = 6 := by omega
  rcases this with q | q | q | q | q | q | q
  · exact Or.inl (Int32.toInt_inj.mp (q.trans rfl))
  · exact Or.inr (Or.inl (Int32.toInt_inj.mp (q.trans rfl)))
  · exact Or.inr (Or.inr (Or.inl (Int32.toInt_inj.mp (q.trans rfl))))
  · exact Or.inr (Or.inr (Or.inr (Or.inl (Int32.toInt_inj.mp (q.trans rfl)))))
  · exact Or.inr (Or.inr (Or.inr (Or.inr (Or.inl (Int32.toInt_inj.mp (q.trans rfl))))))
  · exact Or.inr (Or.inr (Or.inr (Or.inr (Or.inr (Or.inl (Int32.toInt_inj.mp (q.trans rfl)))))))
  · exact Or.inr (Or.inr (Or.inr (Or.inr (Or.inr (Or.inr (Int32.toInt_inj.mp (q.trans rfl)))))))
theorem msk_nn (x : Int32) : ¬ (x &&& 2147483647) < 0 := by
  have hb : (x &&& 2147483647).toBitVec.toNat ≤ 2147483647 := by rw [Int32.toBitVec_and, BitVec.toNat_and]; exact Nat.and_le_right
  have hx : (x &&& 2147483647).toInt = (x &&& 2147483647).toBitVec.toNat := by
    rw [← Int32.toInt_toBitVec, BitVec.toInt_eq_toNat_of_lt (by omega)]
  rw [Int32.lt_iff_toInt_lt, hx]; have : (0 : Int32).toInt = 0 := rfl
  omega
theorem div_nn {y c : Int32} (h : ¬ y < 0) (hc : 0 < c.toInt) : ¬ y / c < 0 := by
  rw [Int32.lt_iff_toInt_lt] at h ⊢
  have e0 : (0 : Int32).toInt = 0 := rfl
  have e : (y / c).toInt = y.toInt.tdiv c.toInt := Int32.toInt_div_of_ne_right _ _ (fun z => by rw [z] at hc; exact absurd hc (by decide))
  have : 0 ≤ y.toInt.tdiv c.toInt := Int.tdiv_nonneg (by omega) (by omega)
  omega
set_option maxRecDepth 65536 in
set_option maxHeartbeats 40000000 in
theorem rm_coder (l : Launch) (Z : State) (a0 : Array Value) (hw : ∀ d ∈ tables_1, d.before a0 Z = true) (n0 : Nat) (h0 : Heap) (X0 : Old Z n0 h0) (x : Addr) (zc : Int32) (Sc : Sta Z Z.heap "java/lang/String" "COMPACT_STRINGS" "Z" (.int zc)) (nzc : ¬ zc = 0) (Fc : Fld Z h0 x "java/lang/String" "coder" "B" (.int 0)) :
    Met l Z n0 (⟨"java/lang/String", "coder", "()B"⟩ : MethodName) jdk_42_method_152_code 1 (some .byte) ({ frames := 0, cells := 0, slots := 0, locals := 0 } : Room) #[(.ref x)] h0 (fun v h => v = some (.int 0) ∧ h = h0) := by
  refine met_of (plainFor_of_name pn_0) hw (L := #[.val (.ref x)]) (fun m => by first | (simp [entryFrame, mkF, argsToLocals, Value.category]; done) | rfl) fun C hl hwd hE hPL hcs hr o => ?_
  subst hl
  have o : Ok C Z a0 jdk_42_method_152_code 1 (some .byte) "coder" "java/lang/String" ({ frames := 0, cells := 0, slots := 0, locals := 0 } : Room) := o
  refine g_getS o (pc := 0) d_jdk_42_method_152_0 (wd_25 hw) Via.refl (Sc.ext X0.2) ?_
  refine g_ifC o (pc := 3) d_jdk_42_method_152_3 (t := 13) (by decide) rfl c_eq (fun hy1 => absurd hy1 nzc) (fun _ => ?_)
  refine g_aload_n o (pc := 6) d_jdk_42_method_152_6 rfl rfl ?_
  refine g_getF o (pc := 7) d_jdk_42_method_152_7 (wd_37 hw) Via.refl Fc ?_
  refine g_goto o (pc := 10) d_jdk_42_method_152_10 (t := 14) (by decide) rfl ?_
  refine g_nreturn o (pc := 14) (by simp) d_jdk_42_method_152_14 (y := 0) rfl ?_ (by decide) (by decide)
  exact ⟨rfl, rfl⟩
set_option maxRecDepth 65536 in
set_option maxHeartbeats 40000000 in
theorem rm_mis (l : Launch) (Z : State) (a0 : Array Value) (hw : ∀ d ∈ tables_1, d.before a0 Z = true) (n0 : Nat) (h0 : Heap) (X0 : Old Z n0 h0) (t : Addr) (u : Addr) (kt : ClassId) (ku : ClassId) (cs : List Int32) (i : Nat) (y0 : Int32) (y1 : Int32) (Kt : Arv Z h0 t kt .byte 14 ((cs.map fun c => c.toInt8.toInt32).map Value.int) (.int 0)) (Ku : Arv Z h0 u ku .byte 2 [.int y0, .int y1] (.int 0)) (hlen : cs.length = 14) (hi : i + 2 ≤ 14) :
    Met l Z n0 (⟨"jdk/internal/util/ArraysSupport", "mismatch", "([BI[BII)I"⟩ : MethodName) jdk_48_method_14_code 8 (some .int) ({ frames := 0, cells := 0, slots := 0, locals := 0 } : Room) #[(.ref t), (.int (Int32.ofNat i)), (.ref u), (.int 0), (.int 2)] h0 (fun v h => v = some (.int (mis (cs.getD i 0).toInt8.toInt32 (cs.getD (i + 1) 0).toInt8.toInt32 y0 y1)) ∧ h = h0) := by
  refine met_of (plainFor_of_name pn_1) hw (L := #[.val (.ref t), .val (.int (Int32.ofNat i)), .val (.ref u), .val (.int 0), .val (.int 2), .unset, .unset, .unset]) (fun m => by first | (simp [entryFrame, mkF, argsToLocals, Value.category]; done) | rfl) fun C hl hwd hE hPL hcs hr o => ?_
  subst hl
  have o : Ok C Z a0 jdk_48_method_14_code 8 (some .int) "mismatch" "jdk/internal/util/ArraysSupport" ({ frames := 0, cells := 0, slots := 0, locals := 0 } : Room) := o
  refine g_iconst o (pc := 0) d_jdk_48_method_14_0 (v := 0) rfl ?_
  refine g_istore o (pc := 1) d_jdk_48_method_14_1 (L' := #[.val (.ref t), .val (.int (Int32.ofNat i)), .val (.ref u), .val (.int 0), .val (.int 2), .val (.int 0), .unset, .unset]) rfl ?_
  refine g_iload o (pc := 3) d_jdk_48_method_14_3 rfl ?_
  refine g_bipush o (pc := 5) d_jdk_48_method_14_5 (v := 7) rfl ?_
  refine g_icmpN o (pc := 7) d_jdk_48_method_14_7 (t := 70) (by decide) rfl c_le (fun _ => ?_) (fun hn1 => absurd hn1 (by decide))
  refine g_iload o (pc := 70) d_jdk_48_method_14_70 rfl ?_
  refine g_iload o (pc := 72) d_jdk_48_method_14_72 rfl ?_
  refine g_icmpN o (pc := 74) d_jdk_48_method_14_74 (t := 101) (by decide) rfl c_ge (fun hy2 => absurd (by decide) hy2) (fun _ => ?_)
  refine g_aload_n o (pc := 77) d_jdk_48_method_14_77 rfl rfl ?_
  refine g_iload_n o (pc := 78) d_jdk_48_method_14_78 rfl ?_
  refine g_iload o (pc := 79) d_jdk_48_method_14_79 rfl ?_
  refine g_iadd o (pc := 81) d_jdk_48_method_14_81 (v := (Int32.ofNat i)) (Int32.add_zero _) ?_
  refine g_bbload o (pc := 82) d_jdk_48_method_14_82 Kt (len_mapb hlen (by decide)) (n_nn (Nat.lt_trans (m := 14) (by omega) (by decide))) (i := i) (n_clamp (Nat.lt_trans (m := 14) (by omega) (by decide))) (lt_mapb hlen (by omega)) (v := .int (cs.getD i 0).toInt8.toInt32) getD_byte ?_
  refine g_aload_n o (pc := 83) d_jdk_48_method_14_83 rfl rfl ?_
  refine g_iload_n o (pc := 84) d_jdk_48_method_14_84 rfl ?_
  refine g_iload o (pc := 85) d_jdk_48_method_14_85 rfl ?_
  refine g_iadd o (pc := 87) d_jdk_48_method_14_87 (v := 0) (by decide) ?_
  refine g_bbload o (pc := 88) d_jdk_48_method_14_88 Ku rfl (by decide) (i := 0) rfl (Nat.le_of_ble_eq_true rfl) (v := .int y0) rfl ?_
  refine g_icmp o (pc := 89) d_jdk_48_method_14_89 (t := 95) (by decide) rfl c_eq (fun hy3 => ?_) (fun hn4 => ?_)
  · refine g_iinc o (pc := 95) d_jdk_48_method_14_95 rfl (w := 1) (by decide) (L' := #[.val (.ref t), .val (.int (Int32.ofNat i)), .val (.ref u), .val (.int 0), .val (.int 2), .val (.int 1), .unset, .unset]) rfl ?_
    refine g_goto o (pc := 98) d_jdk_48_method_14_98 (t := 70) (by decide) rfl ?_
    refine g_iload o (pc := 70) d_jdk_48_method_14_70 rfl ?_
    refine g_iload o (pc := 72) d_jdk_48_method_14_72 rfl ?_
    refine g_icmpN o (pc := 74) d_jdk_48_method_14_74 (t := 101) (by decide) rfl c_ge (fun hy5 => absurd (by decide) hy5) (fun _ => ?_)
    refine g_aload_n o (pc := 77) d_jdk_48_method_14_77 rfl rfl ?_
    refine g_iload_n o (pc := 78) d_jdk_48_method_14_78 rfl ?_
    refine g_iload o (pc := 79) d_jdk_48_method_14_79 rfl ?_
    refine g_iadd o (pc := 81) d_jdk_48_method_14_81 (v := (Int32.ofNat (i + 1))) (n_add i 1) ?_
    refine g_bbload o (pc := 82) d_jdk_48_method_14_82 Kt (len_mapb hlen (by decide)) (n_nn (Nat.lt_trans (m := 14) (by omega) (by decide))) (i := i + 1) (n_clamp (Nat.lt_trans (m := 14) (by omega) (by decide))) (lt_mapb hlen (by omega)) (v := .int (cs.getD (i + 1) 0).toInt8.toInt32) getD_byte ?_
    refine g_aload_n o (pc := 83) d_jdk_48_method_14_83 rfl rfl ?_
    refine g_iload_n o (pc := 84) d_jdk_48_method_14_84 rfl ?_
    refine g_iload o (pc := 85) d_jdk_48_method_14_85 rfl ?_
    refine g_iadd o (pc := 87) d_jdk_48_method_14_87 (v := 1) (by decide) ?_
    refine g_bbload o (pc := 88) d_jdk_48_method_14_88 Ku rfl (by decide) (i := 1) rfl (Nat.le_of_ble_eq_true rfl) (v := .int y1) rfl ?_
    refine g_icmp o (pc := 89) d_jdk_48_method_14_89 (t := 95) (by decide) rfl c_eq (fun hy6 => ?_) (fun hn7 => ?_)
    · refine g_iinc o (pc := 95) d_jdk_48_method_14_95 rfl (w := 2) (by decide) (L' := #[.val (.ref t), .val (.int (Int32.ofNat i)), .val (.ref u), .val (.int 0), .val (.int 2), .val (.int 2), .unset, .unset]) rfl ?_
      refine g_goto o (pc := 98) d_jdk_48_method_14_98 (t := 70) (by decide) rfl ?_
      refine g_iload o (pc := 70) d_jdk_48_method_14_70 rfl ?_
      refine g_iload o (pc := 72) d_jdk_48_method_14_72 rfl ?_
      refine g_icmpN o (pc := 74) d_jdk_48_method_14_74 (t := 101) (by decide) rfl c_ge (fun _ => ?_) (fun hn8 => absurd hn8 (by decide))
      refine g_iconst o (pc := 101) d_jdk_48_method_14_101 (v := (-1)) rfl ?_
      refine g_ireturn o (pc := 102) d_jdk_48_method_14_102 ?_ (by decide) (by decide)
      exact ⟨by rw [mis, if_pos hy3, if_pos hy6], rfl⟩
    · refine g_iload o (pc := 92) d_jdk_48_method_14_92 rfl ?_
      refine g_ireturn o (pc := 94) d_jdk_48_method_14_94 ?_ (by decide) (by decide)
      exact ⟨by rw [mis, if_pos hy3, if_neg hn7], rfl⟩
  · refine g_iload o (pc := 92) d_jdk_48_method_14_92 rfl ?_
    refine g_ireturn o (pc := 94) d_jdk_48_method_14_94 ?_ (by decide) (by decide)
    exact ⟨by rw [mis, if_neg hn4], rfl⟩
set_option maxRecDepth 65536 in
set_option maxHeartbeats 40000000 in
theorem rm_sw (l : Launch) (Z : State) (a0 : Array Value) (hw : ∀ d ∈ tables_1, d.before a0 Z = true) (n0 : Nat) (h0 : Heap) (X0 : Old Z n0 h0) (x : Addr) (y : Addr) (cs : List Int32) (a : Int32) (b : Int32) (i : Nat) (zc : Int32) (Sc : Sta Z Z.heap "java/lang/String" "COMPACT_STRINGS" "Z" (.int zc)) (nzc : ¬ zc = 0) (Sx : Str Z h0 x cs) (hlen : cs.length = 14) (Sy : Str Z h0 y [a, b]) (hi : i ≤ 14) :
    Met l Z n0 (⟨"java/lang/String", "startsWith", "(Ljava/lang/String;I)Z"⟩ : MethodName) jdk_42_method_75_code 8 (some .boolean) ({ frames := 2, cells := 0, slots := 0, locals := 27 } : Room) #[(.ref x), (.ref y), (.int (Int32.ofNat i))] h0 (fun v h => v = some (.int (if pre 14 cs i a b then 1 else 0)) ∧ h = h0) := by
  refine met_of (plainFor_of_name pn_0) hw (L := #[.val (.ref x), .val (.ref y), .val (.int (Int32.ofNat i)), .unset, .unset, .unset, .unset, .unset]) (fun m => by first | (simp [entryFrame, mkF, argsToLocals, Value.category]; done) | rfl) fun C hl hwd hE hPL hcs hr o => ?_
  subst hl
  have o : Ok C Z a0 jdk_42_method_75_code 8 (some .boolean) "startsWith" "java/lang/String" ({ frames := 2, cells := 0, slots := 0, locals := 27 } : Room) := o
  obtain ⟨Ax, Fx, px, t, kt, Vx, Kt⟩ := id Sx
  obtain ⟨Ay, Fy, py, u, ku, Vy, Ku⟩ := id Sy
  have Kt : Arv Z h0 t kt .byte 14 ((cs.map fun c => c.toInt8.toInt32).map Value.int) (.int 0) := by rw [hlen] at Kt; exact Kt
  have Ku : Arv Z h0 u ku .byte 2 [.int a.toInt8.toInt32, .int b.toInt8.toInt32] (.int 0) := Ku
  refine g_iload_n o (pc := 0) d_jdk_42_method_75_0 rfl ?_
  refine g_ifC o (pc := 1) d_jdk_42_method_75_1 (t := 17) (by decide) rfl c_lt (fun hy1 => absurd hy1 (n_nn (by omega))) (fun _ => ?_)
  refine g_iload_n o (pc := 4) d_jdk_42_method_75_4 rfl ?_
  refine g_aload_n o (pc := 5) d_jdk_42_method_75_5 rfl rfl ?_
  refine g_virtual o (pc := 6) x [] [(.int (Int32.ofNat i))] d_jdk_42_method_75_6 (wd_88 hw) (wd_46 hw) (wd_48 hw) (wd_47 hw) (fun _ q => notFace_of_selects q) (by decide) Ax (W := 1) (kc := 0) (ks := 0) (backLen o (wd_13 hw) Sc nzc X0 Sx (by rw [hlen]; decide) (by decide) (by decide)) (fun _ _ _ q => q) (Or.inl hE) pd_0 rfl rfl rfl rfl (by decide) (by decide) fun v2 h3 q4 => ?_
  obtain ⟨rfl, hh⟩ := q4
  obtain rfl := hh.symm
  show Go C Z n0 (fun v h => v = some (.int (if pre 14 cs i a b then 1 else 0)) ∧ h = h0) [] h0 0 0 9 #[.val (.ref x), .val (.ref y), .val (.int (Int32.ofNat i)), .unset, .unset, .unset, .unset, .unset] [(.int (Int32.ofNat cs.length)), (.int (Int32.ofNat i))]
  rw [hlen]
  show Go C Z n0 (fun v h => v = some (.int (if pre 14 cs i a b then 1 else 0)) ∧ h = h0) [] h0 0 0 9 #[.val (.ref x), .val (.ref y), .val (.int (Int32.ofNat i)), .unset, .unset, .unset, .unset, .unset] [(.int 14), (.int (Int32.ofNat i))]
  refine g_aload_n o (pc := 9) d_jdk_42_method_75_9 rfl rfl ?_
  refine g_virtual o (pc := 10) y [] [(.int 14), (.int (Int32.ofNat i))] d_jdk_42_method_75_10 (wd_88 hw) (wd_46 hw) (wd_48 hw) (wd_47 hw) (fun _ q => notFace_of_selects q) (by decide) Ay (W := 2) (kc := 0) (ks := 0) (backLen o (wd_13 hw) Sc nzc X0 Sy (Nat.le_of_ble_eq_true rfl) (by decide) (by decide)) (fun _ _ _ q => q) (Or.inl hE) pd_0 rfl rfl rfl rfl (by decide) (by decide) fun v5 h6 q7 => ?_
  obtain ⟨rfl, hh⟩ := q7
  obtain rfl := hh.symm
  show Go C Z n0 (fun v h => v = some (.int (if pre 14 cs i a b then 1 else 0)) ∧ h = h0) [] h0 0 0 13 #[.val (.ref x), .val (.ref y), .val (.int (Int32.ofNat i)), .unset, .unset, .unset, .unset, .unset] [(.int 2), (.int 14), (.int (Int32.ofNat i))]
  refine g_isub o (pc := 13) d_jdk_42_method_75_13 (v := 12) (by decide) ?_
  refine g_icmpN o (pc := 14) d_jdk_42_method_75_14 (t := 19) (by decide) rfl c_le (fun hy8 => ?_) (fun hn9 => ?_)
  · refine g_aload_n o (pc := 19) d_jdk_42_method_75_19 rfl rfl ?_
    refine g_getF o (pc := 20) d_jdk_42_method_75_20 (wd_39 hw) Via.refl Vx ?_
    refine g_astore_n o (pc := 23) d_jdk_42_method_75_23 rfl (L' := #[.val (.ref x), .val (.ref y), .val (.int (Int32.ofNat i)), .val (.ref t), .unset, .unset, .unset, .unset]) rfl ?_
    refine g_aload_n o (pc := 24) d_jdk_42_method_75_24 rfl rfl ?_
    refine g_getF o (pc := 25) d_jdk_42_method_75_25 (wd_39 hw) Via.refl Vy ?_
    refine g_astore o (pc := 28) d_jdk_42_method_75_28 rfl (L' := #[.val (.ref x), .val (.ref y), .val (.int (Int32.ofNat i)), .val (.ref t), .val (.ref u), .unset, .unset, .unset]) rfl ?_
    refine g_iconst o (pc := 30) d_jdk_42_method_75_30 (v := 0) rfl ?_
    refine g_istore o (pc := 31) d_jdk_42_method_75_31 (L' := #[.val (.ref x), .val (.ref y), .val (.int (Int32.ofNat i)), .val (.ref t), .val (.ref u), .val (.int 0), .unset, .unset]) rfl ?_
    refine g_aload o (pc := 33) d_jdk_42_method_75_33 rfl rfl ?_
    refine g_alen o (pc := 35) d_jdk_42_method_75_35 Ku ?_
    refine g_istore o (pc := 36) d_jdk_42_method_75_36 (L' := #[.val (.ref x), .val (.ref y), .val (.int (Int32.ofNat i)), .val (.ref t), .val (.ref u), .val (.int 0), .val (.int 2), .unset]) rfl ?_
    refine g_aload_n o (pc := 38) d_jdk_42_method_75_38 rfl rfl ?_
    refine g_virtual o (pc := 39) x [] [] d_jdk_42_method_75_39 (wd_50 hw) (wd_51 hw) (wd_53 hw) (wd_52 hw) (fun _ q => notFace_of_selects q) (by decide) Ax (Met.back o (W := 0) (rm_coder C.l Z a0 hw n0 h0 X0 x zc Sc nzc Sx.2.1) (wd_54 hw) (wd_14 hw) (by decide) (by decide)) (fun _ _ _ q => q) (Or.inl hE) pd_1 rfl rfl rfl rfl (by decide) (by decide) fun v10 h11 q12 => ?_
    obtain ⟨rfl, hh⟩ := q12
    obtain rfl := hh.symm
    show Go C Z n0 (fun v h => v = some (.int (if pre 14 cs i a b then 1 else 0)) ∧ h = h0) [] h0 0 0 42 #[.val (.ref x), .val (.ref y), .val (.int (Int32.ofNat i)), .val (.ref t), .val (.ref u), .val (.int 0), .val (.int 2), .unset] [(.int 0)]
    refine g_istore o (pc := 42) d_jdk_42_method_75_42 (L' := #[.val (.ref x), .val (.ref y), .val (.int (Int32.ofNat i)), .val (.ref t), .val (.ref u), .val (.int 0), .val (.int 2), .val (.int 0)]) rfl ?_
    refine g_iload o (pc := 44) d_jdk_42_method_75_44 rfl ?_
    refine g_aload_n o (pc := 46) d_jdk_42_method_75_46 rfl rfl ?_
    refine g_virtual o (pc := 47) y [] [(.int 0)] d_jdk_42_method_75_47 (wd_50 hw) (wd_51 hw) (wd_53 hw) (wd_52 hw) (fun _ q => notFace_of_selects q) (by decide) Ay (Met.back o (W := 1) (rm_coder C.l Z a0 hw n0 h0 X0 y zc Sc nzc Sy.2.1) (wd_54 hw) (wd_14 hw) (by decide) (by decide)) (fun _ _ _ q => q) (Or.inl hE) pd_1 rfl rfl rfl rfl (by decide) (by decide) fun v13 h14 q15 => ?_
    obtain ⟨rfl, hh⟩ := q15
    obtain rfl := hh.symm
    show Go C Z n0 (fun v h => v = some (.int (if pre 14 cs i a b then 1 else 0)) ∧ h = h0) [] h0 0 0 50 #[.val (.ref x), .val (.ref y), .val (.int (Int32.ofNat i)), .val (.ref t), .val (.ref u), .val (.int 0), .val (.int 2), .val (.int 0)] [(.int 0), (.int 0)]
    refine g_icmpN o (pc := 50) d_jdk_42_method_75_50 (t := 82) (by decide) rfl c_ne (fun hy16 => absurd rfl hy16) (fun _ => ?_)
    refine g_iload o (pc := 53) d_jdk_42_method_75_53 rfl ?_
    refine g_iconst o (pc := 55) d_jdk_42_method_75_55 (v := 1) rfl ?_
    refine g_icmpN o (pc := 56) d_jdk_42_method_75_56 (t := 63) (by decide) rfl c_ne (fun _ => ?_) (fun hn17 => absurd hn17 (by decide))
    refine g_aload_n o (pc := 63) d_jdk_42_method_75_63 rfl rfl ?_
    refine g_iload_n o (pc := 64) d_jdk_42_method_75_64 rfl ?_
    refine g_aload o (pc := 65) d_jdk_42_method_75_65 rfl rfl ?_
    refine g_iconst o (pc := 67) d_jdk_42_method_75_67 (v := 0) rfl ?_
    refine g_iload o (pc := 68) d_jdk_42_method_75_68 rfl ?_
    have hi2 : i + 2 ≤ 14 := by have := mt (n_lt (i := 12) (j := i) (by decide) (by omega)).mpr hy8; omega
    refine g_static o (pc := 70) [(.ref t), (.int (Int32.ofNat i)), (.ref u), (.int 0), (.int 2)] [] d_jdk_42_method_75_70 (wd_89 hw) (wd_90 hw) (wd_91 hw) (wd_92 hw) (by decide) (Met.back o (W := 0) (rm_mis C.l Z a0 hw n0 h0 X0 t u kt ku cs i a.toInt8.toInt32 b.toInt8.toInt32 Kt Ku hlen hi2) (wd_92 hw) (wd_91 hw) (by decide) (by decide)) (fun _ _ _ q => q) (Or.inl hE) pd_2 rfl rfl rfl rfl (by decide) (by decide) fun v18 h19 q20 => ?_
    obtain ⟨rfl, hh⟩ := q20
    obtain rfl := hh.symm
    show Go C Z n0 (fun v h => v = some (.int (if pre 14 cs i a b then 1 else 0)) ∧ h = h0) [] h0 0 0 73 #[.val (.ref x), .val (.ref y), .val (.int (Int32.ofNat i)), .val (.ref t), .val (.ref u), .val (.int 0), .val (.int 2), .val (.int 0)] [(.int (mis (cs.getD i 0).toInt8.toInt32 (cs.getD (i + 1) 0).toInt8.toInt32 a.toInt8.toInt32 b.toInt8.toInt32))]
    refine g_ifCN o (pc := 73) d_jdk_42_method_75_73 (t := 80) (by decide) rfl c_ge (fun hy21 => ?_) (fun hn22 => ?_)
    · refine g_iconst o (pc := 80) d_jdk_42_method_75_80 (v := 0) rfl ?_
      refine g_nreturn o (pc := 81) (by simp) d_jdk_42_method_75_81 (y := 0) rfl ?_ (by decide) (by decide)
      exact ⟨by rw [if_neg (mt (mis_pre (n := 14) (cs := cs) (i := i) (a := a) (b := b) px (py a (by simp)) (py b (by simp)) hi2).mpr hy21)], rfl⟩
    · refine g_iconst o (pc := 76) d_jdk_42_method_75_76 (v := 1) rfl ?_
      refine g_goto o (pc := 77) d_jdk_42_method_75_77 (t := 81) (by decide) rfl ?_
      refine g_nreturn o (pc := 81) (by simp) d_jdk_42_method_75_81 (y := 1) rfl ?_ (by decide) (by decide)
      exact ⟨by rw [if_pos ((mis_pre (n := 14) (cs := cs) (i := i) (a := a) (b := b) px (py a (by simp)) (py b (by simp)) hi2).mp hn22)], rfl⟩
  · refine g_iconst o (pc := 17) d_jdk_42_method_75_17 (v := 0) rfl ?_
    refine g_nreturn o (pc := 18) (by simp) d_jdk_42_method_75_18 (y := 0) rfl ?_ (by decide) (by decide)
    exact ⟨by rw [if_neg (fun z : pre _ _ _ _ _ => by have := z.1; have := (n_lt (i := 12) (j := i) (by decide) (by omega)).mp hn9; omega)], rfl⟩
set_option maxRecDepth 65536 in
set_option maxHeartbeats 40000000 in
theorem lp_lit {C : Cx} {Z : State} {a0 : Array Value} (hw : ∀ d ∈ tables_1, d.before a0 Z = true) (hE : C.EL = []) (hPL : C.PL = []) (hcs : C.cs = 0) (hwd : C.wide = false) (n0 : Nat) (o : Ok C Z a0 prog_2_method_4_code 5 (some .int) "endOfLiteral" "com/example/enact/enact/compiler/XPathText" ({ frames := 4, cells := 0, slots := 0, locals := 56 } : Room)) (h0 : Heap) (X0 : Old Z n0 h0) (x : Addr) (cs : List Int32) (s : Nat) (q : Int32) (R : Nat) (zc : Int32) (fm : Value) (Sc : Sta Z Z.heap "java/lang/String" "COMPACT_STRINGS" "Z" (.int zc)) (nzc : ¬ zc = 0) (Sf : Sta Z Z.heap "jdk/internal/util/Preconditions" "SIOOBE_FORMATTER" "Ljava/util/function/BiFunction;" fm) (rf : fm.isRef = true) (Sx : Str Z h0 x cs) (hlen : cs.length = 14) :
    ∀ (f : Nat) (i : Nat) (s4 : Slot), (s4 = .unset ∨ ∃ w, s4 = .val w ∧ w.category = 1) → (i ≤ 14) → (14 - i < f) → (litF 14 cs q f i = R) → Go C Z n0 (fun v h => v = some (.int (Int32.ofNat R)) ∧ h = h0) [] h0 0 0 10 #[.val (.ref x), .val (.int (Int32.ofNat s)), .val (.int q), .val (.int (Int32.ofNat i)), s4] [] := by
  intro f
  induction f with
  | zero => intro i s4 h4 hi hf hR; exfalso; omega
  | succ f ih =>
    intro i s4 h4 hi hf hR
    refine g_iload_n o (pc := 10) d_prog_2_method_4_10 rfl ?_
    refine g_aload_n o (pc := 11) d_prog_2_method_4_11 rfl rfl ?_
    refine g_virtual o (pc := 12) x [] [(.int (Int32.ofNat i))] d_prog_2_method_4_12 (wd_45 hw) (wd_46 hw) (wd_48 hw) (wd_47 hw) (fun _ q => notFace_of_selects q) (by decide) Sx.exa (W := 1) (kc := 0) (ks := 0) (backLen o (wd_13 hw) Sc nzc X0 Sx (by rw [hlen]; decide) (by decide) (by decide)) (fun _ _ _ q => q) (Or.inl hE) pd_0 rfl rfl rfl rfl (by decide) (by decide) fun v1 h2 q3 => ?_
    obtain ⟨rfl, hh⟩ := q3
    obtain rfl := hh.symm
    show Go C Z n0 (fun v h => v = some (.int (Int32.ofNat R)) ∧ h = h0) [] h0 0 0 15 #[.val (.ref x), .val (.int (Int32.ofNat s)), .val (.int q), .val (.int (Int32.ofNat i)), s4] [(.int (Int32.ofNat cs.length)), (.int (Int32.ofNat i))]
    rw [hlen]
    show Go C Z n0 (fun v h => v = some (.int (Int32.ofNat R)) ∧ h = h0) [] h0 0 0 15 #[.val (.ref x), .val (.int (Int32.ofNat s)), .val (.int q), .val (.int (Int32.ofNat i)), s4] [(.int 14), (.int (Int32.ofNat i))]
    refine g_icmpN o (pc := 15) d_prog_2_method_4_15 (t := 84) (by decide) rfl c_ge (fun hy4 => ?_) (fun hn5 => ?_)
    · refine g_iload_n o (pc := 84) d_prog_2_method_4_84 rfl ?_
      refine g_ireturn o (pc := 85) d_prog_2_method_4_85 ?_ (by decide) (by decide)
      exact ⟨congrArg (fun z => some (Value.int (Int32.ofNat z))) ((litF_0 (mt (n_lt (i := i) (j := 14) (by omega) (by omega)).mpr hy4)).symm.trans hR), rfl⟩
    · refine g_iload_n o (pc := 18) d_prog_2_method_4_18 rfl ?_
      refine g_iconst o (pc := 19) d_prog_2_method_4_19 (v := 1) rfl ?_
      refine g_iadd o (pc := 20) d_prog_2_method_4_20 (v := (Int32.ofNat (i + 1))) (n_add i 1) ?_
      refine g_aload_n o (pc := 21) d_prog_2_method_4_21 rfl rfl ?_
      refine g_virtual o (pc := 22) x [] [(.int (Int32.ofNat (i + 1)))] d_prog_2_method_4_22 (wd_45 hw) (wd_46 hw) (wd_48 hw) (wd_47 hw) (fun _ q => notFace_of_selects q) (by decide) Sx.exa (W := 1) (kc := 0) (ks := 0) (backLen o (wd_13 hw) Sc nzc X0 Sx (by rw [hlen]; decide) (by decide) (by decide)) (fun _ _ _ q => q) (Or.inl hE) pd_0 rfl rfl rfl rfl (by decide) (by decide) fun v6 h7 q8 => ?_
      obtain ⟨rfl, hh⟩ := q8
      obtain rfl := hh.symm
      show Go C Z n0 (fun v h => v = some (.int (Int32.ofNat R)) ∧ h = h0) [] h0 0 0 25 #[.val (.ref x), .val (.int (Int32.ofNat s)), .val (.int q), .val (.int (Int32.ofNat i)), s4] [(.int (Int32.ofNat cs.length)), (.int (Int32.ofNat (i + 1)))]
      rw [hlen]
      show Go C Z n0 (fun v h => v = some (.int (Int32.ofNat R)) ∧ h = h0) [] h0 0 0 25 #[.val (.ref x), .val (.int (Int32.ofNat s)), .val (.int q), .val (.int (Int32.ofNat i)), s4] [(.int 14), (.int (Int32.ofNat (i + 1)))]
      refine g_icmpN o (pc := 25) d_prog_2_method_4_25 (t := 43) (by decide) rfl c_ge (fun hy9 => ?_) (fun hn10 => ?_)
      · refine g_iconst o (pc := 43) d_prog_2_method_4_43 (v := 0) rfl ?_
        refine g_istore o (pc := 44) d_prog_2_method_4_44 (L' := #[.val (.ref x), .val (.int (Int32.ofNat s)), .val (.int q), .val (.int (Int32.ofNat i)), .val (.int 0)]) (store_cat rfl h4 rfl rfl) ?_
        refine g_aload_n o (pc := 46) d_prog_2_method_4_46 rfl rfl ?_
        refine g_iload_n o (pc := 47) d_prog_2_method_4_47 rfl ?_
        refine g_virtual o (pc := 48) x [(.int (Int32.ofNat i))] [] d_prog_2_method_4_48 (wd_55 hw) (wd_56 hw) (wd_58 hw) (wd_57 hw) (fun _ q => notFace_of_selects q) (by decide) Sx.exa (W := 0) (kc := 0) (ks := 0) (backCh o (wd_13 hw) Sc nzc Sf rf X0 Sx (by rw [hlen]; decide) (i := i) (by rw [hlen]; exact ((n_lt (i := i) (j := 14) (by omega) (by omega)).mp hn5)) rfl (by decide) (by decide)) (fun _ _ _ q => q) (Or.inl hE) pd_3 rfl rfl rfl rfl (by decide) (by decide) fun v11 h12 q13 => ?_
        obtain ⟨rfl, hh⟩ := q13
        obtain rfl := hh.symm
        show Go C Z n0 (fun v h => v = some (.int (Int32.ofNat R)) ∧ h = h0) [] h0 0 0 51 #[.val (.ref x), .val (.int (Int32.ofNat s)), .val (.int q), .val (.int (Int32.ofNat i)), .val (.int 0)] [(.int (cs.getD i 0))]
        refine g_iload_n o (pc := 51) d_prog_2_method_4_51 rfl ?_
        refine g_icmpN o (pc := 52) d_prog_2_method_4_52 (t := 64) (by decide) rfl c_ne (fun hy14 => ?_) (fun hn15 => ?_)
        · refine g_iload_n o (pc := 64) d_prog_2_method_4_64 rfl ?_
          refine g_aload_n o (pc := 65) d_prog_2_method_4_65 rfl rfl ?_
          refine g_iload_n o (pc := 66) d_prog_2_method_4_66 rfl ?_
          refine g_virtual o (pc := 67) x [(.int (Int32.ofNat i))] [(.int (Int32.ofNat i))] d_prog_2_method_4_67 (wd_55 hw) (wd_56 hw) (wd_58 hw) (wd_57 hw) (fun _ q => notFace_of_selects q) (by decide) Sx.exa (W := 1) (kc := 0) (ks := 0) (backCh o (wd_13 hw) Sc nzc Sf rf X0 Sx (by rw [hlen]; decide) (i := i) (by rw [hlen]; exact ((n_lt (i := i) (j := 14) (by omega) (by omega)).mp hn5)) rfl (by decide) (by decide)) (fun _ _ _ q => q) (Or.inl hE) pd_3 rfl rfl rfl rfl (by decide) (by decide) fun v16 h17 q18 => ?_
          obtain ⟨rfl, hh⟩ := q18
          obtain rfl := hh.symm
          show Go C Z n0 (fun v h => v = some (.int (Int32.ofNat R)) ∧ h = h0) [] h0 0 0 70 #[.val (.ref x), .val (.int (Int32.ofNat s)), .val (.int q), .val (.int (Int32.ofNat i)), .val (.int 0)] [(.int (cs.getD i 0)), (.int (Int32.ofNat i))]
          refine g_iload_n o (pc := 70) d_prog_2_method_4_70 rfl ?_
          refine g_icmpN o (pc := 71) d_prog_2_method_4_71 (t := 78) (by decide) rfl c_ne (fun _ => ?_) (fun hn19 => absurd hn19 hy14)
          refine g_iconst o (pc := 78) d_prog_2_method_4_78 (v := 1) rfl ?_
          refine g_iadd o (pc := 79) d_prog_2_method_4_79 (v := (Int32.ofNat (i + 1))) (n_add i 1) ?_
          refine g_istore_n o (pc := 80) d_prog_2_method_4_80 (L' := #[.val (.ref x), .val (.int (Int32.ofNat s)), .val (.int q), .val (.int (Int32.ofNat (i + 1))), .val (.int 0)]) rfl ?_
          refine g_goto o (pc := 81) d_prog_2_method_4_81 (t := 10) (by decide) rfl ?_
          have hlt := ((n_lt (i := i) (j := 14) (by omega) (by omega)).mp hn5)
          exact ih (i + 1) (.val (.int 0)) (Or.inr ⟨_, rfl, rfl⟩) (by omega) (by omega) ((litF_1 ((n_lt (i := i) (j := 14) (by omega) (by omega)).mp hn5) hy14).symm.trans hR)
        · refine g_iload o (pc := 55) d_prog_2_method_4_55 rfl ?_
          refine g_ifCN o (pc := 57) d_prog_2_method_4_57 (t := 64) (by decide) rfl c_ne (fun hy20 => absurd rfl hy20) (fun _ => ?_)
          refine g_iload_n o (pc := 60) d_prog_2_method_4_60 rfl ?_
          refine g_iconst o (pc := 61) d_prog_2_method_4_61 (v := 1) rfl ?_
          refine g_iadd o (pc := 62) d_prog_2_method_4_62 (v := (Int32.ofNat (i + 1))) (n_add i 1) ?_
          refine g_ireturn o (pc := 63) d_prog_2_method_4_63 ?_ (by decide) (by decide)
          exact ⟨congrArg (fun z => some (Value.int (Int32.ofNat z))) ((litF_3 ((n_lt (i := i) (j := 14) (by omega) (by omega)).mp hn5) hn15 (mt (n_lt (i := i + 1) (j := 14) (by omega) (by omega)).mpr hy9)).symm.trans hR), rfl⟩
      · refine g_aload_n o (pc := 28) d_prog_2_method_4_28 rfl rfl ?_
        refine g_iload_n o (pc := 29) d_prog_2_method_4_29 rfl ?_
        refine g_iconst o (pc := 30) d_prog_2_method_4_30 (v := 1) rfl ?_
        refine g_iadd o (pc := 31) d_prog_2_method_4_31 (v := (Int32.ofNat (i + 1))) (n_add i 1) ?_
        refine g_virtual o (pc := 32) x [(.int (Int32.ofNat (i + 1)))] [] d_prog_2_method_4_32 (wd_55 hw) (wd_56 hw) (wd_58 hw) (wd_57 hw) (fun _ q => notFace_of_selects q) (by decide) Sx.exa (W := 0) (kc := 0) (ks := 0) (backCh o (wd_13 hw) Sc nzc Sf rf X0 Sx (by rw [hlen]; decide) (i := i + 1) (by rw [hlen]; exact ((n_lt (i := i + 1) (j := 14) (by omega) (by omega)).mp hn10)) rfl (by decide) (by decide)) (fun _ _ _ q => q) (Or.inl hE) pd_3 rfl rfl rfl rfl (by decide) (by decide) fun v21 h22 q23 => ?_
        obtain ⟨rfl, hh⟩ := q23
        obtain rfl := hh.symm
        show Go C Z n0 (fun v h => v = some (.int (Int32.ofNat R)) ∧ h = h0) [] h0 0 0 35 #[.val (.ref x), .val (.int (Int32.ofNat s)), .val (.int q), .val (.int (Int32.ofNat i)), s4] [(.int (cs.getD (i + 1) 0))]
        refine g_iload_n o (pc := 35) d_prog_2_method_4_35 rfl ?_
        refine g_icmpN o (pc := 36) d_prog_2_method_4_36 (t := 43) (by decide) rfl c_ne (fun hy24 => ?_) (fun hn25 => ?_)
        · refine g_iconst o (pc := 43) d_prog_2_method_4_43 (v := 0) rfl ?_
          refine g_istore o (pc := 44) d_prog_2_method_4_44 (L' := #[.val (.ref x), .val (.int (Int32.ofNat s)), .val (.int q), .val (.int (Int32.ofNat i)), .val (.int 0)]) (store_cat rfl h4 rfl rfl) ?_
          refine g_aload_n o (pc := 46) d_prog_2_method_4_46 rfl rfl ?_
          refine g_iload_n o (pc := 47) d_prog_2_method_4_47 rfl ?_
          refine g_virtual o (pc := 48) x [(.int (Int32.ofNat i))] [] d_prog_2_method_4_48 (wd_55 hw) (wd_56 hw) (wd_58 hw) (wd_57 hw) (fun _ q => notFace_of_selects q) (by decide) Sx.exa (W := 0) (kc := 0) (ks := 0) (backCh o (wd_13 hw) Sc nzc Sf rf X0 Sx (by rw [hlen]; decide) (i := i) (by rw [hlen]; exact ((n_lt (i := i) (j := 14) (by omega) (by omega)).mp hn5)) rfl (by decide) (by decide)) (fun _ _ _ q => q) (Or.inl hE) pd_3 rfl rfl rfl rfl (by decide) (by decide) fun v26 h27 q28 => ?_
          obtain ⟨rfl, hh⟩ := q28
          obtain rfl := hh.symm
          show Go C Z n0 (fun v h => v = some (.int (Int32.ofNat R)) ∧ h = h0) [] h0 0 0 51 #[.val (.ref x), .val (.int (Int32.ofNat s)), .val (.int q), .val (.int (Int32.ofNat i)), .val (.int 0)] [(.int (cs.getD i 0))]
          refine g_iload_n o (pc := 51) d_prog_2_method_4_51 rfl ?_
          refine g_icmpN o (pc := 52) d_prog_2_method_4_52 (t := 64) (by decide) rfl c_ne (fun hy29 => ?_) (fun hn30 => ?_)
          · refine g_iload_n o (pc := 64) d_prog_2_method_4_64 rfl ?_
            refine g_aload_n o (pc := 65) d_prog_2_method_4_65 rfl rfl ?_
            refine g_iload_n o (pc := 66) d_prog_2_method_4_66 rfl ?_
            refine g_virtual o (pc := 67) x [(.int (Int32.ofNat i))] [(.int (Int32.ofNat i))] d_prog_2_method_4_67 (wd_55 hw) (wd_56 hw) (wd_58 hw) (wd_57 hw) (fun _ q => notFace_of_selects q) (by decide) Sx.exa (W := 1) (kc := 0) (ks := 0) (backCh o (wd_13 hw) Sc nzc Sf rf X0 Sx (by rw [hlen]; decide) (i := i) (by rw [hlen]; exact ((n_lt (i := i) (j := 14) (by omega) (by omega)).mp hn5)) rfl (by decide) (by decide)) (fun _ _ _ q => q) (Or.inl hE) pd_3 rfl rfl rfl rfl (by decide) (by decide) fun v31 h32 q33 => ?_
            obtain ⟨rfl, hh⟩ := q33
            obtain rfl := hh.symm
            show Go C Z n0 (fun v h => v = some (.int (Int32.ofNat R)) ∧ h = h0) [] h0 0 0 70 #[.val (.ref x), .val (.int (Int32.ofNat s)), .val (.int q), .val (.int (Int32.ofNat i)), .val (.int 0)] [(.int (cs.getD i 0)), (.int (Int32.ofNat i))]
            refine g_iload_n o (pc := 70) d_prog_2_method_4_70 rfl ?_
            refine g_icmpN o (pc := 71) d_prog_2_method_4_71 (t := 78) (by decide) rfl c_ne (fun _ => ?_) (fun hn34 => absurd hn34 hy29)
            refine g_iconst o (pc := 78) d_prog_2_method_4_78 (v := 1) rfl ?_
            refine g_iadd o (pc := 79) d_prog_2_method_4_79 (v := (Int32.ofNat (i + 1))) (n_add i 1) ?_
            refine g_istore_n o (pc := 80) d_prog_2_method_4_80 (L' := #[.val (.ref x), .val (.int (Int32.ofNat s)), .val (.int q), .val (.int (Int32.ofNat (i + 1))), .val (.int 0)]) rfl ?_
            refine g_goto o (pc := 81) d_prog_2_method_4_81 (t := 10) (by decide) rfl ?_
            have hlt := ((n_lt (i := i) (j := 14) (by omega) (by omega)).mp hn5)
            exact ih (i + 1) (.val (.int 0)) (Or.inr ⟨_, rfl, rfl⟩) (by omega) (by omega) ((litF_1 ((n_lt (i := i) (j := 14) (by omega) (by omega)).mp hn5) hy29).symm.trans hR)
          · refine g_iload o (pc := 55) d_prog_2_method_4_55 rfl ?_
            refine g_ifCN o (pc := 57) d_prog_2_method_4_57 (t := 64) (by decide) rfl c_ne (fun hy35 => absurd rfl hy35) (fun _ => ?_)
            refine g_iload_n o (pc := 60) d_prog_2_method_4_60 rfl ?_
            refine g_iconst o (pc := 61) d_prog_2_method_4_61 (v := 1) rfl ?_
            refine g_iadd o (pc := 62) d_prog_2_method_4_62 (v := (Int32.ofNat (i + 1))) (n_add i 1) ?_
            refine g_ireturn o (pc := 63) d_prog_2_method_4_63 ?_ (by decide) (by decide)
            exact ⟨congrArg (fun z => some (Value.int (Int32.ofNat z))) ((litF_4 ((n_lt (i := i) (j := 14) (by omega) (by omega)).mp hn5) hn30 hy24).symm.trans hR), rfl⟩
        · refine g_iconst o (pc := 39) d_prog_2_method_4_39 (v := 1) rfl ?_
          refine g_goto o (pc := 40) d_prog_2_method_4_40 (t := 44) (by decide) rfl ?_
          refine g_istore o (pc := 44) d_prog_2_method_4_44 (L' := #[.val (.ref x), .val (.int (Int32.ofNat s)), .val (.int q), .val (.int (Int32.ofNat i)), .val (.int 1)]) (store_cat rfl h4 rfl rfl) ?_
          refine g_aload_n o (pc := 46) d_prog_2_method_4_46 rfl rfl ?_
          refine g_iload_n o (pc := 47) d_prog_2_method_4_47 rfl ?_
          refine g_virtual o (pc := 48) x [(.int (Int32.ofNat i))] [] d_prog_2_method_4_48 (wd_55 hw) (wd_56 hw) (wd_58 hw) (wd_57 hw) (fun _ q => notFace_of_selects q) (by decide) Sx.exa (W := 0) (kc := 0) (ks := 0) (backCh o (wd_13 hw) Sc nzc Sf rf X0 Sx (by rw [hlen]; decide) (i := i) (by rw [hlen]; exact ((n_lt (i := i) (j := 14) (by omega) (by omega)).mp hn5)) rfl (by decide) (by decide)) (fun _ _ _ q => q) (Or.inl hE) pd_3 rfl rfl rfl rfl (by decide) (by decide) fun v36 h37 q38 => ?_
          obtain ⟨rfl, hh⟩ := q38
          obtain rfl := hh.symm
          show Go C Z n0 (fun v h => v = some (.int (Int32.ofNat R)) ∧ h = h0) [] h0 0 0 51 #[.val (.ref x), .val (.int (Int32.ofNat s)), .val (.int q), .val (.int (Int32.ofNat i)), .val (.int 1)] [(.int (cs.getD i 0))]
          refine g_iload_n o (pc := 51) d_prog_2_method_4_51 rfl ?_
          refine g_icmpN o (pc := 52) d_prog_2_method_4_52 (t := 64) (by decide) rfl c_ne (fun hy39 => ?_) (fun hn40 => ?_)
          · refine g_iload_n o (pc := 64) d_prog_2_method_4_64 rfl ?_
            refine g_aload_n o (pc := 65) d_prog_2_method_4_65 rfl rfl ?_
            refine g_iload_n o (pc := 66) d_prog_2_method_4_66 rfl ?_
            refine g_virtual o (pc := 67) x [(.int (Int32.ofNat i))] [(.int (Int32.ofNat i))] d_prog_2_method_4_67 (wd_55 hw) (wd_56 hw) (wd_58 hw) (wd_57 hw) (fun _ q => notFace_of_selects q) (by decide) Sx.exa (W := 1) (kc := 0) (ks := 0) (backCh o (wd_13 hw) Sc nzc Sf rf X0 Sx (by rw [hlen]; decide) (i := i) (by rw [hlen]; exact ((n_lt (i := i) (j := 14) (by omega) (by omega)).mp hn5)) rfl (by decide) (by decide)) (fun _ _ _ q => q) (Or.inl hE) pd_3 rfl rfl rfl rfl (by decide) (by decide) fun v41 h42 q43 => ?_
            obtain ⟨rfl, hh⟩ := q43
            obtain rfl := hh.symm
            show Go C Z n0 (fun v h => v = some (.int (Int32.ofNat R)) ∧ h = h0) [] h0 0 0 70 #[.val (.ref x), .val (.int (Int32.ofNat s)), .val (.int q), .val (.int (Int32.ofNat i)), .val (.int 1)] [(.int (cs.getD i 0)), (.int (Int32.ofNat i))]
            refine g_iload_n o (pc := 70) d_prog_2_method_4_70 rfl ?_
            refine g_icmpN o (pc := 71) d_prog_2_method_4_71 (t := 78) (by decide) rfl c_ne (fun _ => ?_) (fun hn44 => absurd hn44 hy39)
            refine g_iconst o (pc := 78) d_prog_2_method_4_78 (v := 1) rfl ?_
            refine g_iadd o (pc := 79) d_prog_2_method_4_79 (v := (Int32.ofNat (i + 1))) (n_add i 1) ?_
            refine g_istore_n o (pc := 80) d_prog_2_method_4_80 (L' := #[.val (.ref x), .val (.int (Int32.ofNat s)), .val (.int q), .val (.int (Int32.ofNat (i + 1))), .val (.int 1)]) rfl ?_
            refine g_goto o (pc := 81) d_prog_2_method_4_81 (t := 10) (by decide) rfl ?_
            have hlt := ((n_lt (i := i) (j := 14) (by omega) (by omega)).mp hn5)
            exact ih (i + 1) (.val (.int 1)) (Or.inr ⟨_, rfl, rfl⟩) (by omega) (by omega) ((litF_1 ((n_lt (i := i) (j := 14) (by omega) (by omega)).mp hn5) hy39).symm.trans hR)
          · refine g_iload o (pc := 55) d_prog_2_method_4_55 rfl ?_
            refine g_ifCN o (pc := 57) d_prog_2_method_4_57 (t := 64) (by decide) rfl c_ne (fun _ => ?_) (fun hn45 => absurd hn45 (by decide))
            refine g_iload_n o (pc := 64) d_prog_2_method_4_64 rfl ?_
            refine g_aload_n o (pc := 65) d_prog_2_method_4_65 rfl rfl ?_
            refine g_iload_n o (pc := 66) d_prog_2_method_4_66 rfl ?_
            refine g_virtual o (pc := 67) x [(.int (Int32.ofNat i))] [(.int (Int32.ofNat i))] d_prog_2_method_4_67 (wd_55 hw) (wd_56 hw) (wd_58 hw) (wd_57 hw) (fun _ q => notFace_of_selects q) (by decide) Sx.exa (W := 1) (kc := 0) (ks := 0) (backCh o (wd_13 hw) Sc nzc Sf rf X0 Sx (by rw [hlen]; decide) (i := i) (by rw [hlen]; exact ((n_lt (i := i) (j := 14) (by omega) (by omega)).mp hn5)) rfl (by decide) (by decide)) (fun _ _ _ q => q) (Or.inl hE) pd_3 rfl rfl rfl rfl (by decide) (by decide) fun v46 h47 q48 => ?_
            obtain ⟨rfl, hh⟩ := q48
            obtain rfl := hh.symm
            show Go C Z n0 (fun v h => v = some (.int (Int32.ofNat R)) ∧ h = h0) [] h0 0 0 70 #[.val (.ref x), .val (.int (Int32.ofNat s)), .val (.int q), .val (.int (Int32.ofNat i)), .val (.int 1)] [(.int (cs.getD i 0)), (.int (Int32.ofNat i))]
            refine g_iload_n o (pc := 70) d_prog_2_method_4_70 rfl ?_
            refine g_icmpN o (pc := 71) d_prog_2_method_4_71 (t := 78) (by decide) rfl c_ne (fun hy49 => absurd hn40 hy49) (fun _ => ?_)
            refine g_iconst o (pc := 74) d_prog_2_method_4_74 (v := 2) rfl ?_
            refine g_goto o (pc := 75) d_prog_2_method_4_75 (t := 79) (by decide) rfl ?_
            refine g_iadd o (pc := 79) d_prog_2_method_4_79 (v := (Int32.ofNat (i + 2))) (n_add i 2) ?_
            refine g_istore_n o (pc := 80) d_prog_2_method_4_80 (L' := #[.val (.ref x), .val (.int (Int32.ofNat s)), .val (.int q), .val (.int (Int32.ofNat (i + 2))), .val (.int 1)]) rfl ?_
            refine g_goto o (pc := 81) d_prog_2_method_4_81 (t := 10) (by decide) rfl ?_
            have hlt := ((n_lt (i := i) (j := 14) (by omega) (by omega)).mp hn5)
            have hlt2 := ((n_lt (i := i + 1) (j := 14) (by omega) (by omega)).mp hn10)
            exact ih (i + 2) (.val (.int 1)) (Or.inr ⟨_, rfl, rfl⟩) (by omega) (by omega) ((litF_2 ((n_lt (i := i) (j := 14) (by omega) (by omega)).mp hn5) hn40 ((n_lt (i := i + 1) (j := 14) (by omega) (by omega)).mp hn10) hn25).symm.trans hR)
set_option maxRecDepth 65536 in
set_option maxHeartbeats 40000000 in
theorem rm_lit (l : Launch) (Z : State) (a0 : Array Value) (hw : ∀ d ∈ tables_1, d.before a0 Z = true) (n0 : Nat) (h0 : Heap) (X0 : Old Z n0 h0) (x : Addr) (cs : List Int32) (s : Nat) (zc : Int32) (fm : Value) (Sc : Sta Z Z.heap "java/lang/String" "COMPACT_STRINGS" "Z" (.int zc)) (nzc : ¬ zc = 0) (Sf : Sta Z Z.heap "jdk/internal/util/Preconditions" "SIOOBE_FORMATTER" "Ljava/util/function/BiFunction;" fm) (rf : fm.isRef = true) (Sx : Str Z h0 x cs) (hlen : cs.length = 14) (hs : s < 14) :
    Met l Z n0 (⟨"com/example/enact/enact/compiler/XPathText", "endOfLiteral", "(Ljava/lang/String;I)I"⟩ : MethodName) prog_2_method_4_code 5 (some .int) ({ frames := 4, cells := 0, slots := 0, locals := 56 } : Room) #[(.ref x), (.int (Int32.ofNat s))] h0 (fun v h => v = some (.int (Int32.ofNat (litF 14 cs (cs.getD s 0) 15 (s + 1)))) ∧ h = h0) := by
  refine met_of (plainFor_of_name pn_2) hw (L := #[.val (.ref x), .val (.int (Int32.ofNat s)), .unset, .unset, .unset]) (fun m => by first | (simp [entryFrame, mkF, argsToLocals, Value.category]; done) | rfl) fun C hl hwd hE hPL hcs hr o => ?_
  subst hl
  have o : Ok C Z a0 prog_2_method_4_code 5 (some .int) "endOfLiteral" "com/example/enact/enact/compiler/XPathText" ({ frames := 4, cells := 0, slots := 0, locals := 56 } : Room) := o
  refine g_aload_n o (pc := 0) d_prog_2_method_4_0 rfl rfl ?_
  refine g_iload_n o (pc := 1) d_prog_2_method_4_1 rfl ?_
  refine g_virtual o (pc := 2) x [(.int (Int32.ofNat s))] [] d_prog_2_method_4_2 (wd_55 hw) (wd_56 hw) (wd_58 hw) (wd_57 hw) (fun _ q => notFace_of_selects q) (by decide) Sx.exa (W := 0) (kc := 0) (ks := 0) (backCh o (wd_13 hw) Sc nzc Sf rf X0 Sx (by rw [hlen]; decide) (i := s) (by rw [hlen]; exact hs) rfl (by decide) (by decide)) (fun _ _ _ q => q) (Or.inl hE) pd_3 rfl rfl rfl rfl (by decide) (by decide) fun v1 h2 q3 => ?_
  obtain ⟨rfl, hh⟩ := q3
  obtain rfl := hh.symm
  show Go C Z n0 (fun v h => v = some (.int (Int32.ofNat (litF 14 cs (cs.getD s 0) 15 (s + 1)))) ∧ h = h0) [] h0 0 0 5 #[.val (.ref x), .val (.int (Int32.ofNat s)), .unset, .unset, .unset] [(.int (cs.getD s 0))]
  refine g_istore_n o (pc := 5) d_prog_2_method_4_5 (L' := #[.val (.ref x), .val (.int (Int32.ofNat s)), .val (.int (cs.getD s 0)), .unset, .unset]) rfl ?_
  refine g_iload_n o (pc := 6) d_prog_2_method_4_6 rfl ?_
  refine g_iconst o (pc := 7) d_prog_2_method_4_7 (v := 1) rfl ?_
  refine g_iadd o (pc := 8) d_prog_2_method_4_8 (v := (Int32.ofNat (s + 1))) (n_add s 1) ?_
  refine g_istore_n o (pc := 9) d_prog_2_method_4_9 (L' := #[.val (.ref x), .val (.int (Int32.ofNat s)), .val (.int (cs.getD s 0)), .val (.int (Int32.ofNat (s + 1))), .unset]) rfl ?_
  exact lp_lit hw hE hPL hcs hwd n0 o h0 X0 x cs s (cs.getD s 0) _ zc fm Sc nzc Sf rf Sx hlen 15 (s + 1) .unset (Or.inl rfl) (by omega) (by omega) rfl
set_option maxRecDepth 65536 in
set_option maxHeartbeats 40000000 in
theorem lp_com {C : Cx} {Z : State} {a0 : Array Value} (hw : ∀ d ∈ tables_1, d.before a0 Z = true) (hE : C.EL = consts_1) (hPL : C.PL = consts_1) (hcs : C.cs = 16) (hwd : C.wide = true) (n0 : Nat) (o : Ok C Z a0 prog_2_method_5_code 4 (some .int) "endOfComment" "com/example/enact/enact/compiler/XPathText" ({ frames := 3, cells := 0, slots := 0, locals := 48 } : Room)) (h0 : Heap) (X0 : Old Z n0 h0) (x : Addr) (cs : List Int32) (s : Nat) (R : Nat) (zc : Int32) (fm : Value) (Sc : Sta Z Z.heap "java/lang/String" "COMPACT_STRINGS" "Z" (.int zc)) (nzc : ¬ zc = 0) (hlen : cs.length = 14) :
    ∀ (f : Nat) (i : Nat) (d : Int32) (h1 : Heap), (Old Z n0 h1) → (Str Z h1 x cs) → (Keep h0 h1 []) → (i ≤ 14) → (14 - i < f) → (comF 14 cs f d i = R) → Go C Z n0 (fun v h => v = some (.int (Int32.ofNat R)) ∧ Keep h0 h []) [] h1 0 0 4 #[.val (.ref x), .val (.int (Int32.ofNat s)), .val (.int d), .val (.int (Int32.ofNat i))] [] := by
  intro f
  induction f with
  | zero => intro i d h1 X1 S1 K1 hi hf hR; exfalso; omega
  | succ f ih =>
    intro i d h1 X1 S1 K1 hi hf hR
    refine g_iload_n o (pc := 4) d_prog_2_method_5_4 rfl ?_
    refine g_aload_n o (pc := 5) d_prog_2_method_5_5 rfl rfl ?_
    refine g_virtual o (pc := 6) x [] [(.int (Int32.ofNat i))] d_prog_2_method_5_6 (wd_45 hw) (wd_46 hw) (wd_48 hw) (wd_47 hw) (fun _ q => notFace_of_selects q) (by decide) S1.exa (W := 1) (kc := 0) (ks := 0) (backLen o (wd_13 hw) Sc nzc X1 S1 (by rw [hlen]; decide) (by decide) (by decide)) (fun _ _ _ q => q) (Or.inr fun _ _ q => by rw [q.2]; exact Mv.refl) pd_0 rfl rfl rfl rfl (by decide) (by decide) fun v1 h2 q3 => ?_
    obtain ⟨rfl, hh⟩ := q3
    obtain rfl := hh.symm
    show Go C Z n0 (fun v h => v = some (.int (Int32.ofNat R)) ∧ Keep h0 h []) [] h1 0 0 9 #[.val (.ref x), .val (.int (Int32.ofNat s)), .val (.int d), .val (.int (Int32.ofNat i))] [(.int (Int32.ofNat cs.length)), (.int (Int32.ofNat i))]
    rw [hlen]
    show Go C Z n0 (fun v h => v = some (.int (Int32.ofNat R)) ∧ Keep h0 h []) [] h1 0 0 9 #[.val (.ref x), .val (.int (Int32.ofNat s)), .val (.int d), .val (.int (Int32.ofNat i))] [(.int 14), (.int (Int32.ofNat i))]
    refine g_icmpN o (pc := 9) d_prog_2_method_5_9 (t := 59) (by decide) rfl c_ge (fun hy4 => ?_) (fun hn5 => ?_)
    · refine g_iload_n o (pc := 59) d_prog_2_method_5_59 rfl ?_
      refine g_ireturn o (pc := 60) d_prog_2_method_5_60 ?_ (by decide) (by decide)
      exact ⟨congrArg (fun z => some (Value.int (Int32.ofNat z))) ((comF_0 (mt (n_lt (i := i) (j := 14) (by omega) (by omega)).mpr hy4)).symm.trans hR), K1⟩
    · have hlt := ((n_lt (i := i) (j := 14) (by omega) (by omega)).mp hn5)
      refine g_aload_n o (pc := 12) d_prog_2_method_5_12 rfl rfl ?_
      refine g_ldcP o hwd (pc := 13) d_prog_2_method_5_13 (wd_80 hw) (wS_ hw) (m := 12) (cs := [40, 58]) (by rw [hE]; exact List.mem_of_getElem? (i := 2) rfl) (by rw [hPL]; exact List.mem_of_getElem? (i := 2) rfl) (by decide +kernel) (by decide +kernel) (by decide) (by decide) (by decide) (by decide) (by decide) hcs.symm (by decide) (by decide) fun a6 h7 E8 St9 => ?_
      refine g_iload_n o (pc := 15) d_prog_2_method_5_15 rfl ?_
      have q10 := (S1.ext E8)
      have q11 := (X1.ext E8)
      have q15 := q10.exa
      refine g_virtual o (pc := 16) x [(.ref a6), (.int (Int32.ofNat i))] [] d_prog_2_method_5_16 (wd_83 hw) (wd_84 hw) (wd_86 hw) (wd_85 hw) (fun _ q => notFace_of_selects q) (by decide) q15 (Met.back o (W := 0) (rm_sw C.l Z a0 hw n0 h7 q11 x a6 cs 40 58 i zc Sc nzc q10 hlen St9 (by omega)) (wd_87 hw) (wd_14 hw) (by decide) (by decide)) (fun _ _ _ q => q) (Or.inr fun _ _ q => by rw [q.2]; exact Mv.refl) pd_4 rfl rfl rfl rfl (by decide) (by decide) fun v12 h13 q14 => ?_
      obtain ⟨rfl, hh⟩ := q14
      obtain rfl := hh.symm
      show Go C Z n0 (fun v h => v = some (.int (Int32.ofNat R)) ∧ Keep h0 h []) [] h7 0 0 19 #[.val (.ref x), .val (.int (Int32.ofNat s)), .val (.int d), .val (.int (Int32.ofNat i))] [(.int (if pre 14 cs i 40 58 then (1 : Int32) else 0))]
      refine g_ifC o (pc := 19) d_prog_2_method_5_19 (t := 31) (by decide) rfl c_eq (fun hy16 => ?_) (fun hn17 => ?_)
      · refine g_aload_n o (pc := 31) d_prog_2_method_5_31 rfl rfl ?_
        refine g_ldcP o hwd (pc := 32) d_prog_2_method_5_32 (wd_124 hw) (wS_ hw) (m := 12) (cs := [58, 41]) (by rw [hE]; exact List.mem_of_getElem? (i := 3) rfl) (by rw [hPL]; exact List.mem_of_getElem? (i := 3) rfl) (by decide +kernel) (by decide +kernel) (by decide) (by decide) (by decide) (by decide) (by decide) hcs.symm (by decide) (by decide) fun a18 h19 E20 St21 => ?_
        refine g_iload_n o (pc := 34) d_prog_2_method_5_34 rfl ?_
        have q22 := (q10.ext E20)
        have q23 := (q11.ext E20)
        have q27 := (q15.ext E20)
        refine g_virtual o (pc := 35) x [(.ref a18), (.int (Int32.ofNat i))] [] d_prog_2_method_5_35 (wd_83 hw) (wd_84 hw) (wd_86 hw) (wd_85 hw) (fun _ q => notFace_of_selects q) (by decide) q27 (Met.back o (W := 0) (rm_sw C.l Z a0 hw n0 h19 q23 x a18 cs 58 41 i zc Sc nzc q22 hlen St21 (by omega)) (wd_87 hw) (wd_14 hw) (by decide) (by decide)) (fun _ _ _ q => q) (Or.inr fun _ _ q => by rw [q.2]; exact Mv.refl) pd_4 rfl rfl rfl rfl (by decide) (by decide) fun v24 h25 q26 => ?_
        obtain ⟨rfl, hh⟩ := q26
        obtain rfl := hh.symm
        show Go C Z n0 (fun v h => v = some (.int (Int32.ofNat R)) ∧ Keep h0 h []) [] h19 0 0 38 #[.val (.ref x), .val (.int (Int32.ofNat s)), .val (.int d), .val (.int (Int32.ofNat i))] [(.int (if pre 14 cs i 58 41 then (1 : Int32) else 0))]
        refine g_ifC o (pc := 38) d_prog_2_method_5_38 (t := 53) (by decide) rfl c_eq (fun hy28 => ?_) (fun hn29 => ?_)
        · refine g_iinc o (pc := 53) d_prog_2_method_5_53 rfl (w := (Int32.ofNat (i + 1))) (n_add i 1) (L' := #[.val (.ref x), .val (.int (Int32.ofNat s)), .val (.int d), .val (.int (Int32.ofNat (i + 1)))]) rfl ?_
          refine g_goto o (pc := 56) d_prog_2_method_5_56 (t := 4) (by decide) rfl ?_
          exact ih (i + 1) d h19 q23 q22 ((K1.ext E8).ext E20) (by omega) (by omega) ((comF_4 hlt (if_z hy16) (if_z hy28)).symm.trans hR)
        · refine g_iinc o (pc := 41) d_prog_2_method_5_41 rfl (w := (d + (-1))) rfl (L' := #[.val (.ref x), .val (.int (Int32.ofNat s)), .val (.int (d + (-1))), .val (.int (Int32.ofNat i))]) rfl ?_
          refine g_iinc o (pc := 44) d_prog_2_method_5_44 rfl (w := (Int32.ofNat (i + 2))) (n_add i 2) (L' := #[.val (.ref x), .val (.int (Int32.ofNat s)), .val (.int (d + (-1))), .val (.int (Int32.ofNat (i + 2)))]) rfl ?_
          refine g_iload_n o (pc := 47) d_prog_2_method_5_47 rfl ?_
          refine g_ifCN o (pc := 48) d_prog_2_method_5_48 (t := 4) (by decide) rfl c_ne (fun hy30 => ?_) (fun hn31 => ?_)
          · have hp2 := (if_o hn29).1
            exact ih (i + 2) (d + (-1)) h19 q23 q22 ((K1.ext E8).ext E20) (by omega) (by omega) ((comF_3 hlt (if_z hy16) (if_o hn29) hy30).symm.trans hR)
          · refine g_iload_n o (pc := 51) d_prog_2_method_5_51 rfl ?_
            refine g_ireturn o (pc := 52) d_prog_2_method_5_52 ?_ (by decide) (by decide)
            exact ⟨congrArg (fun z => some (Value.int (Int32.ofNat z))) ((comF_2 hlt (if_z hy16) (if_o hn29) hn31).symm.trans hR), ((K1.ext E8).ext E20)⟩
      · refine g_iinc o (pc := 22) d_prog_2_method_5_22 rfl (w := (d + 1)) rfl (L' := #[.val (.ref x), .val (.int (Int32.ofNat s)), .val (.int (d + 1)), .val (.int (Int32.ofNat i))]) rfl ?_
        refine g_iinc o (pc := 25) d_prog_2_method_5_25 rfl (w := (Int32.ofNat (i + 2))) (n_add i 2) (L' := #[.val (.ref x), .val (.int (Int32.ofNat s)), .val (.int (d + 1)), .val (.int (Int32.ofNat (i + 2)))]) rfl ?_
        refine g_goto o (pc := 28) d_prog_2_method_5_28 (t := 4) (by decide) rfl ?_
        have hp2 := (if_o hn17).1
        exact ih (i + 2) (d + 1) h7 q11 q10 (K1.ext E8) (by omega) (by omega) ((comF_1 hlt (if_o hn17)).symm.trans hR)
set_option maxRecDepth 65536 in
set_option maxHeartbeats 40000000 in
theorem rm_com (r : Nat) (l : Launch) (Z : State) (a0 : Array Value) (hw : ∀ d ∈ tables_1, d.before a0 Z = true) (n0 : Nat) (h0 : Heap) (X0 : Old Z n0 h0) (x : Addr) (cs : List Int32) (s : Nat) (zc : Int32) (fm : Value) (Sc : Sta Z Z.heap "java/lang/String" "COMPACT_STRINGS" "Z" (.int zc)) (nzc : ¬ zc = 0) (Sx : Str Z h0 x cs) (hlen : cs.length = 14) (hs : s < 14) :
    MetW l Z n0 consts_1 consts_1 16 r (⟨"com/example/enact/enact/compiler/XPathText", "endOfComment", "(Ljava/lang/String;I)I"⟩ : MethodName) prog_2_method_5_code 4 (some .int) ({ frames := 3, cells := 0, slots := 0, locals := 48 } : Room) #[(.ref x), (.int (Int32.ofNat s))] h0 (fun v h => v = some (.int (Int32.ofNat (comF 14 cs 15 0 s))) ∧ Keep h0 h []) := by
  refine metW_of (plainFor_of_name pn_2) hw (ew_ hw) (L := #[.val (.ref x), .val (.int (Int32.ofNat s)), .unset, .unset]) (fun m => by first | (simp [entryFrame, mkF, argsToLocals, Value.category]; done) | rfl) fun C hl hwd hE hPL hcs hr o => ?_
  subst hl
  have o : Ok C Z a0 prog_2_method_5_code 4 (some .int) "endOfComment" "com/example/enact/enact/compiler/XPathText" ({ frames := 3, cells := 0, slots := 0, locals := 48 } : Room) := o
  refine g_iconst o (pc := 0) d_prog_2_method_5_0 (v := 0) rfl ?_
  refine g_istore_n o (pc := 1) d_prog_2_method_5_1 (L' := #[.val (.ref x), .val (.int (Int32.ofNat s)), .val (.int 0), .unset]) rfl ?_
  refine g_iload_n o (pc := 2) d_prog_2_method_5_2 rfl ?_
  refine g_istore_n o (pc := 3) d_prog_2_method_5_3 (L' := #[.val (.ref x), .val (.int (Int32.ofNat s)), .val (.int 0), .val (.int (Int32.ofNat s))]) rfl ?_
  exact lp_com hw hE hPL hcs hwd n0 o h0 X0 x cs s _ zc fm Sc nzc hlen 15 s 0 h0 X0 Sx (Keep.refl _ []) (by omega) (by omega) rfl
set_option maxRecDepth 65536 in
set_option maxHeartbeats 40000000 in
theorem rm_alc (r : Nat) (l : Launch) (Z : State) (a0 : Array Value) (hw : ∀ d ∈ tables_1, d.before a0 Z = true) (n0 : Nat) (h0 : Heap) (X0 : Old Z n0 h0) (x : Addr) (cs : List Int32) (s : Nat) (zc : Int32) (fm : Value) (Sc : Sta Z Z.heap "java/lang/String" "COMPACT_STRINGS" "Z" (.int zc)) (nzc : ¬ zc = 0) (Sf : Sta Z Z.heap "jdk/internal/util/Preconditions" "SIOOBE_FORMATTER" "Ljava/util/function/BiFunction;" fm) (rf : fm.isRef = true) (Sx : Str Z h0 x cs) (hlen : cs.length = 14) (hs : s < 14) :
    MetW l Z n0 consts_1 consts_1 16 r (⟨"com/example/enact/enact/compiler/XPathText", "afterLiteralOrComment", "(Ljava/lang/String;I)I"⟩ : MethodName) prog_2_method_3_code 4 (some .int) ({ frames := 5, cells := 0, slots := 0, locals := 72 } : Room) #[(.ref x), (.int (Int32.ofNat s))] h0 (fun v h => v = some (.int (Int32.ofNat (aloc 14 cs s))) ∧ Keep h0 h []) := by
  refine metW_of (plainFor_of_name pn_2) hw (ew_ hw) (L := #[.val (.ref x), .val (.int (Int32.ofNat s)), .unset, .unset]) (fun m => by first | (simp [entryFrame, mkF, argsToLocals, Value.category]; done) | rfl) fun C hl hwd hE hPL hcs hr o => ?_
  subst hl
  have o : Ok C Z a0 prog_2_method_3_code 4 (some .int) "afterLiteralOrComment" "com/example/enact/enact/compiler/XPathText" ({ frames := 5, cells := 0, slots := 0, locals := 72 } : Room) := o
  refine g_aload_n o (pc := 0) d_prog_2_method_3_0 rfl rfl ?_
  refine g_iload_n o (pc := 1) d_prog_2_method_3_1 rfl ?_
  refine g_virtual o (pc := 2) x [(.int (Int32.ofNat s))] [] d_prog_2_method_3_2 (wd_55 hw) (wd_56 hw) (wd_58 hw) (wd_57 hw) (fun _ q => notFace_of_selects q) (by decide) Sx.exa (W := 0) (kc := 0) (ks := 0) (backCh o (wd_13 hw) Sc nzc Sf rf X0 Sx (by rw [hlen]; decide) (i := s) (by rw [hlen]; exact hs) rfl (by decide) (by decide)) (fun _ _ _ q => q) (Or.inr fun _ _ q => by rw [q.2]; exact Mv.refl) pd_3 rfl rfl rfl rfl (by decide) (by decide) fun v1 h2 q3 => ?_
  obtain ⟨rfl, hh⟩ := q3
  obtain rfl := hh.symm
  show Go C Z n0 (fun v h => v = some (.int (Int32.ofNat (aloc 14 cs s))) ∧ Keep h0 h []) [] h0 0 0 5 #[.val (.ref x), .val (.int (Int32.ofNat s)), .unset, .unset] [(.int (cs.getD s 0))]
  refine g_istore_n o (pc := 5) d_prog_2_method_3_5 (L' := #[.val (.ref x), .val (.int (Int32.ofNat s)), .val (.int (cs.getD s 0)), .unset]) rfl ?_
  refine g_iload_n o (pc := 6) d_prog_2_method_3_6 rfl ?_
  refine g_bipush o (pc := 7) d_prog_2_method_3_7 (v := 34) rfl ?_
  refine g_icmp o (pc := 9) d_prog_2_method_3_9 (t := 18) (by decide) rfl c_eq (fun hy4 => ?_) (fun hn5 => ?_)
  · refine g_aload_n o (pc := 18) d_prog_2_method_3_18 rfl rfl ?_
    refine g_iload_n o (pc := 19) d_prog_2_method_3_19 rfl ?_
    refine g_static o (pc := 20) [(.ref x), (.int (Int32.ofNat s))] [] d_prog_2_method_3_20 (wd_130 hw) (wd_131 hw) (wd_43 hw) (wd_132 hw) (by decide) (Met.back o (W := 0) (rm_lit C.l Z a0 hw n0 h0 X0 x cs s zc fm Sc nzc Sf rf Sx hlen hs) (wd_132 hw) (wd_43 hw) (by decide) (by decide)) (fun _ _ _ q => q) (Or.inr fun _ _ q => by rw [q.2]; exact Mv.refl) pd_5 rfl rfl rfl rfl (by decide) (by decide) fun v6 h7 q8 => ?_
    obtain ⟨rfl, hh⟩ := q8
    obtain rfl := hh.symm
    show Go C Z n0 (fun v h => v = some (.int (Int32.ofNat (aloc 14 cs s))) ∧ Keep h0 h []) [] h0 0 0 23 #[.val (.ref x), .val (.int (Int32.ofNat s)), .val (.int (cs.getD s 0)), .unset] [(.int (Int32.ofNat (litF 14 cs (cs.getD s 0) 15 (s + 1))))]
    refine g_istore_n o (pc := 23) d_prog_2_method_3_23 (L' := #[.val (.ref x), .val (.int (Int32.ofNat s)), .val (.int (cs.getD s 0)), .val (.int (Int32.ofNat (litF 14 cs (cs.getD s 0) 15 (s + 1))))]) rfl ?_
    refine g_goto o (pc := 24) d_prog_2_method_3_24 (t := 48) (by decide) rfl ?_
    refine g_iload_n o (pc := 48) d_prog_2_method_3_48 rfl ?_
    refine g_ireturn o (pc := 49) d_prog_2_method_3_49 ?_ (by decide) (by decide)
    exact ⟨by rw [aloc, if_pos (Or.inl hy4)], (Keep.refl _ [])⟩
  · refine g_iload_n o (pc := 12) d_prog_2_method_3_12 rfl ?_
    refine g_bipush o (pc := 13) d_prog_2_method_3_13 (v := 39) rfl ?_
    refine g_icmpN o (pc := 15) d_prog_2_method_3_15 (t := 27) (by decide) rfl c_ne (fun hy9 => ?_) (fun hn10 => ?_)
    · refine g_aload_n o (pc := 27) d_prog_2_method_3_27 rfl rfl ?_
      refine g_ldcP o hwd (pc := 28) d_prog_2_method_3_28 (wd_80 hw) (wS_ hw) (m := 12) (cs := [40, 58]) (by rw [hE]; exact List.mem_of_getElem? (i := 2) rfl) (by rw [hPL]; exact List.mem_of_getElem? (i := 2) rfl) (by decide +kernel) (by decide +kernel) (by decide) (by decide) (by decide) (by decide) (by decide) hcs.symm (by decide) (by decide) fun a11 h12 E13 St14 => ?_
      refine g_iload_n o (pc := 30) d_prog_2_method_3_30 rfl ?_
      have q15 := (Sx.ext E13)
      have q16 := (X0.ext E13)
      have q20 := q15.exa
      refine g_virtual o (pc := 31) x [(.ref a11), (.int (Int32.ofNat s))] [] d_prog_2_method_3_31 (wd_83 hw) (wd_84 hw) (wd_86 hw) (wd_85 hw) (fun _ q => notFace_of_selects q) (by decide) q20 (Met.back o (W := 0) (rm_sw C.l Z a0 hw n0 h12 q16 x a11 cs 40 58 s zc Sc nzc q15 hlen St14 (by omega)) (wd_87 hw) (wd_14 hw) (by decide) (by decide)) (fun _ _ _ q => q) (Or.inr fun _ _ q => by rw [q.2]; exact Mv.refl) pd_4 rfl rfl rfl rfl (by decide) (by decide) fun v17 h18 q19 => ?_
      obtain ⟨rfl, hh⟩ := q19
      obtain rfl := hh.symm
      show Go C Z n0 (fun v h => v = some (.int (Int32.ofNat (aloc 14 cs s))) ∧ Keep h0 h []) [] h12 0 0 34 #[.val (.ref x), .val (.int (Int32.ofNat s)), .val (.int (cs.getD s 0)), .unset] [(.int (if pre 14 cs s 40 58 then (1 : Int32) else 0))]
      refine g_ifC o (pc := 34) d_prog_2_method_3_34 (t := 46) (by decide) rfl c_eq (fun hy21 => ?_) (fun hn22 => ?_)
      · refine g_iload_n o (pc := 46) d_prog_2_method_3_46 rfl ?_
        refine g_istore_n o (pc := 47) d_prog_2_method_3_47 (L' := #[.val (.ref x), .val (.int (Int32.ofNat s)), .val (.int (cs.getD s 0)), .val (.int (Int32.ofNat s))]) rfl ?_
        refine g_iload_n o (pc := 48) d_prog_2_method_3_48 rfl ?_
        refine g_ireturn o (pc := 49) d_prog_2_method_3_49 ?_ (by decide) (by decide)
        exact ⟨by rw [aloc, if_neg (fun z => z.elim hn5 hy9), if_neg (if_z hy21)], ((Keep.refl _ []).ext E13)⟩
      · refine g_aload_n o (pc := 37) d_prog_2_method_3_37 rfl rfl ?_
        refine g_iload_n o (pc := 38) d_prog_2_method_3_38 rfl ?_
        refine g_staticW o hwd (pc := 39) [(.ref x), (.int (Int32.ofNat s))] [] d_prog_2_method_3_39 (wd_121 hw) (wd_122 hw) (wd_43 hw) (wd_123 hw) (by decide) (MetW.back hE hPL hcs o (W := 0) (fun r => rm_com r C.l Z a0 hw n0 h12 q16 x cs s zc fm Sc nzc q15 hlen hs) (wd_123 hw) (wd_43 hw) (by decide) (by decide)) (fun _ _ _ q => q) pd_5 rfl rfl rfl rfl (by decide) (by decide) fun v23 h24 q25 => ?_
        obtain ⟨rfl, K26⟩ := q25
        show Go C Z n0 (fun v h => v = some (.int (Int32.ofNat (aloc 14 cs s))) ∧ Keep h0 h []) [] h24 0 0 42 #[.val (.ref x), .val (.int (Int32.ofNat s)), .val (.int (cs.getD s 0)), .unset] [(.int (Int32.ofNat (comF 14 cs 15 0 s)))]
        refine g_istore_n o (pc := 42) d_prog_2_method_3_42 (L' := #[.val (.ref x), .val (.int (Int32.ofNat s)), .val (.int (cs.getD s 0)), .val (.int (Int32.ofNat (comF 14 cs 15 0 s)))]) rfl ?_
        refine g_goto o (pc := 43) d_prog_2_method_3_43 (t := 48) (by decide) rfl ?_
        refine g_iload_n o (pc := 48) d_prog_2_method_3_48 rfl ?_
        refine g_ireturn o (pc := 49) d_prog_2_method_3_49 ?_ (by decide) (by decide)
        exact ⟨by rw [aloc, if_neg (fun z => z.elim hn5 hy9), if_pos (if_o hn22)], (((Keep.refl _ []).ext E13).trans K26 all0)⟩
    · refine g_aload_n o (pc := 18) d_prog_2_method_3_18 rfl rfl ?_
      refine g_iload_n o (pc := 19) d_prog_2_method_3_19 rfl ?_
      refine g_static o (pc := 20) [(.ref x), (.int (Int32.ofNat s))] [] d_prog_2_method_3_20 (wd_130 hw) (wd_131 hw) (wd_43 hw) (wd_132 hw) (by decide) (Met.back o (W := 0) (rm_lit C.l Z a0 hw n0 h0 X0 x cs s zc fm Sc nzc Sf rf Sx hlen hs) (wd_132 hw) (wd_43 hw) (by decide) (by decide)) (fun _ _ _ q => q) (Or.inr fun _ _ q => by rw [q.2]; exact Mv.refl) pd_5 rfl rfl rfl rfl (by decide) (by decide) fun v27 h28 q29 => ?_
      obtain ⟨rfl, hh⟩ := q29
      obtain rfl := hh.symm
      show Go C Z n0 (fun v h => v = some (.int (Int32.ofNat (aloc 14 cs s))) ∧ Keep h0 h []) [] h0 0 0 23 #[.val (.ref x), .val (.int (Int32.ofNat s)), .val (.int (cs.getD s 0)), .unset] [(.int (Int32.ofNat (litF 14 cs (cs.getD s 0) 15 (s + 1))))]
      refine g_istore_n o (pc := 23) d_prog_2_method_3_23 (L' := #[.val (.ref x), .val (.int (Int32.ofNat s)), .val (.int (cs.getD s 0)), .val (.int (Int32.ofNat (litF 14 cs (cs.getD s 0) 15 (s + 1))))]) rfl ?_
      refine g_goto o (pc := 24) d_prog_2_method_3_24 (t := 48) (by decide) rfl ?_
      refine g_iload_n o (pc := 48) d_prog_2_method_3_48 rfl ?_
      refine g_ireturn o (pc := 49) d_prog_2_method_3_49 ?_ (by decide) (by decide)
      exact ⟨by rw [aloc, if_pos (Or.inr hn10)], (Keep.refl _ [])⟩
set_option maxRecDepth 65536 in
set_option maxHeartbeats 40000000 in
theorem rm_max (l : Launch) (Z : State) (a0 : Array Value) (hw : ∀ d ∈ tables_1, d.before a0 Z = true) (n0 : Nat) (h0 : Heap) (X0 : Old Z n0 h0) (A : Nat) (B : Nat) (hA : A < 1000) (hB : B < 1000) :
    Met l Z n0 (⟨"java/lang/Math", "max", "(II)I"⟩ : MethodName) jdk_29_method_65_code 2 (some .int) ({ frames := 0, cells := 0, slots := 0, locals := 0 } : Room) #[(.int (Int32.ofNat A)), (.int (Int32.ofNat B))] h0 (fun v h => v = some (.int (Int32.ofNat (max A B))) ∧ h = h0) := by
  refine met_of (Jvm.Free.JP.mathPlain rfl (by decide)) hw (L := #[.val (.int (Int32.ofNat A)), .val (.int (Int32.ofNat B))]) (fun m => by first | (simp [entryFrame, mkF, argsToLocals, Value.category]; done) | rfl) fun C hl hwd hE hPL hcs hr o => ?_
  subst hl
  have o : Ok C Z a0 jdk_29_method_65_code 2 (some .int) "max" "java/lang/Math" ({ frames := 0, cells := 0, slots := 0, locals := 0 } : Room) := o
  refine g_iload_n o (pc := 0) d_jdk_29_method_65_0 rfl ?_
  refine g_iload_n o (pc := 1) d_jdk_29_method_65_1 rfl ?_
  refine g_icmp o (pc := 2) d_jdk_29_method_65_2 (t := 9) (by decide) rfl c_lt (fun hy1 => ?_) (fun hn2 => ?_)
  · refine g_iload_n o (pc := 9) d_jdk_29_method_65_9 rfl ?_
    refine g_ireturn o (pc := 10) d_jdk_29_method_65_10 ?_ (by decide) (by decide)
    have hq := ((n_lt (i := A) (j := B) (by omega) (by omega)).mp hy1)
    exact ⟨congrArg (fun z => some (Value.int (Int32.ofNat z))) (by omega), rfl⟩
  · refine g_iload_n o (pc := 5) d_jdk_29_method_65_5 rfl ?_
    refine g_goto o (pc := 6) d_jdk_29_method_65_6 (t := 10) (by decide) rfl ?_
    refine g_ireturn o (pc := 10) d_jdk_29_method_65_10 ?_ (by decide) (by decide)
    have hq := (mt (n_lt (i := A) (j := B) (by omega) (by omega)).mpr hn2)
    exact ⟨congrArg (fun z => some (Value.int (Int32.ofNat z))) (by omega), rfl⟩
set_option maxRecDepth 65536 in
set_option maxHeartbeats 40000000 in
theorem rm_min (l : Launch) (Z : State) (a0 : Array Value) (hw : ∀ d ∈ tables_1, d.before a0 Z = true) (n0 : Nat) (h0 : Heap) (X0 : Old Z n0 h0) (A : Nat) (B : Nat) (hA : A < 1000) (hB : B < 1000) :
    Met l Z n0 (⟨"java/lang/Math", "min", "(II)I"⟩ : MethodName) jdk_29_method_69_code 2 (some .int) ({ frames := 0, cells := 0, slots := 0, locals := 0 } : Room) #[(.int (Int32.ofNat A)), (.int (Int32.ofNat B))] h0 (fun v h => v = some (.int (Int32.ofNat (min A B))) ∧ h = h0) := by
  refine met_of (Jvm.Free.JP.mathPlain rfl (by decide)) hw (L := #[.val (.int (Int32.ofNat A)), .val (.int (Int32.ofNat B))]) (fun m => by first | (simp [entryFrame, mkF, argsToLocals, Value.category]; done) | rfl) fun C hl hwd hE hPL hcs hr o => ?_
  subst hl
  have o : Ok C Z a0 jdk_29_method_69_code 2 (some .int) "min" "java/lang/Math" ({ frames := 0, cells := 0, slots := 0, locals := 0 } : Room) := o
  refine g_iload_n o (pc := 0) d_jdk_29_method_69_0 rfl ?_
  refine g_iload_n o (pc := 1) d_jdk_29_method_69_1 rfl ?_
  refine g_icmp o (pc := 2) d_jdk_29_method_69_2 (t := 9) (by decide) rfl c_gt (fun hy1 => ?_) (fun hn2 => ?_)
  · refine g_iload_n o (pc := 9) d_jdk_29_method_69_9 rfl ?_
    refine g_ireturn o (pc := 10) d_jdk_29_method_69_10 ?_ (by decide) (by decide)
    have hq := ((n_lt (i := B) (j := A) (by omega) (by omega)).mp hy1)
    exact ⟨congrArg (fun z => some (Value.int (Int32.ofNat z))) (by omega), rfl⟩
  · refine g_iload_n o (pc := 5) d_jdk_29_method_69_5 rfl ?_
    refine g_goto o (pc := 6) d_jdk_29_method_69_6 (t := 10) (by decide) rfl ?_
    refine g_ireturn o (pc := 10) d_jdk_29_method_69_10 ?_ (by decide) (by decide)
    have hq := (mt (n_lt (i := B) (j := A) (by omega) (by omega)).mpr hn2)
    exact ⟨congrArg (fun z => some (Value.int (Int32.ofNat z))) (by omega), rfl⟩
set_option maxRecDepth 65536 in
set_option maxHeartbeats 40000000 in
theorem rm_lat1 (l : Launch) (Z : State) (a0 : Array Value) (hw : ∀ d ∈ tables_1, d.before a0 Z = true) (n0 : Nat) (h0 : Heap) (X0 : Old Z n0 h0) (x : Addr) (zc : Int32) (Sc : Sta Z Z.heap "java/lang/String" "COMPACT_STRINGS" "Z" (.int zc)) (nzc : ¬ zc = 0) (Fc : Fld Z h0 x "java/lang/String" "coder" "B" (.int 0)) :
    Met l Z n0 (⟨"java/lang/String", "isLatin1", "()Z"⟩ : MethodName) jdk_42_method_154_code 1 (some .boolean) ({ frames := 0, cells := 0, slots := 0, locals := 0 } : Room) #[(.ref x)] h0 (fun v h => v = some (.int 1) ∧ h = h0) := by
  refine met_of (plainFor_of_name pn_0) hw (L := #[.val (.ref x)]) (fun m => by first | (simp [entryFrame, mkF, argsToLocals, Value.category]; done) | rfl) fun C hl hwd hE hPL hcs hr o => ?_
  subst hl
  have o : Ok C Z a0 jdk_42_method_154_code 1 (some .boolean) "isLatin1" "java/lang/String" ({ frames := 0, cells := 0, slots := 0, locals := 0 } : Room) := o
  refine g_getS o (pc := 0) d_jdk_42_method_154_0 (wd_25 hw) Via.refl (Sc.ext X0.2) ?_
  refine g_ifC o (pc := 3) d_jdk_42_method_154_3 (t := 17) (by decide) rfl c_eq (fun hy1 => absurd hy1 nzc) (fun _ => ?_)
  refine g_aload_n o (pc := 6) d_jdk_42_method_154_6 rfl rfl ?_
  refine g_getF o (pc := 7) d_jdk_42_method_154_7 (wd_37 hw) Via.refl Fc ?_
  refine g_ifCN o (pc := 10) d_jdk_42_method_154_10 (t := 17) (by decide) rfl c_ne (fun hy2 => absurd rfl hy2) (fun _ => ?_)
  refine g_iconst o (pc := 13) d_jdk_42_method_154_13 (v := 1) rfl ?_
  refine g_goto o (pc := 14) d_jdk_42_method_154_14 (t := 18) (by decide) rfl ?_
  refine g_nreturn o (pc := 18) (by simp) d_jdk_42_method_154_18 (y := 1) rfl ?_ (by decide) (by decide)
  exact ⟨rfl, rfl⟩
set_option maxRecDepth 65536 in
set_option maxHeartbeats 40000000 in
theorem rm_can (l : Launch) (Z : State) (a0 : Array Value) (hw : ∀ d ∈ tables_1, d.before a0 Z = true) (n0 : Nat) (h0 : Heap) (X0 : Old Z n0 h0) (c : Int32) (lc : Lat c) :
    Met l Z n0 (⟨"java/lang/StringLatin1", "canEncode", "(I)Z"⟩ : MethodName) jdk_43_method_4_code 1 (some .boolean) ({ frames := 0, cells := 0, slots := 0, locals := 0 } : Room) #[(.int c)] h0 (fun v h => v = some (.int 1) ∧ h = h0) := by
  refine met_of (plainFor_of_name pn_3) hw (L := #[.val (.int c)]) (fun m => by first | (simp [entryFrame, mkF, argsToLocals, Value.category]; done) | rfl) fun C hl hwd hE hPL hcs hr o => ?_
  subst hl
  have o : Ok C Z a0 jdk_43_method_4_code 1 (some .boolean) "canEncode" "java/lang/StringLatin1" ({ frames := 0, cells := 0, slots := 0, locals := 0 } : Room) := o
  refine g_iload_n o (pc := 0) d_jdk_43_method_4_0 rfl ?_
  refine g_ifC o (pc := 1) d_jdk_43_method_4_1 (t := 15) (by decide) rfl c_lt (fun hy1 => absurd hy1 lc.1) (fun _ => ?_)
  refine g_iload_n o (pc := 4) d_jdk_43_method_4_4 rfl ?_
  refine g_sipush o (pc := 5) d_jdk_43_method_4_5 (v := 255) rfl ?_
  refine g_icmp o (pc := 8) d_jdk_43_method_4_8 (t := 15) (by decide) rfl c_gt (fun hy2 => absurd hy2 lc.2) (fun _ => ?_)
  refine g_iconst o (pc := 11) d_jdk_43_method_4_11 (v := 1) rfl ?_
  refine g_goto o (pc := 12) d_jdk_43_method_4_12 (t := 16) (by decide) rfl ?_
  refine g_nreturn o (pc := 16) (by simp) d_jdk_43_method_4_16 (y := 1) rfl ?_ (by decide) (by decide)
  exact ⟨rfl, rfl⟩
set_option maxRecDepth 65536 in
set_option maxHeartbeats 40000000 in
theorem rm_ixc (l : Launch) (Z : State) (a0 : Array Value) (hw : ∀ d ∈ tables_1, d.before a0 Z = true) (n0 : Nat) (h0 : Heap) (X0 : Old Z n0 h0) (t : Addr) (kt : ClassId) (a : Int32) (b : Int32) (e : Int32) (c : Int32) (Kt : Arv Z h0 t kt .byte 3 [.int a, .int b, .int e] (.int 0)) :
    Met l Z n0 (⟨"java/lang/StringLatin1", "indexOfChar", "([BIII)I"⟩ : MethodName) jdk_43_method_23_code 6 (some .int) ({ frames := 0, cells := 0, slots := 0, locals := 0 } : Room) #[(.ref t), (.int c), (.int 0), (.int 3)] h0 (fun v h => v = some (.int (idx3 a b e c.toInt8.toInt32)) ∧ h = h0) := by
  refine met_of (plainFor_of_name pn_3) hw (L := #[.val (.ref t), .val (.int c), .val (.int 0), .val (.int 3), .unset, .unset]) (fun m => by first | (simp [entryFrame, mkF, argsToLocals, Value.category]; done) | rfl) fun C hl hwd hE hPL hcs hr o => ?_
  subst hl
  have o : Ok C Z a0 jdk_43_method_23_code 6 (some .int) "indexOfChar" "java/lang/StringLatin1" ({ frames := 0, cells := 0, slots := 0, locals := 0 } : Room) := o
  refine g_iload_n o (pc := 0) d_jdk_43_method_23_0 rfl ?_
  refine g_i2b o (pc := 1) d_jdk_43_method_23_1 (v := c.toInt8.toInt32) rfl ?_
  refine g_istore o (pc := 2) d_jdk_43_method_23_2 (L' := #[.val (.ref t), .val (.int c), .val (.int 0), .val (.int 3), .val (.int c.toInt8.toInt32), .unset]) rfl ?_
  refine g_iload_n o (pc := 4) d_jdk_43_method_23_4 rfl ?_
  refine g_istore o (pc := 5) d_jdk_43_method_23_5 (L' := #[.val (.ref t), .val (.int c), .val (.int 0), .val (.int 3), .val (.int c.toInt8.toInt32), .val (.int 0)]) rfl ?_
  refine g_iload o (pc := 7) d_jdk_43_method_23_7 rfl ?_
  refine g_iload_n o (pc := 9) d_jdk_43_method_23_9 rfl ?_
  refine g_icmpN o (pc := 10) d_jdk_43_method_23_10 (t := 31) (by decide) rfl c_ge (fun hy1 => absurd (by decide) hy1) (fun _ => ?_)
  refine g_aload_n o (pc := 13) d_jdk_43_method_23_13 rfl rfl ?_
  refine g_iload o (pc := 14) d_jdk_43_method_23_14 rfl ?_
  refine g_bbload o (pc := 16) d_jdk_43_method_23_16 Kt rfl (by decide) (i := 0) rfl (Nat.le_of_ble_eq_true rfl) (v := .int a) rfl ?_
  refine g_iload o (pc := 17) d_jdk_43_method_23_17 rfl ?_
  refine g_icmpN o (pc := 19) d_jdk_43_method_23_19 (t := 25) (by decide) rfl c_ne (fun hy2 => ?_) (fun hn3 => ?_)
  · refine g_iinc o (pc := 25) d_jdk_43_method_23_25 rfl (w := 1) (by decide) (L' := #[.val (.ref t), .val (.int c), .val (.int 0), .val (.int 3), .val (.int c.toInt8.toInt32), .val (.int 1)]) rfl ?_
    refine g_goto o (pc := 28) d_jdk_43_method_23_28 (t := 7) (by decide) rfl ?_
    refine g_iload o (pc := 7) d_jdk_43_method_23_7 rfl ?_
    refine g_iload_n o (pc := 9) d_jdk_43_method_23_9 rfl ?_
    refine g_icmpN o (pc := 10) d_jdk_43_method_23_10 (t := 31) (by decide) rfl c_ge (fun hy4 => absurd (by decide) hy4) (fun _ => ?_)
    refine g_aload_n o (pc := 13) d_jdk_43_method_23_13 rfl rfl ?_
    refine g_iload o (pc := 14) d_jdk_43_method_23_14 rfl ?_
    refine g_bbload o (pc := 16) d_jdk_43_method_23_16 Kt rfl (by decide) (i := 1) rfl (Nat.le_of_ble_eq_true rfl) (v := .int b) rfl ?_
    refine g_iload o (pc := 17) d_jdk_43_method_23_17 rfl ?_
    refine g_icmpN o (pc := 19) d_jdk_43_method_23_19 (t := 25) (by decide) rfl c_ne (fun hy5 => ?_) (fun hn6 => ?_)
    · refine g_iinc o (pc := 25) d_jdk_43_method_23_25 rfl (w := 2) (by decide) (L' := #[.val (.ref t), .val (.int c), .val (.int 0), .val (.int 3), .val (.int c.toInt8.toInt32), .val (.int 2)]) rfl ?_
      refine g_goto o (pc := 28) d_jdk_43_method_23_28 (t := 7) (by decide) rfl ?_
      refine g_iload o (pc := 7) d_jdk_43_method_23_7 rfl ?_
      refine g_iload_n o (pc := 9) d_jdk_43_method_23_9 rfl ?_
      refine g_icmpN o (pc := 10) d_jdk_43_method_23_10 (t := 31) (by decide) rfl c_ge (fun hy7 => absurd (by decide) hy7) (fun _ => ?_)
      refine g_aload_n o (pc := 13) d_jdk_43_method_23_13 rfl rfl ?_
      refine g_iload o (pc := 14) d_jdk_43_method_23_14 rfl ?_
      refine g_bbload o (pc := 16) d_jdk_43_method_23_16 Kt rfl (by decide) (i := 2) rfl (Nat.le_of_ble_eq_true rfl) (v := .int e) rfl ?_
      refine g_iload o (pc := 17) d_jdk_43_method_23_17 rfl ?_
      refine g_icmpN o (pc := 19) d_jdk_43_method_23_19 (t := 25) (by decide) rfl c_ne (fun hy8 => ?_) (fun hn9 => ?_)
      · refine g_iinc o (pc := 25) d_jdk_43_method_23_25 rfl (w := 3) (by decide) (L' := #[.val (.ref t), .val (.int c), .val (.int 0), .val (.int 3), .val (.int c.toInt8.toInt32), .val (.int 3)]) rfl ?_
        refine g_goto o (pc := 28) d_jdk_43_method_23_28 (t := 7) (by decide) rfl ?_
        refine g_iload o (pc := 7) d_jdk_43_method_23_7 rfl ?_
        refine g_iload_n o (pc := 9) d_jdk_43_method_23_9 rfl ?_
        refine g_icmpN o (pc := 10) d_jdk_43_method_23_10 (t := 31) (by decide) rfl c_ge (fun _ => ?_) (fun hn10 => absurd hn10 (by decide))
        refine g_iconst o (pc := 31) d_jdk_43_method_23_31 (v := (-1)) rfl ?_
        refine g_ireturn o (pc := 32) d_jdk_43_method_23_32 ?_ (by decide) (by decide)
        exact ⟨by rw [idx3, if_neg hy2, if_neg hy5, if_neg hy8], rfl⟩
      · refine g_iload o (pc := 22) d_jdk_43_method_23_22 rfl ?_
        refine g_ireturn o (pc := 24) d_jdk_43_method_23_24 ?_ (by decide) (by decide)
        exact ⟨by rw [idx3, if_neg hy2, if_neg hy5, if_pos hn9], rfl⟩
    · refine g_iload o (pc := 22) d_jdk_43_method_23_22 rfl ?_
      refine g_ireturn o (pc := 24) d_jdk_43_method_23_24 ?_ (by decide) (by decide)
      exact ⟨by rw [idx3, if_neg hy2, if_pos hn6], rfl⟩
  · refine g_iload o (pc := 22) d_jdk_43_method_23_22 rfl ?_
    refine g_ireturn o (pc := 24) d_jdk_43_method_23_24 ?_ (by decide) (by decide)
    exact ⟨by rw [idx3, if_pos hn3], rfl⟩
set_option maxRecDepth 65536 in
set_option maxHeartbeats 40000000 in
theorem rm_ix (l : Launch) (Z : State) (a0 : Array Value) (hw : ∀ d ∈ tables_1, d.before a0 Z = true) (n0 : Nat) (h0 : Heap) (X0 : Old Z n0 h0) (t : Addr) (kt : ClassId) (a : Int32) (b : Int32) (e : Int32) (c : Int32) (Kt : Arv Z h0 t kt .byte 3 [.int a, .int b, .int e] (.int 0)) (lc : Lat c) :
    Met l Z n0 (⟨"java/lang/StringLatin1", "indexOf", "([BIII)I"⟩ : MethodName) jdk_43_method_22_code 4 (some .int) ({ frames := 1, cells := 0, slots := 0, locals := 17 } : Room) #[(.ref t), (.int c), (.int 0), (.int 3)] h0 (fun v h => v = some (.int (idx3 a b e c.toInt8.toInt32)) ∧ h = h0) := by
  refine met_of (plainFor_of_name pn_3) hw (L := #[.val (.ref t), .val (.int c), .val (.int 0), .val (.int 3)]) (fun m => by first | (simp [entryFrame, mkF, argsToLocals, Value.category]; done) | rfl) fun C hl hwd hE hPL hcs hr o => ?_
  subst hl
  have o : Ok C Z a0 jdk_43_method_22_code 4 (some .int) "indexOf" "java/lang/StringLatin1" ({ frames := 1, cells := 0, slots := 0, locals := 17 } : Room) := o
  refine g_iload_n o (pc := 0) d_jdk_43_method_22_0 rfl ?_
  refine g_static o (pc := 1) [(.int c)] [] d_jdk_43_method_22_1 (wd_107 hw) (wd_108 hw) (wd_67 hw) (wd_109 hw) (by decide) (Met.back o (W := 0) (rm_can C.l Z a0 hw n0 h0 X0 c lc) (wd_109 hw) (wd_67 hw) (by decide) (by decide)) (fun _ _ _ q => q) (Or.inl hE) pd_6 rfl rfl rfl rfl (by decide) (by decide) fun v1 h2 q3 => ?_
  obtain ⟨rfl, hh⟩ := q3
  obtain rfl := hh.symm
  show Go C Z n0 (fun v h => v = some (.int (idx3 a b e c.toInt8.toInt32)) ∧ h = h0) [] h0 0 0 4 #[.val (.ref t), .val (.int c), .val (.int 0), .val (.int 3)] [(.int 1)]
  refine g_ifCN o (pc := 4) d_jdk_43_method_22_4 (t := 9) (by decide) rfl c_ne (fun _ => ?_) (fun hn4 => absurd hn4 (by decide))
  refine g_iload_n o (pc := 9) d_jdk_43_method_22_9 rfl ?_
  refine g_iconst o (pc := 10) d_jdk_43_method_22_10 (v := 0) rfl ?_
  refine g_static o (pc := 11) [(.int 0), (.int 0)] [] d_jdk_43_method_22_11 (wd_110 hw) (wd_111 hw) (wd_112 hw) (wd_113 hw) (by decide) (Met.back o (W := 0) (rm_max C.l Z a0 hw n0 h0 X0 0 0 (by decide) (by decide)) (wd_113 hw) (wd_112 hw) (by decide) (by decide)) (fun _ _ _ q => q) (Or.inl hE) pd_7 rfl rfl rfl rfl (by decide) (by decide) fun v5 h6 q7 => ?_
  obtain ⟨rfl, hh⟩ := q7
  obtain rfl := hh.symm
  show Go C Z n0 (fun v h => v = some (.int (idx3 a b e c.toInt8.toInt32)) ∧ h = h0) [] h0 0 0 14 #[.val (.ref t), .val (.int c), .val (.int 0), .val (.int 3)] [(.int 0)]
  refine g_istore_n o (pc := 14) d_jdk_43_method_22_14 (L' := #[.val (.ref t), .val (.int c), .val (.int 0), .val (.int 3)]) rfl ?_
  refine g_iload_n o (pc := 15) d_jdk_43_method_22_15 rfl ?_
  refine g_aload_n o (pc := 16) d_jdk_43_method_22_16 rfl rfl ?_
  refine g_alen o (pc := 17) d_jdk_43_method_22_17 Kt ?_
  refine g_static o (pc := 18) [(.int 3), (.int 3)] [] d_jdk_43_method_22_18 (wd_114 hw) (wd_115 hw) (wd_112 hw) (wd_116 hw) (by decide) (Met.back o (W := 0) (rm_min C.l Z a0 hw n0 h0 X0 3 3 (by decide) (by decide)) (wd_116 hw) (wd_112 hw) (by decide) (by decide)) (fun _ _ _ q => q) (Or.inl hE) pd_7 rfl rfl rfl rfl (by decide) (by decide) fun v8 h9 q10 => ?_
  obtain ⟨rfl, hh⟩ := q10
  obtain rfl := hh.symm
  show Go C Z n0 (fun v h => v = some (.int (idx3 a b e c.toInt8.toInt32)) ∧ h = h0) [] h0 0 0 21 #[.val (.ref t), .val (.int c), .val (.int 0), .val (.int 3)] [(.int 3)]
  refine g_istore_n o (pc := 21) d_jdk_43_method_22_21 (L' := #[.val (.ref t), .val (.int c), .val (.int 0), .val (.int 3)]) rfl ?_
  refine g_iload_n o (pc := 22) d_jdk_43_method_22_22 rfl ?_
  refine g_iload_n o (pc := 23) d_jdk_43_method_22_23 rfl ?_
  refine g_icmp o (pc := 24) d_jdk_43_method_22_24 (t := 29) (by decide) rfl c_lt (fun _ => ?_) (fun hn11 => absurd (by decide) hn11)
  refine g_aload_n o (pc := 29) d_jdk_43_method_22_29 rfl rfl ?_
  refine g_iload_n o (pc := 30) d_jdk_43_method_22_30 rfl ?_
  refine g_iload_n o (pc := 31) d_jdk_43_method_22_31 rfl ?_
  refine g_iload_n o (pc := 32) d_jdk_43_method_22_32 rfl ?_
  refine g_static o (pc := 33) [(.ref t), (.int c), (.int 0), (.int 3)] [] d_jdk_43_method_22_33 (wd_117 hw) (wd_118 hw) (wd_67 hw) (wd_119 hw) (by decide) (Met.back o (W := 0) (rm_ixc C.l Z a0 hw n0 h0 X0 t kt a b e c Kt) (wd_119 hw) (wd_67 hw) (by decide) (by decide)) (fun _ _ _ q => q) (Or.inl hE) pd_8 rfl rfl rfl rfl (by decide) (by decide) fun v12 h13 q14 => ?_
  obtain ⟨rfl, hh⟩ := q14
  obtain rfl := hh.symm
  show Go C Z n0 (fun v h => v = some (.int (idx3 a b e c.toInt8.toInt32)) ∧ h = h0) [] h0 0 0 36 #[.val (.ref t), .val (.int c), .val (.int 0), .val (.int 3)] [(.int (idx3 a b e c.toInt8.toInt32))]
  refine g_ireturn o (pc := 36) d_jdk_43_method_22_36 ?_ (by decide) (by decide)
  exact ⟨rfl, rfl⟩
set_option maxRecDepth 65536 in
set_option maxHeartbeats 40000000 in
theorem rm_i2 (l : Launch) (Z : State) (a0 : Array Value) (hw : ∀ d ∈ tables_1, d.before a0 Z = true) (n0 : Nat) (h0 : Heap) (X0 : Old Z n0 h0) (y : Addr) (a : Int32) (b : Int32) (e : Int32) (c : Int32) (zc : Int32) (Sc : Sta Z Z.heap "java/lang/String" "COMPACT_STRINGS" "Z" (.int zc)) (nzc : ¬ zc = 0) (Sy : Str Z h0 y [a, b, e]) (lc : Lat c) :
    Met l Z n0 (⟨"java/lang/String", "indexOf", "(II)I"⟩ : MethodName) jdk_42_method_80_code 3 (some .int) ({ frames := 2, cells := 0, slots := 0, locals := 32 } : Room) #[(.ref y), (.int c), (.int 0)] h0 (fun v h => v = some (.int (idx3 a.toInt8.toInt32 b.toInt8.toInt32 e.toInt8.toInt32 c.toInt8.toInt32)) ∧ h = h0) := by
  refine met_of (plainFor_of_name pn_0) hw (L := #[.val (.ref y), .val (.int c), .val (.int 0)]) (fun m => by first | (simp [entryFrame, mkF, argsToLocals, Value.category]; done) | rfl) fun C hl hwd hE hPL hcs hr o => ?_
  subst hl
  have o : Ok C Z a0 jdk_42_method_80_code 3 (some .int) "indexOf" "java/lang/String" ({ frames := 2, cells := 0, slots := 0, locals := 32 } : Room) := o
  obtain ⟨Ay, Fy, py, t, kt, Vy, Kt⟩ := id Sy
  have Kt : Arv Z h0 t kt .byte 3 [.int a.toInt8.toInt32, .int b.toInt8.toInt32, .int e.toInt8.toInt32] (.int 0) := Kt
  refine g_aload_n o (pc := 0) d_jdk_42_method_80_0 rfl rfl ?_
  refine g_virtual o (pc := 1) y [] [] d_jdk_42_method_80_1 (wd_60 hw) (wd_61 hw) (wd_63 hw) (wd_62 hw) (fun _ q => notFace_of_selects q) (by decide) Ay (Met.back o (W := 0) (rm_lat1 C.l Z a0 hw n0 h0 X0 y zc Sc nzc Fy) (wd_64 hw) (wd_14 hw) (by decide) (by decide)) (fun _ _ _ q => q) (Or.inl hE) pd_9 rfl rfl rfl rfl (by decide) (by decide) fun v1 h2 q3 => ?_
  obtain ⟨rfl, hh⟩ := q3
  obtain rfl := hh.symm
  show Go C Z n0 (fun v h => v = some (.int (idx3 a.toInt8.toInt32 b.toInt8.toInt32 e.toInt8.toInt32 c.toInt8.toInt32)) ∧ h = h0) [] h0 0 0 4 #[.val (.ref y), .val (.int c), .val (.int 0)] [(.int 1)]
  refine g_ifC o (pc := 4) d_jdk_42_method_80_4 (t := 23) (by decide) rfl c_eq (fun hy4 => absurd hy4 (by decide)) (fun _ => ?_)
  refine g_aload_n o (pc := 7) d_jdk_42_method_80_7 rfl rfl ?_
  refine g_getF o (pc := 8) d_jdk_42_method_80_8 (wd_39 hw) Via.refl Vy ?_
  refine g_iload_n o (pc := 11) d_jdk_42_method_80_11 rfl ?_
  refine g_iload_n o (pc := 12) d_jdk_42_method_80_12 rfl ?_
  refine g_aload_n o (pc := 13) d_jdk_42_method_80_13 rfl rfl ?_
  refine g_virtual o (pc := 14) y [] [(.int 0), (.int c), (.ref t)] d_jdk_42_method_80_14 (wd_88 hw) (wd_46 hw) (wd_48 hw) (wd_47 hw) (fun _ q => notFace_of_selects q) (by decide) Ay (W := 3) (kc := 0) (ks := 0) (backLen o (wd_13 hw) Sc nzc X0 Sy (Nat.le_of_ble_eq_true rfl) (by decide) (by decide)) (fun _ _ _ q => q) (Or.inl hE) pd_0 rfl rfl rfl rfl (by decide) (by decide) fun v5 h6 q7 => ?_
  obtain ⟨rfl, hh⟩ := q7
  obtain rfl := hh.symm
  show Go C Z n0 (fun v h => v = some (.int (idx3 a.toInt8.toInt32 b.toInt8.toInt32 e.toInt8.toInt32 c.toInt8.toInt32)) ∧ h = h0) [] h0 0 0 17 #[.val (.ref y), .val (.int c), .val (.int 0)] [(.int 3), (.int 0), (.int c), (.ref t)]
  refine g_static o (pc := 17) [(.ref t), (.int c), (.int 0), (.int 3)] [] d_jdk_42_method_80_17 (wd_104 hw) (wd_105 hw) (wd_67 hw) (wd_106 hw) (by decide) (Met.back o (W := 0) (rm_ix C.l Z a0 hw n0 h0 X0 t kt a.toInt8.toInt32 b.toInt8.toInt32 e.toInt8.toInt32 c Kt lc) (wd_106 hw) (wd_67 hw) (by decide) (by decide)) (fun _ _ _ q => q) (Or.inl hE) pd_8 rfl rfl rfl rfl (by decide) (by decide) fun v8 h9 q10 => ?_
  obtain ⟨rfl, hh⟩ := q10
  obtain rfl := hh.symm
  show Go C Z n0 (fun v h => v = some (.int (idx3 a.toInt8.toInt32 b.toInt8.toInt32 e.toInt8.toInt32 c.toInt8.toInt32)) ∧ h = h0) [] h0 0 0 20 #[.val (.ref y), .val (.int c), .val (.int 0)] [(.int (idx3 a.toInt8.toInt32 b.toInt8.toInt32 e.toInt8.toInt32 c.toInt8.toInt32))]
  refine g_goto o (pc := 20) d_jdk_42_method_80_20 (t := 36) (by decide) rfl ?_
  refine g_ireturn o (pc := 36) d_jdk_42_method_80_36 ?_ (by decide) (by decide)
  exact ⟨rfl, rfl⟩
set_option maxRecDepth 65536 in
set_option maxHeartbeats 40000000 in
theorem rm_i1 (l : Launch) (Z : State) (a0 : Array Value) (hw : ∀ d ∈ tables_1, d.before a0 Z = true) (n0 : Nat) (h0 : Heap) (X0 : Old Z n0 h0) (y : Addr) (a : Int32) (b : Int32) (e : Int32) (c : Int32) (zc : Int32) (Sc : Sta Z Z.heap "java/lang/String" "COMPACT_STRINGS" "Z" (.int zc)) (nzc : ¬ zc = 0) (Sy : Str Z h0 y [a, b, e]) (lc : Lat c) :
    Met l Z n0 (⟨"java/lang/String", "indexOf", "(I)I"⟩ : MethodName) jdk_42_method_79_code 2 (some .int) ({ frames := 3, cells := 0, slots := 0, locals := 46 } : Room) #[(.ref y), (.int c)] h0 (fun v h => v = some (.int (idx3 a.toInt8.toInt32 b.toInt8.toInt32 e.toInt8.toInt32 c.toInt8.toInt32)) ∧ h = h0) := by
  refine met_of (plainFor_of_name pn_0) hw (L := #[.val (.ref y), .val (.int c)]) (fun m => by first | (simp [entryFrame, mkF, argsToLocals, Value.category]; done) | rfl) fun C hl hwd hE hPL hcs hr o => ?_
  subst hl
  have o : Ok C Z a0 jdk_42_method_79_code 2 (some .int) "indexOf" "java/lang/String" ({ frames := 3, cells := 0, slots := 0, locals := 46 } : Room) := o
  refine g_aload_n o (pc := 0) d_jdk_42_method_79_0 rfl rfl ?_
  refine g_iload_n o (pc := 1) d_jdk_42_method_79_1 rfl ?_
  refine g_iconst o (pc := 2) d_jdk_42_method_79_2 (v := 0) rfl ?_
  have q4 := Sy.exa
  refine g_virtual o (pc := 3) y [(.int c), (.int 0)] [] d_jdk_42_method_79_3 (wd_99 hw) (wd_100 hw) (wd_102 hw) (wd_101 hw) (fun _ q => notFace_of_selects q) (by decide) q4 (Met.back o (W := 0) (rm_i2 C.l Z a0 hw n0 h0 X0 y a b e c zc Sc nzc Sy lc) (wd_103 hw) (wd_14 hw) (by decide) (by decide)) (fun _ _ _ q => q) (Or.inl hE) pd_7 rfl rfl rfl rfl (by decide) (by decide) fun v1 h2 q3 => ?_
  obtain ⟨rfl, hh⟩ := q3
  obtain rfl := hh.symm
  show Go C Z n0 (fun v h => v = some (.int (idx3 a.toInt8.toInt32 b.toInt8.toInt32 e.toInt8.toInt32 c.toInt8.toInt32)) ∧ h = h0) [] h0 0 0 6 #[.val (.ref y), .val (.int c)] [(.int (idx3 a.toInt8.toInt32 b.toInt8.toInt32 e.toInt8.toInt32 c.toInt8.toInt32))]
  refine g_ireturn o (pc := 6) d_jdk_42_method_79_6 ?_ (by decide) (by decide)
  exact ⟨rfl, rfl⟩
set_option maxRecDepth 65536 in
set_option maxHeartbeats 40000000 in
theorem lp_nest {C : Cx} {Z : State} {a0 : Array Value} (hw : ∀ d ∈ tables_1, d.before a0 Z = true) (hE : C.EL = consts_1) (hPL : C.PL = consts_1) (hcs : C.cs = 16) (hwd : C.wide = true) (n0 : Nat) (o : Ok C Z a0 prog_2_method_2_code 6 (some .int) "nesting" "com/example/enact/enact/compiler/XPathText" ({ frames := 6, cells := 0, slots := 0, locals := 100 } : Room)) (h0 : Heap) (X0 : Old Z n0 h0) (x : Addr) (cs : List Int32) (R : Nat) (zc : Int32) (fm : Value) (Sc : Sta Z Z.heap "java/lang/String" "COMPACT_STRINGS" "Z" (.int zc)) (nzc : ¬ zc = 0) (Sf : Sta Z Z.heap "jdk/internal/util/Preconditions" "SIOOBE_FORMATTER" "Ljava/util/function/BiFunction;" fm) (rf : fm.isRef = true) (hlen : cs.length = 14) (hlat : ∀ ch_ ∈ cs, Lat ch_) :
    ∀ (f : Nat) (i : Nat) (D : Nat) (M : Nat) (s4 : Slot) (s5 : Slot) (h1 : Heap), (s4 = .unset ∨ ∃ w, s4 = .val w ∧ w.category = 1) → (s5 = .unset ∨ ∃ w, s5 = .val w ∧ w.category = 1) → (Old Z n0 h1) → (Str Z h1 x cs) → (Keep h0 h1 []) → (i ≤ 14) → (14 - i < f) → (D ≤ i) → (M ≤ i) → (nestN 14 cs f D M i = R) → Go C Z n0 (fun v h => v = some (.int (Int32.ofNat R)) ∧ Keep h0 h []) [] h1 0 0 6 #[.val (.ref x), .val (.int (Int32.ofNat D)), .val (.int (Int32.ofNat M)), .val (.int (Int32.ofNat i)), s4, s5] [] := by
  intro f
  induction f with
  | zero => intro i D M s4 s5 h1 h4 h5 X1 S1 K1 hi hf hD hM hR; exfalso; omega
  | succ f ih =>
    intro i D M s4 s5 h1 h4 h5 X1 S1 K1 hi hf hD hM hR
    refine g_iload_n o (pc := 6) d_prog_2_method_2_6 rfl ?_
    refine g_aload_n o (pc := 7) d_prog_2_method_2_7 rfl rfl ?_
    refine g_virtual o (pc := 8) x [] [(.int (Int32.ofNat i))] d_prog_2_method_2_8 (wd_45 hw) (wd_46 hw) (wd_48 hw) (wd_47 hw) (fun _ q => notFace_of_selects q) (by decide) S1.exa (W := 1) (kc := 0) (ks := 0) (backLen o (wd_13 hw) Sc nzc X1 S1 (by rw [hlen]; decide) (by decide) (by decide)) (fun _ _ _ q => q) (Or.inr fun _ _ q => by rw [q.2]; exact Mv.refl) pd_0 rfl rfl rfl rfl (by decide) (by decide) fun v1 h2 q3 => ?_
    obtain ⟨rfl, hh⟩ := q3
    obtain rfl := hh.symm
    show Go C Z n0 (fun v h => v = some (.int (Int32.ofNat R)) ∧ Keep h0 h []) [] h1 0 0 11 #[.val (.ref x), .val (.int (Int32.ofNat D)), .val (.int (Int32.ofNat M)), .val (.int (Int32.ofNat i)), s4, s5] [(.int (Int32.ofNat cs.length)), (.int (Int32.ofNat i))]
    rw [hlen]
    show Go C Z n0 (fun v h => v = some (.int (Int32.ofNat R)) ∧ Keep h0 h []) [] h1 0 0 11 #[.val (.ref x), .val (.int (Int32.ofNat D)), .val (.int (Int32.ofNat M)), .val (.int (Int32.ofNat i)), s4, s5] [(.int 14), (.int (Int32.ofNat i))]
    refine g_icmpN o (pc := 11) d_prog_2_method_2_11 (t := 94) (by decide) rfl c_ge (fun hy4 => ?_) (fun hn5 => ?_)
    · refine g_iload_n o (pc := 94) d_prog_2_method_2_94 rfl ?_
      refine g_ireturn o (pc := 95) d_prog_2_method_2_95 ?_ (by decide) (by decide)
      exact ⟨congrArg (fun z => some (Value.int (Int32.ofNat z))) ((nn_0 (mt (n_lt (i := i) (j := 14) (by omega) (by omega)).mpr hy4)).symm.trans hR), K1⟩
    · have hlt := ((n_lt (i := i) (j := 14) (by omega) (by omega)).mp hn5)
      refine g_aload_n o (pc := 14) d_prog_2_method_2_14 rfl rfl ?_
      refine g_iload_n o (pc := 15) d_prog_2_method_2_15 rfl ?_
      refine g_virtual o (pc := 16) x [(.int (Int32.ofNat i))] [] d_prog_2_method_2_16 (wd_55 hw) (wd_56 hw) (wd_58 hw) (wd_57 hw) (fun _ q => notFace_of_selects q) (by decide) S1.exa (W := 0) (kc := 0) (ks := 0) (backCh o (wd_13 hw) Sc nzc Sf rf X1 S1 (by rw [hlen]; decide) (i := i) (by rw [hlen]; exact hlt) rfl (by decide) (by decide)) (fun _ _ _ q => q) (Or.inr fun _ _ q => by rw [q.2]; exact Mv.refl) pd_3 rfl rfl rfl rfl (by decide) (by decide) fun v6 h7 q8 => ?_
      obtain ⟨rfl, hh⟩ := q8
      obtain rfl := hh.symm
      show Go C Z n0 (fun v h => v = some (.int (Int32.ofNat R)) ∧ Keep h0 h []) [] h1 0 0 19 #[.val (.ref x), .val (.int (Int32.ofNat D)), .val (.int (Int32.ofNat M)), .val (.int (Int32.ofNat i)), s4, s5] [(.int (cs.getD i 0))]
      refine g_istore o (pc := 19) d_prog_2_method_2_19 (L' := #[.val (.ref x), .val (.int (Int32.ofNat D)), .val (.int (Int32.ofNat M)), .val (.int (Int32.ofNat i)), .val (.int (cs.getD i 0)), s5]) (store_cat rfl h4 rfl rfl) ?_
      refine g_aload_n o (pc := 21) d_prog_2_method_2_21 rfl rfl ?_
      refine g_iload_n o (pc := 22) d_prog_2_method_2_22 rfl ?_
      refine g_staticW o hwd (pc := 23) [(.ref x), (.int (Int32.ofNat i))] [] d_prog_2_method_2_23 (wd_77 hw) (wd_78 hw) (wd_43 hw) (wd_79 hw) (by decide) (MetW.back hE hPL hcs o (W := 0) (fun r => rm_alc r C.l Z a0 hw n0 h1 X1 x cs i zc fm Sc nzc Sf rf S1 hlen hlt) (wd_79 hw) (wd_43 hw) (by decide) (by decide)) (fun _ _ _ q => q) pd_5 rfl rfl rfl rfl (by decide) (by decide) fun v9 h10 q11 => ?_
      obtain ⟨rfl, K12⟩ := q11
      show Go C Z n0 (fun v h => v = some (.int (Int32.ofNat R)) ∧ Keep h0 h []) [] h10 0 0 26 #[.val (.ref x), .val (.int (Int32.ofNat D)), .val (.int (Int32.ofNat M)), .val (.int (Int32.ofNat i)), .val (.int (cs.getD i 0)), s5] [(.int (Int32.ofNat (aloc 14 cs i)))]
      have hal := aloc_le (cs := cs) hlt
      refine g_istore o (pc := 26) d_prog_2_method_2_26 (L' := #[.val (.ref x), .val (.int (Int32.ofNat D)), .val (.int (Int32.ofNat M)), .val (.int (Int32.ofNat i)), .val (.int (cs.getD i 0)), .val (.int (Int32.ofNat (aloc 14 cs i)))]) (store_cat rfl h5 rfl rfl) ?_
      refine g_iload o (pc := 28) d_prog_2_method_2_28 rfl ?_
      refine g_iload_n o (pc := 30) d_prog_2_method_2_30 rfl ?_
      refine g_icmpN o (pc := 31) d_prog_2_method_2_31 (t := 40) (by decide) rfl c_le (fun hy13 => ?_) (fun hn14 => ?_)
      · refine g_ldcP o hwd (pc := 40) d_prog_2_method_2_40 (wd_93 hw) (wS_ hw) (m := 12) (cs := [40, 91, 123]) (by rw [hE]; exact List.mem_of_getElem? (i := 0) rfl) (by rw [hPL]; exact List.mem_of_getElem? (i := 0) rfl) (by decide +kernel) (by decide +kernel) (by decide) (by decide) (by decide) (by decide) (by decide) hcs.symm (by decide) (by decide) fun a15 h16 E17 St18 => ?_
        refine g_iload o (pc := 42) d_prog_2_method_2_42 rfl ?_
        have q19 := ((X1.keep K12 all0).ext E17)
        have q23 := St18.exa
        refine g_virtual o (pc := 44) a15 [(.int (cs.getD i 0))] [] d_prog_2_method_2_44 (wd_94 hw) (wd_95 hw) (wd_97 hw) (wd_96 hw) (fun _ q => notFace_of_selects q) (by decide) q23 (Met.back o (W := 0) (rm_i1 C.l Z a0 hw n0 h16 q19 a15 40 91 123 (cs.getD i 0) zc Sc nzc St18 (getD_all (by decide) hlat i)) (wd_98 hw) (wd_14 hw) (by decide) (by decide)) (fun _ _ _ q => q) (Or.inr fun _ _ q => by rw [q.2]; exact Mv.refl) pd_10 rfl rfl rfl rfl (by decide) (by decide) fun v20 h21 q22 => ?_
        obtain ⟨rfl, hh⟩ := q22
        obtain rfl := hh.symm
        show Go C Z n0 (fun v h => v = some (.int (Int32.ofNat R)) ∧ Keep h0 h []) [] h16 0 0 47 #[.val (.ref x), .val (.int (Int32.ofNat D)), .val (.int (Int32.ofNat M)), .val (.int (Int32.ofNat i)), .val (.int (cs.getD i 0)), .val (.int (Int32.ofNat (aloc 14 cs i)))] [(.int (idx3 (40 : Int32).toInt8.toInt32 (91 : Int32).toInt8.toInt32 (123 : Int32).toInt8.toInt32 (cs.getD i 0).toInt8.toInt32))]
        refine g_ifC o (pc := 47) d_prog_2_method_2_47 (t := 65) (by decide) rfl c_lt (fun hy24 => ?_) (fun hn25 => ?_)
        · refine g_ldcP o hwd (pc := 65) d_prog_2_method_2_65 (wd_125 hw) (wS_ hw) (m := 12) (cs := [41, 93, 125]) (by rw [hE]; exact List.mem_of_getElem? (i := 1) rfl) (by rw [hPL]; exact List.mem_of_getElem? (i := 1) rfl) (by decide +kernel) (by decide +kernel) (by decide) (by decide) (by decide) (by decide) (by decide) hcs.symm (by decide) (by decide) fun a26 h27 E28 St29 => ?_
          refine g_iload o (pc := 67) d_prog_2_method_2_67 rfl ?_
          have q30 := (q19.ext E28)
          have q34 := St29.exa
          refine g_virtual o (pc := 69) a26 [(.int (cs.getD i 0))] [] d_prog_2_method_2_69 (wd_94 hw) (wd_95 hw) (wd_97 hw) (wd_96 hw) (fun _ q => notFace_of_selects q) (by decide) q34 (Met.back o (W := 0) (rm_i1 C.l Z a0 hw n0 h27 q30 a26 41 93 125 (cs.getD i 0) zc Sc nzc St29 (getD_all (by decide) hlat i)) (wd_98 hw) (wd_14 hw) (by decide) (by decide)) (fun _ _ _ q => q) (Or.inr fun _ _ q => by rw [q.2]; exact Mv.refl) pd_10 rfl rfl rfl rfl (by decide) (by decide) fun v31 h32 q33 => ?_
          obtain ⟨rfl, hh⟩ := q33
          obtain rfl := hh.symm
          show Go C Z n0 (fun v h => v = some (.int (Int32.ofNat R)) ∧ Keep h0 h []) [] h27 0 0 72 #[.val (.ref x), .val (.int (Int32.ofNat D)), .val (.int (Int32.ofNat M)), .val (.int (Int32.ofNat i)), .val (.int (cs.getD i 0)), .val (.int (Int32.ofNat (aloc 14 cs i)))] [(.int (idx3 (41 : Int32).toInt8.toInt32 (93 : Int32).toInt8.toInt32 (125 : Int32).toInt8.toInt32 (cs.getD i 0).toInt8.toInt32))]
          refine g_ifC o (pc := 72) d_prog_2_method_2_72 (t := 88) (by decide) rfl c_lt (fun hy35 => ?_) (fun hn36 => ?_)
          · refine g_iinc o (pc := 88) d_prog_2_method_2_88 rfl (w := (Int32.ofNat (i + 1))) (n_add i 1) (L' := #[.val (.ref x), .val (.int (Int32.ofNat D)), .val (.int (Int32.ofNat M)), .val (.int (Int32.ofNat (i + 1))), .val (.int (cs.getD i 0)), .val (.int (Int32.ofNat (aloc 14 cs i)))]) rfl ?_
            refine g_goto o (pc := 91) d_prog_2_method_2_91 (t := 6) (by decide) rfl ?_
            exact ih (i + 1) (D) (M) (.val (.int (cs.getD i 0))) (.val (.int (Int32.ofNat (aloc 14 cs i)))) h27 (Or.inr ⟨_, rfl, rfl⟩) (Or.inr ⟨_, rfl, rfl⟩) q30 (((S1.keep K12 all0).ext E17).ext E28) (((K1.trans K12 all0).ext E17).ext E28) (by omega) (by omega) (by omega) (by omega) ((nn_4 hlt (mt (n_lt (i := i) (j := aloc 14 cs i) (by omega) (by omega)).mpr hy13) (fun z => (idx_in (a := 40) (b := 91) (e := 123) (by decide) (by decide) (by decide) (getD_all (by decide) hlat i)).mpr z hy24) (fun z => (idx_in (a := 41) (b := 93) (e := 125) (by decide) (by decide) (by decide) (getD_all (by decide) hlat i)).mpr z.1 hy35)).symm.trans hR)
          · refine g_iload_n o (pc := 75) d_prog_2_method_2_75 rfl ?_
            refine g_ifCN o (pc := 76) d_prog_2_method_2_76 (t := 88) (by decide) rfl c_le (fun hy37 => ?_) (fun hn38 => ?_)
            · refine g_iinc o (pc := 88) d_prog_2_method_2_88 rfl (w := (Int32.ofNat (i + 1))) (n_add i 1) (L' := #[.val (.ref x), .val (.int (Int32.ofNat D)), .val (.int (Int32.ofNat M)), .val (.int (Int32.ofNat (i + 1))), .val (.int (cs.getD i 0)), .val (.int (Int32.ofNat (aloc 14 cs i)))]) rfl ?_
              refine g_goto o (pc := 91) d_prog_2_method_2_91 (t := 6) (by decide) rfl ?_
              exact ih (i + 1) (D) (M) (.val (.int (cs.getD i 0))) (.val (.int (Int32.ofNat (aloc 14 cs i)))) h27 (Or.inr ⟨_, rfl, rfl⟩) (Or.inr ⟨_, rfl, rfl⟩) q30 (((S1.keep K12 all0).ext E17).ext E28) (((K1.trans K12 all0).ext E17).ext E28) (by omega) (by omega) (by omega) (by omega) ((nn_4 hlt (mt (n_lt (i := i) (j := aloc 14 cs i) (by omega) (by omega)).mpr hy13) (fun z => (idx_in (a := 40) (b := 91) (e := 123) (by decide) (by decide) (by decide) (getD_all (by decide) hlat i)).mpr z hy24) (fun z => (mt (n_lt (i := 0) (j := D) (by omega) (by omega)).mpr hy37) z.2)).symm.trans hR)
            · refine g_iinc o (pc := 79) d_prog_2_method_2_79 rfl (w := (Int32.ofNat (D - 1))) (by rw [show Int32.ofInt (-1) = -1 from by decide, ← Int32.sub_eq_add_neg]; exact n_sub1 ((n_lt (i := 0) (j := D) (by omega) (by omega)).mp hn38)) (L' := #[.val (.ref x), .val (.int (Int32.ofNat (D - 1))), .val (.int (Int32.ofNat M)), .val (.int (Int32.ofNat i)), .val (.int (cs.getD i 0)), .val (.int (Int32.ofNat (aloc 14 cs i)))]) rfl ?_
              refine g_iinc o (pc := 82) d_prog_2_method_2_82 rfl (w := (Int32.ofNat (i + 1))) (n_add i 1) (L' := #[.val (.ref x), .val (.int (Int32.ofNat (D - 1))), .val (.int (Int32.ofNat M)), .val (.int (Int32.ofNat (i + 1))), .val (.int (cs.getD i 0)), .val (.int (Int32.ofNat (aloc 14 cs i)))]) rfl ?_
              refine g_goto o (pc := 85) d_prog_2_method_2_85 (t := 91) (by decide) rfl ?_
              refine g_goto o (pc := 91) d_prog_2_method_2_91 (t := 6) (by decide) rfl ?_
              exact ih (i + 1) (D - 1) (M) (.val (.int (cs.getD i 0))) (.val (.int (Int32.ofNat (aloc 14 cs i)))) h27 (Or.inr ⟨_, rfl, rfl⟩) (Or.inr ⟨_, rfl, rfl⟩) q30 (((S1.keep K12 all0).ext E17).ext E28) (((K1.trans K12 all0).ext E17).ext E28) (by omega) (by omega) (by omega) (by omega) ((nn_3 hlt (mt (n_lt (i := i) (j := aloc 14 cs i) (by omega) (by omega)).mpr hy13) (fun z => (idx_in (a := 40) (b := 91) (e := 123) (by decide) (by decide) (by decide) (getD_all (by decide) hlat i)).mpr z hy24) ((idx_in (a := 41) (b := 93) (e := 125) (by decide) (by decide) (by decide) (getD_all (by decide) hlat i)).mp hn36) ((n_lt (i := 0) (j := D) (by omega) (by omega)).mp hn38)).symm.trans hR)
        · refine g_iinc o (pc := 50) d_prog_2_method_2_50 rfl (w := (Int32.ofNat (D + 1))) (n_add D 1) (L' := #[.val (.ref x), .val (.int (Int32.ofNat (D + 1))), .val (.int (Int32.ofNat M)), .val (.int (Int32.ofNat i)), .val (.int (cs.getD i 0)), .val (.int (Int32.ofNat (aloc 14 cs i)))]) rfl ?_
          refine g_iload_n o (pc := 53) d_prog_2_method_2_53 rfl ?_
          refine g_iload_n o (pc := 54) d_prog_2_method_2_54 rfl ?_
          refine g_static o (pc := 55) [(.int (Int32.ofNat M)), (.int (Int32.ofNat (D + 1)))] [] d_prog_2_method_2_55 (wd_120 hw) (wd_111 hw) (wd_112 hw) (wd_113 hw) (by decide) (Met.back o (W := 0) (rm_max C.l Z a0 hw n0 h16 q19 M (D + 1) (by omega) (by omega)) (wd_113 hw) (wd_112 hw) (by decide) (by decide)) (fun _ _ _ q => q) (Or.inr fun _ _ q => by rw [q.2]; exact Mv.refl) pd_7 rfl rfl rfl rfl (by decide) (by decide) fun v39 h40 q41 => ?_
          obtain ⟨rfl, hh⟩ := q41
          obtain rfl := hh.symm
          show Go C Z n0 (fun v h => v = some (.int (Int32.ofNat R)) ∧ Keep h0 h []) [] h16 0 0 58 #[.val (.ref x), .val (.int (Int32.ofNat (D + 1))), .val (.int (Int32.ofNat M)), .val (.int (Int32.ofNat i)), .val (.int (cs.getD i 0)), .val (.int (Int32.ofNat (aloc 14 cs i)))] [(.int (Int32.ofNat (max M (D + 1))))]
          refine g_istore_n o (pc := 58) d_prog_2_method_2_58 (L' := #[.val (.ref x), .val (.int (Int32.ofNat (D + 1))), .val (.int (Int32.ofNat (max M (D + 1)))), .val (.int (Int32.ofNat i)), .val (.int (cs.getD i 0)), .val (.int (Int32.ofNat (aloc 14 cs i)))]) rfl ?_
          refine g_iinc o (pc := 59) d_prog_2_method_2_59 rfl (w := (Int32.ofNat (i + 1))) (n_add i 1) (L' := #[.val (.ref x), .val (.int (Int32.ofNat (D + 1))), .val (.int (Int32.ofNat (max M (D + 1)))), .val (.int (Int32.ofNat (i + 1))), .val (.int (cs.getD i 0)), .val (.int (Int32.ofNat (aloc 14 cs i)))]) rfl ?_
          refine g_goto o (pc := 62) d_prog_2_method_2_62 (t := 91) (by decide) rfl ?_
          refine g_goto o (pc := 91) d_prog_2_method_2_91 (t := 6) (by decide) rfl ?_
          exact ih (i + 1) (D + 1) (max M (D + 1)) (.val (.int (cs.getD i 0))) (.val (.int (Int32.ofNat (aloc 14 cs i)))) h16 (Or.inr ⟨_, rfl, rfl⟩) (Or.inr ⟨_, rfl, rfl⟩) q19 ((S1.keep K12 all0).ext E17) ((K1.trans K12 all0).ext E17) (by omega) (by omega) (by omega) (by omega) ((nn_2 hlt (mt (n_lt (i := i) (j := aloc 14 cs i) (by omega) (by omega)).mpr hy13) ((idx_in (a := 40) (b := 91) (e := 123) (by decide) (by decide) (by decide) (getD_all (by decide) hlat i)).mp hn25)).symm.trans hR)
      · refine g_iload o (pc := 34) d_prog_2_method_2_34 rfl ?_
        refine g_istore_n o (pc := 36) d_prog_2_method_2_36 (L' := #[.val (.ref x), .val (.int (Int32.ofNat D)), .val (.int (Int32.ofNat M)), .val (.int (Int32.ofNat (aloc 14 cs i))), .val (.int (cs.getD i 0)), .val (.int (Int32.ofNat (aloc 14 cs i)))]) rfl ?_
        refine g_goto o (pc := 37) d_prog_2_method_2_37 (t := 91) (by decide) rfl ?_
        refine g_goto o (pc := 91) d_prog_2_method_2_91 (t := 6) (by decide) rfl ?_
        have hgo := ((n_lt (i := i) (j := aloc 14 cs i) (by omega) (by omega)).mp hn14)
        exact ih (aloc 14 cs i) (D) (M) (.val (.int (cs.getD i 0))) (.val (.int (Int32.ofNat (aloc 14 cs i)))) h10 (Or.inr ⟨_, rfl, rfl⟩) (Or.inr ⟨_, rfl, rfl⟩) (X1.keep K12 all0) (S1.keep K12 all0) (K1.trans K12 all0) (by omega) (by omega) (by omega) (by omega) ((nn_1 hlt ((n_lt (i := i) (j := aloc 14 cs i) (by omega) (by omega)).mp hn14)).symm.trans hR)
set_option maxRecDepth 65536 in
set_option maxHeartbeats 40000000 in
theorem rm_nest (r : Nat) (l : Launch) (Z : State) (a0 : Array Value) (hw : ∀ d ∈ tables_1, d.before a0 Z = true) (n0 : Nat) (h0 : Heap) (X0 : Old Z n0 h0) (x : Addr) (cs : List Int32) (zc : Int32) (fm : Value) (Sc : Sta Z Z.heap "java/lang/String" "COMPACT_STRINGS" "Z" (.int zc)) (nzc : ¬ zc = 0) (Sf : Sta Z Z.heap "jdk/internal/util/Preconditions" "SIOOBE_FORMATTER" "Ljava/util/function/BiFunction;" fm) (rf : fm.isRef = true) (Sx : Str Z h0 x cs) (hlen : cs.length = 14) (hlat : ∀ ch_ ∈ cs, Lat ch_) :
    MetW l Z n0 consts_1 consts_1 16 r (⟨"com/example/enact/enact/compiler/XPathText", "nesting", "(Ljava/lang/String;)I"⟩ : MethodName) prog_2_method_2_code 6 (some .int) ({ frames := 6, cells := 0, slots := 0, locals := 100 } : Room) #[(.ref x)] h0 (fun v h => v = some (.int (Int32.ofNat (nestN 14 cs 15 0 0 0))) ∧ Keep h0 h []) := by
  refine metW_of (plainFor_of_name pn_2) hw (ew_ hw) (L := #[.val (.ref x), .unset, .unset, .unset, .unset, .unset]) (fun m => by first | (simp [entryFrame, mkF, argsToLocals, Value.category]; done) | rfl) fun C hl hwd hE hPL hcs hr o => ?_
  subst hl
  have o : Ok C Z a0 prog_2_method_2_code 6 (some .int) "nesting" "com/example/enact/enact/compiler/XPathText" ({ frames := 6, cells := 0, slots := 0, locals := 100 } : Room) := o
  refine g_iconst o (pc := 0) d_prog_2_method_2_0 (v := 0) rfl ?_
  refine g_istore_n o (pc := 1) d_prog_2_method_2_1 (L' := #[.val (.ref x), .val (.int 0), .unset, .unset, .unset, .unset]) rfl ?_
  refine g_iconst o (pc := 2) d_prog_2_method_2_2 (v := 0) rfl ?_
  refine g_istore_n o (pc := 3) d_prog_2_method_2_3 (L' := #[.val (.ref x), .val (.int 0), .val (.int 0), .unset, .unset, .unset]) rfl ?_
  refine g_iconst o (pc := 4) d_prog_2_method_2_4 (v := 0) rfl ?_
  refine g_istore_n o (pc := 5) d_prog_2_method_2_5 (L' := #[.val (.ref x), .val (.int 0), .val (.int 0), .val (.int 0), .unset, .unset]) rfl ?_
  exact lp_nest hw hE hPL hcs hwd n0 o h0 X0 x cs _ zc fm Sc nzc Sf rf hlen hlat 15 0 0 0 .unset .unset h0 (Or.inl rfl) (Or.inl rfl) X0 Sx (Keep.refl _ []) (by decide) (by decide) (by decide) (by decide) rfl
set_option maxRecDepth 65536 in
set_option maxHeartbeats 40000000 in
theorem rm_fil (l : Launch) (Z : State) (a0 : Array Value) (hw : ∀ d ∈ tables_1, d.before a0 Z = true) (n0 : Nat) (h0 : Heap) (X0 : Old Z n0 h0) (p : Int32)  :
    Met l Z n0 (⟨"com/example/enact/enact/compiler/XPathTextNestingPinLaw", "filler", "(I)C"⟩ : MethodName) method_3_code 2 (some .char) ({ frames := 0, cells := 0, slots := 0, locals := 0 } : Room) #[(.int p)] h0 (fun v h => ∃ y, v = some (.int y) ∧ Lat y ∧ Pl y ∧ h = h0) := by
  refine met_of (plainFor_of_name pn_4) hw (L := #[.val (.int p), .unset]) (fun m => by first | (simp [entryFrame, mkF, argsToLocals, Value.category]; done) | rfl) fun C hl hwd hE hPL hcs hr o => ?_
  subst hl
  have o : Ok C Z a0 method_3_code 2 (some .char) "filler" "com/example/enact/enact/compiler/XPathTextNestingPinLaw" ({ frames := 0, cells := 0, slots := 0, locals := 0 } : Room) := o
  refine g_iload_n o (pc := 0) d_method_3_0 rfl ?_
  refine g_sipush o (pc := 1) d_method_3_1 (v := 255) rfl ?_
  refine g_iand o (pc := 4) d_method_3_4 (v := (p &&& 255)) rfl ?_
  refine g_i2c o (pc := 5) d_method_3_5 (v := (p &&& 255)) (i2c_mask p) ?_
  refine g_istore_n o (pc := 6) d_method_3_6 (L' := #[.val (.int p), .val (.int (p &&& 255))]) rfl ?_
  refine g_iload_n o (pc := 7) d_method_3_7 rfl ?_
  refine g_bipush o (pc := 8) d_method_3_8 (v := 40) rfl ?_
  refine g_icmp o (pc := 10) d_method_3_10 (t := 61) (by decide) rfl c_eq (fun hy1 => ?_) (fun hn2 => ?_)
  · refine g_bipush o (pc := 61) d_method_3_61 (v := 120) rfl ?_
    refine g_nreturn o (pc := 63) (by simp) d_method_3_63 (y := 120) rfl ?_ (by decide) (by decide)
    exact ⟨_, rfl, by decide, ⟨by decide, by decide, by decide, by decide, by decide, by decide, by decide, by decide, by decide⟩, rfl⟩
  · refine g_iload_n o (pc := 13) d_method_3_13 rfl ?_
    refine g_bipush o (pc := 14) d_method_3_14 (v := 41) rfl ?_
    refine g_icmp o (pc := 16) d_method_3_16 (t := 61) (by decide) rfl c_eq (fun hy3 => ?_) (fun hn4 => ?_)
    · refine g_bipush o (pc := 61) d_method_3_61 (v := 120) rfl ?_
      refine g_nreturn o (pc := 63) (by simp) d_method_3_63 (y := 120) rfl ?_ (by decide) (by decide)
      exact ⟨_, rfl, by decide, ⟨by decide, by decide, by decide, by decide, by decide, by decide, by decide, by decide, by decide⟩, rfl⟩
    · refine g_iload_n o (pc := 19) d_method_3_19 rfl ?_
      refine g_bipush o (pc := 20) d_method_3_20 (v := 91) rfl ?_
      refine g_icmp o (pc := 22) d_method_3_22 (t := 61) (by decide) rfl c_eq (fun hy5 => ?_) (fun hn6 => ?_)
      · refine g_bipush o (pc := 61) d_method_3_61 (v := 120) rfl ?_
        refine g_nreturn o (pc := 63) (by simp) d_method_3_63 (y := 120) rfl ?_ (by decide) (by decide)
        exact ⟨_, rfl, by decide, ⟨by decide, by decide, by decide, by decide, by decide, by decide, by decide, by decide, by decide⟩, rfl⟩
      · refine g_iload_n o (pc := 25) d_method_3_25 rfl ?_
        refine g_bipush o (pc := 26) d_method_3_26 (v := 93) rfl ?_
        refine g_icmp o (pc := 28) d_method_3_28 (t := 61) (by decide) rfl c_eq (fun hy7 => ?_) (fun hn8 => ?_)
        · refine g_bipush o (pc := 61) d_method_3_61 (v := 120) rfl ?_
          refine g_nreturn o (pc := 63) (by simp) d_method_3_63 (y := 120) rfl ?_ (by decide) (by decide)
          exact ⟨_, rfl, by decide, ⟨by decide, by decide, by decide, by decide, by decide, by decide, by decide, by decide, by decide⟩, rfl⟩
        · refine g_iload_n o (pc := 31) d_method_3_31 rfl ?_
          refine g_bipush o (pc := 32) d_method_3_32 (v := 123) rfl ?_
          refine g_icmp o (pc := 34) d_method_3_34 (t := 61) (by decide) rfl c_eq (fun hy9 => ?_) (fun hn10 => ?_)
          · refine g_bipush o (pc := 61) d_method_3_61 (v := 120) rfl ?_
            refine g_nreturn o (pc := 63) (by simp) d_method_3_63 (y := 120) rfl ?_ (by decide) (by decide)
            exact ⟨_, rfl, by decide, ⟨by decide, by decide, by decide, by decide, by decide, by decide, by decide, by decide, by decide⟩, rfl⟩
          · refine g_iload_n o (pc := 37) d_method_3_37 rfl ?_
            refine g_bipush o (pc := 38) d_method_3_38 (v := 125) rfl ?_
            refine g_icmp o (pc := 40) d_method_3_40 (t := 61) (by decide) rfl c_eq (fun hy11 => ?_) (fun hn12 => ?_)
            · refine g_bipush o (pc := 61) d_method_3_61 (v := 120) rfl ?_
              refine g_nreturn o (pc := 63) (by simp) d_method_3_63 (y := 120) rfl ?_ (by decide) (by decide)
              exact ⟨_, rfl, by decide, ⟨by decide, by decide, by decide, by decide, by decide, by decide, by decide, by decide, by decide⟩, rfl⟩
            · refine g_iload_n o (pc := 43) d_method_3_43 rfl ?_
              refine g_bipush o (pc := 44) d_method_3_44 (v := 39) rfl ?_
              refine g_icmp o (pc := 46) d_method_3_46 (t := 61) (by decide) rfl c_eq (fun hy13 => ?_) (fun hn14 => ?_)
              · refine g_bipush o (pc := 61) d_method_3_61 (v := 120) rfl ?_
                refine g_nreturn o (pc := 63) (by simp) d_method_3_63 (y := 120) rfl ?_ (by decide) (by decide)
                exact ⟨_, rfl, by decide, ⟨by decide, by decide, by decide, by decide, by decide, by decide, by decide, by decide, by decide⟩, rfl⟩
              · refine g_iload_n o (pc := 49) d_method_3_49 rfl ?_
                refine g_bipush o (pc := 50) d_method_3_50 (v := 34) rfl ?_
                refine g_icmp o (pc := 52) d_method_3_52 (t := 61) (by decide) rfl c_eq (fun hy15 => ?_) (fun hn16 => ?_)
                · refine g_bipush o (pc := 61) d_method_3_61 (v := 120) rfl ?_
                  refine g_nreturn o (pc := 63) (by simp) d_method_3_63 (y := 120) rfl ?_ (by decide) (by decide)
                  exact ⟨_, rfl, by decide, ⟨by decide, by decide, by decide, by decide, by decide, by decide, by decide, by decide, by decide⟩, rfl⟩
                · refine g_iload_n o (pc := 55) d_method_3_55 rfl ?_
                  refine g_bipush o (pc := 56) d_method_3_56 (v := 58) rfl ?_
                  refine g_icmpN o (pc := 58) d_method_3_58 (t := 64) (by decide) rfl c_ne (fun hy17 => ?_) (fun hn18 => ?_)
                  · refine g_iload_n o (pc := 64) d_method_3_64 rfl ?_
                    refine g_nreturn o (pc := 65) (by simp) d_method_3_65 (y := (p &&& 255)) (i2c_mask p) ?_ (by decide) (by decide)
                    exact ⟨_, rfl, and255c p, ⟨hn2, hn4, hn6, hn8, hn10, hn12, hn14, hn16, hy17⟩, rfl⟩
                  · refine g_bipush o (pc := 61) d_method_3_61 (v := 120) rfl ?_
                    refine g_nreturn o (pc := 63) (by simp) d_method_3_63 (y := 120) rfl ?_ (by decide) (by decide)
                    exact ⟨_, rfl, by decide, ⟨by decide, by decide, by decide, by decide, by decide, by decide, by decide, by decide, by decide⟩, rfl⟩
set_option maxRecDepth 65536 in
set_option maxHeartbeats 40000000 in
theorem rm_sym (l : Launch) (Z : State) (a0 : Array Value) (hw : ∀ d ∈ tables_1, d.before a0 Z = true) (n0 : Nat) (h0 : Heap) (X0 : Old Z n0 h0) (op : Int32) (f : Int32) (lf : Lat f) :
    Met l Z n0 (⟨"com/example/enact/enact/compiler/XPathTextNestingPinLaw", "sym", "(IC)C"⟩ : MethodName) method_4_code 2 (some .char) ({ frames := 0, cells := 0, slots := 0, locals := 0 } : Room) #[(.int op), (.int f)] h0 (fun v h => v = some (.int (symF op f)) ∧ h = h0) := by
  refine met_of (plainFor_of_name pn_4) hw (L := #[.val (.int op), .val (.int f)]) (fun m => by first | (simp [entryFrame, mkF, argsToLocals, Value.category]; done) | rfl) fun C hl hwd hE hPL hcs hr o => ?_
  subst hl
  have o : Ok C Z a0 method_4_code 2 (some .char) "sym" "com/example/enact/enact/compiler/XPathTextNestingPinLaw" ({ frames := 0, cells := 0, slots := 0, locals := 0 } : Room) := o
  refine g_iload_n o (pc := 0) d_method_4_0 rfl ?_
  refine g_ifCN o (pc := 1) d_method_4_1 (t := 7) (by decide) rfl c_ne (fun hy1 => ?_) (fun hn2 => ?_)
  · refine g_iload_n o (pc := 7) d_method_4_7 rfl ?_
    refine g_iconst o (pc := 8) d_method_4_8 (v := 1) rfl ?_
    refine g_icmpN o (pc := 9) d_method_4_9 (t := 15) (by decide) rfl c_ne (fun hy3 => ?_) (fun hn4 => ?_)
    · refine g_iload_n o (pc := 15) d_method_4_15 rfl ?_
      refine g_iconst o (pc := 16) d_method_4_16 (v := 2) rfl ?_
      refine g_icmpN o (pc := 17) d_method_4_17 (t := 23) (by decide) rfl c_ne (fun hy5 => ?_) (fun hn6 => ?_)
      · refine g_iload_n o (pc := 23) d_method_4_23 rfl ?_
        refine g_iconst o (pc := 24) d_method_4_24 (v := 3) rfl ?_
        refine g_icmpN o (pc := 25) d_method_4_25 (t := 31) (by decide) rfl c_ne (fun hy7 => ?_) (fun hn8 => ?_)
        · refine g_iload_n o (pc := 31) d_method_4_31 rfl ?_
          refine g_iconst o (pc := 32) d_method_4_32 (v := 4) rfl ?_
          refine g_icmpN o (pc := 33) d_method_4_33 (t := 39) (by decide) rfl c_ne (fun hy9 => ?_) (fun hn10 => ?_)
          · refine g_iload_n o (pc := 39) d_method_4_39 rfl ?_
            refine g_iconst o (pc := 40) d_method_4_40 (v := 5) rfl ?_
            refine g_icmpN o (pc := 41) d_method_4_41 (t := 47) (by decide) rfl c_ne (fun hy11 => ?_) (fun hn12 => ?_)
            · refine g_iload_n o (pc := 47) d_method_4_47 rfl ?_
              refine g_nreturn o (pc := 48) (by simp) d_method_4_48 (y := f) (i2c_lat lf) ?_ (by decide) (by decide)
              exact ⟨by rw [symF, if_neg hy1, if_neg hy3, if_neg hy5, if_neg hy7, if_neg hy9, if_neg hy11], rfl⟩
            · refine g_bipush o (pc := 44) d_method_4_44 (v := 125) rfl ?_
              refine g_nreturn o (pc := 46) (by simp) d_method_4_46 (y := 125) rfl ?_ (by decide) (by decide)
              exact ⟨by rw [symF, if_neg hy1, if_neg hy3, if_neg hy5, if_neg hy7, if_neg hy9, if_pos hn12], rfl⟩
          · refine g_bipush o (pc := 36) d_method_4_36 (v := 93) rfl ?_
            refine g_nreturn o (pc := 38) (by simp) d_method_4_38 (y := 93) rfl ?_ (by decide) (by decide)
            exact ⟨by rw [symF, if_neg hy1, if_neg hy3, if_neg hy5, if_neg hy7, if_pos hn10], rfl⟩
        · refine g_bipush o (pc := 28) d_method_4_28 (v := 41) rfl ?_
          refine g_nreturn o (pc := 30) (by simp) d_method_4_30 (y := 41) rfl ?_ (by decide) (by decide)
          exact ⟨by rw [symF, if_neg hy1, if_neg hy3, if_neg hy5, if_pos hn8], rfl⟩
      · refine g_bipush o (pc := 20) d_method_4_20 (v := 123) rfl ?_
        refine g_nreturn o (pc := 22) (by simp) d_method_4_22 (y := 123) rfl ?_ (by decide) (by decide)
        exact ⟨by rw [symF, if_neg hy1, if_neg hy3, if_pos hn6], rfl⟩
    · refine g_bipush o (pc := 12) d_method_4_12 (v := 91) rfl ?_
      refine g_nreturn o (pc := 14) (by simp) d_method_4_14 (y := 91) rfl ?_ (by decide) (by decide)
      exact ⟨by rw [symF, if_neg hy1, if_pos hn4], rfl⟩
  · refine g_bipush o (pc := 4) d_method_4_4 (v := 40) rfl ?_
    refine g_nreturn o (pc := 6) (by simp) d_method_4_6 (y := 40) rfl ?_ (by decide) (by decide)
    exact ⟨by rw [symF, if_pos hn2], rfl⟩
theorem sym_lat {op f : Int32} (lf : Lat f) : Lat (symF op f) := by
  unfold symF
  by_cases h : op = 0
  · rw [if_pos h]; decide
  rw [if_neg h]; by_cases h : op = 1
  · rw [if_pos h]; decide
  rw [if_neg h]; by_cases h : op = 2
  · rw [if_pos h]; decide
  rw [if_neg h]; by_cases h : op = 3
  · rw [if_pos h]; decide
  rw [if_neg h]; by_cases h : op = 4
  · rw [if_pos h]; decide
  rw [if_neg h]; by_cases h : op = 5
  · rw [if_pos h]; decide
  rw [if_neg h]; exact lf
set_option maxRecDepth 65536 in
set_option maxHeartbeats 40000000 in
theorem rm_put (l : Launch) (Z : State) (a0 : Array Value) (hw : ∀ d ∈ tables_1, d.before a0 Z = true) (n0 : Nat) (h0 : Heap) (X0 : Old Z n0 h0) (c : Addr) (kc : ClassId) (x0 : Int32) (x1 : Int32) (x2 : Int32) (k0 : Int32) (k1 : Int32) (k2 : Int32) (k3 : Int32) (k4 : Int32) (k5 : Int32) (k6 : Int32) (k7 : Int32) (Kc : Arv Z h0 c kc .char 14 [.int x0, .int x1, .int x2, .int 0, .int 0, .int 0, .int 0, .int 0, .int 0, .int 0, .int 0, .int 0, .int 0, .int 0] (.int 0)) (gc : n0 ≤ c) (l_k0 : Lat k0) (l_k1 : Lat k1) (l_k2 : Lat k2) (l_k3 : Lat k3) (l_k4 : Lat k4) (l_k5 : Lat k5) (l_k6 : Lat k6) (l_k7 : Lat k7) :
    Met l Z n0 (⟨"com/example/enact/enact/compiler/XPathTextNestingPinLaw", "put8", "([CCCCCCCCC)V"⟩ : MethodName) method_6_code 9 none ({ frames := 0, cells := 0, slots := 0, locals := 0 } : Room) #[(.ref c), (.int k0), (.int k1), (.int k2), (.int k3), (.int k4), (.int k5), (.int k6), (.int k7)] h0 (fun v h => v = none ∧ Keep h0 h [c] ∧ Arv Z h c kc .char 14 [.int x0, .int x1, .int x2, .int k0, .int k1, .int k2, .int k3, .int k4, .int k5, .int k6, .int k7, .int 0, .int 0, .int 0] (.int 0)) := by
  refine met_of (plainFor_of_name pn_4) hw (L := #[.val (.ref c), .val (.int k0), .val (.int k1), .val (.int k2), .val (.int k3), .val (.int k4), .val (.int k5), .val (.int k6), .val (.int k7)]) (fun m => by first | (simp [entryFrame, mkF, argsToLocals, Value.category]; done) | rfl) fun C hl hwd hE hPL hcs hr o => ?_
  subst hl
  have o : Ok C Z a0 method_6_code 9 none "put8" "com/example/enact/enact/compiler/XPathTextNestingPinLaw" ({ frames := 0, cells := 0, slots := 0, locals := 0 } : Room) := o
  refine g_aload_n o (pc := 0) d_method_6_0 rfl rfl ?_
  refine g_iconst o (pc := 1) d_method_6_1 (v := 3) rfl ?_
  refine g_iload_n o (pc := 2) d_method_6_2 rfl ?_
  refine g_castore o (pc := 3) d_method_6_3 Kc rfl (by decide) (i := 3) rfl (Nat.le_of_ble_eq_true rfl) (y := k0) (i2c_lat l_k0) gc (Or.inl hE) fun h1 W2 V3 => ?_
  have V4 : Arv Z h1 c kc .char 14 [.int x0, .int x1, .int x2, .int k0, .int 0, .int 0, .int 0, .int 0, .int 0, .int 0, .int 0, .int 0, .int 0, .int 0] (.int 0) := V3
  refine g_aload_n o (pc := 4) d_method_6_4 rfl rfl ?_
  refine g_iconst o (pc := 5) d_method_6_5 (v := 4) rfl ?_
  refine g_iload_n o (pc := 6) d_method_6_6 rfl ?_
  refine g_castore o (pc := 7) d_method_6_7 V4 rfl (by decide) (i := 4) rfl (Nat.le_of_ble_eq_true rfl) (y := k1) (i2c_lat l_k1) gc (Or.inl hE) fun h5 W6 V7 => ?_
  have V8 : Arv Z h5 c kc .char 14 [.int x0, .int x1, .int x2, .int k0, .int k1, .int 0, .int 0, .int 0, .int 0, .int 0, .int 0, .int 0, .int 0, .int 0] (.int 0) := V7
  refine g_aload_n o (pc := 8) d_method_6_8 rfl rfl ?_
  refine g_iconst o (pc := 9) d_method_6_9 (v := 5) rfl ?_
  refine g_iload_n o (pc := 10) d_method_6_10 rfl ?_
  refine g_castore o (pc := 11) d_method_6_11 V8 rfl (by decide) (i := 5) rfl (Nat.le_of_ble_eq_true rfl) (y := k2) (i2c_lat l_k2) gc (Or.inl hE) fun h9 W10 V11 => ?_
  have V12 : Arv Z h9 c kc .char 14 [.int x0, .int x1, .int x2, .int k0, .int k1, .int k2, .int 0, .int 0, .int 0, .int 0, .int 0, .int 0, .int 0, .int 0] (.int 0) := V11
  refine g_aload_n o (pc := 12) d_method_6_12 rfl rfl ?_
  refine g_bipush o (pc := 13) d_method_6_13 (v := 6) rfl ?_
  refine g_iload o (pc := 15) d_method_6_15 rfl ?_
  refine g_castore o (pc := 17) d_method_6_17 V12 rfl (by decide) (i := 6) rfl (Nat.le_of_ble_eq_true rfl) (y := k3) (i2c_lat l_k3) gc (Or.inl hE) fun h13 W14 V15 => ?_
  have V16 : Arv Z h13 c kc .char 14 [.int x0, .int x1, .int x2, .int k0, .int k1, .int k2, .int k3, .int 0, .int 0, .int 0, .int 0, .int 0, .int 0, .int 0] (.int 0) := V15
  refine g_aload_n o (pc := 18) d_method_6_18 rfl rfl ?_
  refine g_bipush o (pc := 19) d_method_6_19 (v := 7) rfl ?_
  refine g_iload o (pc := 21) d_method_6_21 rfl ?_
  refine g_castore o (pc := 23) d_method_6_23 V16 rfl (by decide) (i := 7) rfl (Nat.le_of_ble_eq_true rfl) (y := k4) (i2c_lat l_k4) gc (Or.inl hE) fun h17 W18 V19 => ?_
  have V20 : Arv Z h17 c kc .char 14 [.int x0, .int x1, .int x2, .int k0, .int k1, .int k2, .int k3, .int k4, .int 0, .int 0, .int 0, .int 0, .int 0, .int 0] (.int 0) := V19
  refine g_aload_n o (pc := 24) d_method_6_24 rfl rfl ?_
  refine g_bipush o (pc := 25) d_method_6_25 (v := 8) rfl ?_
  refine g_iload o (pc := 27) d_method_6_27 rfl ?_
  refine g_castore o (pc := 29) d_method_6_29 V20 rfl (by decide) (i := 8) rfl (Nat.le_of_ble_eq_true rfl) (y := k5) (i2c_lat l_k5) gc (Or.inl hE) fun h21 W22 V23 => ?_
  have V24 : Arv Z h21 c kc .char 14 [.int x0, .int x1, .int x2, .int k0, .int k1, .int k2, .int k3, .int k4, .int k5, .int 0, .int 0, .int 0, .int 0, .int 0] (.int 0) := V23
  refine g_aload_n o (pc := 30) d_method_6_30 rfl rfl ?_
  refine g_bipush o (pc := 31) d_method_6_31 (v := 9) rfl ?_
  refine g_iload o (pc := 33) d_method_6_33 rfl ?_
  refine g_castore o (pc := 35) d_method_6_35 V24 rfl (by decide) (i := 9) rfl (Nat.le_of_ble_eq_true rfl) (y := k6) (i2c_lat l_k6) gc (Or.inl hE) fun h25 W26 V27 => ?_
  have V28 : Arv Z h25 c kc .char 14 [.int x0, .int x1, .int x2, .int k0, .int k1, .int k2, .int k3, .int k4, .int k5, .int k6, .int 0, .int 0, .int 0, .int 0] (.int 0) := V27
  refine g_aload_n o (pc := 36) d_method_6_36 rfl rfl ?_
  refine g_bipush o (pc := 37) d_method_6_37 (v := 10) rfl ?_
  refine g_iload o (pc := 39) d_method_6_39 rfl ?_
  refine g_castore o (pc := 41) d_method_6_41 V28 rfl (by decide) (i := 10) rfl (Nat.le_of_ble_eq_true rfl) (y := k7) (i2c_lat l_k7) gc (Or.inl hE) fun h29 W30 V31 => ?_
  have V32 : Arv Z h29 c kc .char 14 [.int x0, .int x1, .int x2, .int k0, .int k1, .int k2, .int k3, .int k4, .int k5, .int k6, .int k7, .int 0, .int 0, .int 0] (.int 0) := V31
  refine g_return o (pc := 42) d_method_6_42 ?_ (by decide) (by decide)
  exact ⟨rfl, (((((((((Keep.refl _ [c]).wr W2 (Or.inl (by simp))).wr W6 (Or.inl (by simp))).wr W10 (Or.inl (by simp))).wr W14 (Or.inl (by simp))).wr W18 (Or.inl (by simp))).wr W22 (Or.inl (by simp))).wr W26 (Or.inl (by simp))).wr W30 (Or.inl (by simp))), V32⟩
set_option maxRecDepth 65536 in
set_option maxHeartbeats 40000000 in
theorem rm_next (l : Launch) (Z : State) (a0 : Array Value) (hw : ∀ d ∈ tables_1, d.before a0 Z = true) (n0 : Nat) (h0 : Heap) (X0 : Old Z n0 h0) (D : Nat) (op : Int32) (hD : D < 1000) :
    Met l Z n0 (⟨"com/example/enact/enact/compiler/XPathTextNestingPinLaw", "next", "(II)I"⟩ : MethodName) method_5_code 2 (some .int) ({ frames := 0, cells := 0, slots := 0, locals := 0 } : Room) #[(.int (Int32.ofNat D)), (.int op)] h0 (fun v h => v = some (.int (Int32.ofNat (nxtN D op))) ∧ h = h0) := by
  refine met_of (plainFor_of_name pn_4) hw (L := #[.val (.int (Int32.ofNat D)), .val (.int op)]) (fun m => by first | (simp [entryFrame, mkF, argsToLocals, Value.category]; done) | rfl) fun C hl hwd hE hPL hcs hr o => ?_
  subst hl
  have o : Ok C Z a0 method_5_code 2 (some .int) "next" "com/example/enact/enact/compiler/XPathTextNestingPinLaw" ({ frames := 0, cells := 0, slots := 0, locals := 0 } : Room) := o
  refine g_iload_n o (pc := 0) d_method_5_0 rfl ?_
  refine g_iconst o (pc := 1) d_method_5_1 (v := 3) rfl ?_
  refine g_icmpN o (pc := 2) d_method_5_2 (t := 9) (by decide) rfl c_ge (fun hy1 => ?_) (fun hn2 => ?_)
  · refine g_iload_n o (pc := 9) d_method_5_9 rfl ?_
    refine g_bipush o (pc := 10) d_method_5_10 (v := 6) rfl ?_
    refine g_icmpN o (pc := 12) d_method_5_12 (t := 27) (by decide) rfl c_ge (fun hy3 => ?_) (fun hn4 => ?_)
    · refine g_iload_n o (pc := 27) d_method_5_27 rfl ?_
      refine g_ireturn o (pc := 28) d_method_5_28 ?_ (by decide) (by decide)
      exact ⟨by rw [nxtN, if_neg hy1, if_neg hy3], rfl⟩
    · refine g_iload_n o (pc := 15) d_method_5_15 rfl ?_
      refine g_ifCN o (pc := 16) d_method_5_16 (t := 25) (by decide) rfl c_le (fun hy5 => ?_) (fun hn6 => ?_)
      · refine g_iload_n o (pc := 25) d_method_5_25 rfl ?_
        refine g_ireturn o (pc := 26) d_method_5_26 ?_ (by decide) (by decide)
        have hz := (mt (n_lt (i := 0) (j := D) (by omega) (by omega)).mpr hy5)
        exact ⟨congrArg (fun z => some (Value.int (Int32.ofNat z))) (by rw [nxtN, if_neg hy1, if_pos hn4]; omega), rfl⟩
      · refine g_iload_n o (pc := 19) d_method_5_19 rfl ?_
        refine g_iconst o (pc := 20) d_method_5_20 (v := 1) rfl ?_
        refine g_isub o (pc := 21) d_method_5_21 (v := (Int32.ofNat (D - 1))) (n_sub1 ((n_lt (i := 0) (j := D) (by omega) (by omega)).mp hn6)) ?_
        refine g_goto o (pc := 22) d_method_5_22 (t := 26) (by decide) rfl ?_
        refine g_ireturn o (pc := 26) d_method_5_26 ?_ (by decide) (by decide)
        exact ⟨by rw [nxtN, if_neg hy1, if_pos hn4], rfl⟩
  · refine g_iload_n o (pc := 5) d_method_5_5 rfl ?_
    refine g_iconst o (pc := 6) d_method_5_6 (v := 1) rfl ?_
    refine g_iadd o (pc := 7) d_method_5_7 (v := (Int32.ofNat (D + 1))) (n_add D 1) ?_
    refine g_ireturn o (pc := 8) d_method_5_8 ?_ (by decide) (by decide)
    exact ⟨by rw [nxtN, if_pos hn2], rfl⟩
set_option maxRecDepth 65536 in
set_option maxHeartbeats 40000000 in
theorem bl_391 {C : Cx} {Z : State} {a0 : Array Value} (hw : ∀ d ∈ tables_1, d.before a0 Z = true) (hE : C.EL = consts_1) (hPL : C.PL = consts_1) (hcs : C.cs = 16) (hwd : C.wide = true) (n0 : Nat) (o : Ok C Z a0 code 21 (some .boolean) "law" "com/example/enact/enact/compiler/XPathTextNestingPinLaw" ({ frames := 10, cells := 16, slots := 4224, locals := 208 } : Room)) (h0 : Heap) (X0 : Old Z n0 h0) (p0 : Int32) (p1 : Int32) (p2 : Int32) (p3 : Int32) (f : Int32) (ap : Int32) (q : Int32) (o2 : Int32) (kk : Int32) (ua : Int32) (ub : Int32) (a0_ : Int32) (a1_ : Int32) (a2_ : Int32) (b0_ : Int32) (b1_ : Int32) (b2_ : Int32) (c : Addr) (kc : ClassId) (m0 : Int32) (m1 : Int32) (m2 : Int32) (m3 : Int32) (m4 : Int32) (m5 : Int32) (m6 : Int32) (m7 : Int32) (zc : Int32) (fm : Value) (Sc : Sta Z Z.heap "java/lang/String" "COMPACT_STRINGS" "Z" (.int zc)) (nzc : ¬ zc = 0) (Sf : Sta Z Z.heap "jdk/internal/util/Preconditions" "SIOOBE_FORMATTER" "Ljava/util/function/BiFunction;" fm) (rf : fm.isRef = true) (Kc : Arv Z h0 c kc .char 14 [.int (symF a0_ f), .int (symF a1_ f), .int (symF a2_ f), .int m0, .int m1, .int m2, .int m3, .int m4, .int m5, .int m6, .int m7, .int 0, .int 0, .int 0] (.int 0)) (gc : n0 ≤ c) (lf : Lat f) (l_m0 : Lat m0) (l_m1 : Lat m1) (l_m2 : Lat m2) (l_m3 : Lat m3) (l_m4 : Lat m4) (l_m5 : Lat m5) (l_m6 : Lat m6) (l_m7 : Lat m7) (HK : nestN 14 [symF a0_ f, symF a1_ f, symF a2_ f, m0, m1, m2, m3, m4, m5, m6, m7, symF b0_ f, symF b1_ f, symF b2_ f] 15 0 0 0 = refG kk a0_ a1_ a2_ b0_ b1_ b2_) :
    Go C Z n0 (fun v _ => v = some (.int 1)) [c] h0 1 14 391 #[.val (.int p0), .val (.int p1), .val (.int p2), .val (.int p3), .val (.int f), .val (.int ap), .val (.int q), .val (.int o2), .val (.int kk), .val (.int ua), .val (.int ub), .val (.int a0_), .val (.int a1_), .val (.int a2_), .val (.int b0_), .val (.int b1_), .val (.int b2_), .val (.ref c), .unset, .unset, .unset] [] := by
  refine g_aload o (pc := 391) at_391 rfl rfl ?_
  refine g_bipush o (pc := 393) at_393 (v := 11) rfl ?_
  refine g_iload o (pc := 395) at_395 rfl ?_
  refine g_iload o (pc := 397) at_397 rfl ?_
  refine g_static o (pc := 399) [(.int b0_), (.int f)] [(.int 11), (.ref c)] at_399 (wd_6 hw) (wd_7 hw) (wd_2 hw) (wd_8 hw) (by decide) (Met.back o (W := 2) (rm_sym C.l Z a0 hw n0 h0 X0 b0_ f lf) (wd_8 hw) (wd_2 hw) (by decide) (by decide)) (fun _ _ _ q => q) (Or.inr fun _ _ q => by rw [q.2]; exact Mv.refl) pd_11 rfl rfl rfl rfl (by decide) (by decide) fun v1 h2 q3 => ?_
  obtain ⟨rfl, hh⟩ := q3
  obtain rfl := hh.symm
  show Go C Z n0 (fun v _ => v = some (.int 1)) [c] h0 1 14 402 #[.val (.int p0), .val (.int p1), .val (.int p2), .val (.int p3), .val (.int f), .val (.int ap), .val (.int q), .val (.int o2), .val (.int kk), .val (.int ua), .val (.int ub), .val (.int a0_), .val (.int a1_), .val (.int a2_), .val (.int b0_), .val (.int b1_), .val (.int b2_), .val (.ref c), .unset, .unset, .unset] [(.int (symF b0_ f)), (.int 11), (.ref c)]
  refine g_castore o (pc := 402) at_402 Kc rfl (by decide) (i := 11) rfl (Nat.le_of_ble_eq_true rfl) (y := (symF b0_ f)) (i2c_lat (sym_lat lf)) gc (Or.inr (Or.inl (by simp))) fun h4 W5 V6 => ?_
  have V7 : Arv Z h4 c kc .char 14 [.int (symF a0_ f), .int (symF a1_ f), .int (symF a2_ f), .int m0, .int m1, .int m2, .int m3, .int m4, .int m5, .int m6, .int m7, .int (symF b0_ f), .int 0, .int 0] (.int 0) := V6
  refine g_aload o (pc := 403) at_403 rfl rfl ?_
  refine g_bipush o (pc := 405) at_405 (v := 12) rfl ?_
  refine g_iload o (pc := 407) at_407 rfl ?_
  refine g_iload o (pc := 409) at_409 rfl ?_
  have q8 := (X0.wr W5 gc)
  refine g_static o (pc := 411) [(.int b1_), (.int f)] [(.int 12), (.ref c)] at_411 (wd_6 hw) (wd_7 hw) (wd_2 hw) (wd_8 hw) (by decide) (Met.back o (W := 2) (rm_sym C.l Z a0 hw n0 h4 q8 b1_ f lf) (wd_8 hw) (wd_2 hw) (by decide) (by decide)) (fun _ _ _ q => q) (Or.inr fun _ _ q => by rw [q.2]; exact Mv.refl) pd_11 rfl rfl rfl rfl (by decide) (by decide) fun v9 h10 q11 => ?_
  obtain ⟨rfl, hh⟩ := q11
  obtain rfl := hh.symm
  show Go C Z n0 (fun v _ => v = some (.int 1)) [c] h4 1 14 414 #[.val (.int p0), .val (.int p1), .val (.int p2), .val (.int p3), .val (.int f), .val (.int ap), .val (.int q), .val (.int o2), .val (.int kk), .val (.int ua), .val (.int ub), .val (.int a0_), .val (.int a1_), .val (.int a2_), .val (.int b0_), .val (.int b1_), .val (.int b2_), .val (.ref c), .unset, .unset, .unset] [(.int (symF b1_ f)), (.int 12), (.ref c)]
  refine g_castore o (pc := 414) at_414 V7 rfl (by decide) (i := 12) rfl (Nat.le_of_ble_eq_true rfl) (y := (symF b1_ f)) (i2c_lat (sym_lat lf)) gc (Or.inr (Or.inl (by simp))) fun h12 W13 V14 => ?_
  have V15 : Arv Z h12 c kc .char 14 [.int (symF a0_ f), .int (symF a1_ f), .int (symF a2_ f), .int m0, .int m1, .int m2, .int m3, .int m4, .int m5, .int m6, .int m7, .int (symF b0_ f), .int (symF b1_ f), .int 0] (.int 0) := V14
  refine g_aload o (pc := 415) at_415 rfl rfl ?_
  refine g_bipush o (pc := 417) at_417 (v := 13) rfl ?_
  refine g_iload o (pc := 419) at_419 rfl ?_
  refine g_iload o (pc := 421) at_421 rfl ?_
  have q16 := (q8.wr W13 gc)
  refine g_static o (pc := 423) [(.int b2_), (.int f)] [(.int 13), (.ref c)] at_423 (wd_6 hw) (wd_7 hw) (wd_2 hw) (wd_8 hw) (by decide) (Met.back o (W := 2) (rm_sym C.l Z a0 hw n0 h12 q16 b2_ f lf) (wd_8 hw) (wd_2 hw) (by decide) (by decide)) (fun _ _ _ q => q) (Or.inr fun _ _ q => by rw [q.2]; exact Mv.refl) pd_11 rfl rfl rfl rfl (by decide) (by decide) fun v17 h18 q19 => ?_
  obtain ⟨rfl, hh⟩ := q19
  obtain rfl := hh.symm
  show Go C Z n0 (fun v _ => v = some (.int 1)) [c] h12 1 14 426 #[.val (.int p0), .val (.int p1), .val (.int p2), .val (.int p3), .val (.int f), .val (.int ap), .val (.int q), .val (.int o2), .val (.int kk), .val (.int ua), .val (.int ub), .val (.int a0_), .val (.int a1_), .val (.int a2_), .val (.int b0_), .val (.int b1_), .val (.int b2_), .val (.ref c), .unset, .unset, .unset] [(.int (symF b2_ f)), (.int 13), (.ref c)]
  refine g_castore o (pc := 426) at_426 V15 rfl (by decide) (i := 13) rfl (Nat.le_of_ble_eq_true rfl) (y := (symF b2_ f)) (i2c_lat (sym_lat lf)) gc (Or.inr (Or.inl (by simp))) fun h20 W21 V22 => ?_
  have V23 : Arv Z h20 c kc .char 14 [.int (symF a0_ f), .int (symF a1_ f), .int (symF a2_ f), .int m0, .int m1, .int m2, .int m3, .int m4, .int m5, .int m6, .int m7, .int (symF b0_ f), .int (symF b1_ f), .int (symF b2_ f)] (.int 0) := V22
  refine g_new o (pc := 427) at_427 (wd_12 hw) (wd_13 hw) (wd_14 hw) (by decide) (by decide) (M' := fun a => a :: [c]) (fun _ _ q => (List.mem_cons.mp q).elim Or.inr Or.inl) fun a24 h25 ha26 E27 A28 D29 => ?_
  have F30 : Fld Z h25 a24 "java/lang/String" "coder" "B" (.int 0) := D29 (Or.inr (wd_38 hw)) (ty := .byte) (by decide)
  have F31 : Fld Z h25 a24 "java/lang/String" "value" "[B" .null := D29 (Or.inr (wd_40 hw)) (ty := (.array .byte)) (by decide)
  refine g_dup o (pc := 430) at_430 rfl ?_
  refine g_aload o (pc := 431) at_431 rfl rfl ?_
  have q32 := ((q16.wr W21 gc).ext E27)
  have q33 := (V23.ext E27)
  have hp34 : ∀ ch_ ∈ [((symF a0_ f) : Int32), ((symF a1_ f) : Int32), ((symF a2_ f) : Int32), (m0 : Int32), (m1 : Int32), (m2 : Int32), (m3 : Int32), (m4 : Int32), (m5 : Int32), (m6 : Int32), (m7 : Int32), ((symF b0_ f) : Int32), ((symF b1_ f) : Int32), ((symF b2_ f) : Int32)], ¬ ch_ < 0 ∧ ¬ (255 : Int32) < ch_ := by
    intro ch_ hc_; simp only [List.mem_cons, List.not_mem_nil, or_false] at hc_
    rcases hc_ with rfl | rfl | rfl | rfl | rfl | rfl | rfl | rfl | rfl | rfl | rfl | rfl | rfl | rfl
    · exact (sym_lat lf)
    · exact (sym_lat lf)
    · exact (sym_lat lf)
    · exact l_m0
    · exact l_m1
    · exact l_m2
    · exact l_m3
    · exact l_m4
    · exact l_m5
    · exact l_m6
    · exact l_m7
    · exact (sym_lat lf)
    · exact (sym_lat lf)
    · exact (sym_lat lf)
  refine g_special o (pc := 433) a24 [(.ref c)] [(.ref a24)] at_433 rfl (wd_15 hw) (wd_16 hw) (wd_17 hw) (by decide) (kc := 1) (ks := 14) (fun vm0 hZ => StrChars.Road.backV (W := 1) (s := C.s.setVm vm0) hZ (hwS hw) (kI := 4) (wd_13 hw) (cs := [(symF a0_ f), (symF a1_ f), (symF a2_ f), m0, m1, m2, m3, m4, m5, m6, m7, (symF b0_ f), (symF b1_ f), (symF b2_ f)]) (bs := [(symF a0_ f), (symF a1_ f), (symF a2_ f), m0, m1, m2, m3, m4, m5, m6, m7, (symF b0_ f), (symF b1_ f), (symF b2_ f)].map fun ch_ => ch_.toInt8.toInt32) (n := 14) (n0 := n0) (ge_new ha26 (((X0.wr W5 gc).wr W13 gc).wr W21 gc)) (Old.sz q32) A28 F31 F30 q33 (Sc.ext q32.2) nzc rfl rfl (by decide) (by decide) hp34 rfl (o.rf (by decide)) (o.rl (by decide))) (Q' := fun v h' => StrOf Z n0 h25 14 h' a24 [(symF a0_ f), (symF a1_ f), (symF a2_ f), m0, m1, m2, m3, m4, m5, m6, m7, (symF b0_ f), (symF b1_ f), (symF b2_ f)] v) (fun v h' L q => strOf_of (n := 14) rfl hp34 q) (Or.inr fun _ _ q => Mv.keep q.2.1 (allS (Or.inr (Or.inl (by simp))) all0)) pd_12 rfl rfl rfl rfl (by decide) (by decide) fun v35 h36 q37 => ?_
  obtain ⟨rfl, K38, St40⟩ := q37
  show Go C Z n0 (fun v _ => v = some (.int 1)) [a24, c] h36 3 32 436 #[.val (.int p0), .val (.int p1), .val (.int p2), .val (.int p3), .val (.int f), .val (.int ap), .val (.int q), .val (.int o2), .val (.int kk), .val (.int ua), .val (.int ub), .val (.int a0_), .val (.int a1_), .val (.int a2_), .val (.int b0_), .val (.int b1_), .val (.int b2_), .val (.ref c), .unset, .unset, .unset] [(.ref a24)]
  have q41 := (q32.keep K38 (allS (ge_new ha26 (((X0.wr W5 gc).wr W13 gc).wr W21 gc)) all0))
  refine g_staticW o hwd (pc := 436) [(.ref a24)] [] at_436 (wd_41 hw) (wd_42 hw) (wd_43 hw) (wd_44 hw) (by decide) (MetW.back hE hPL hcs o (W := 0) (fun r => rm_nest r C.l Z a0 hw n0 h36 q41 a24 ([(symF a0_ f), (symF a1_ f), (symF a2_ f), m0, m1, m2, m3, m4, m5, m6, m7, (symF b0_ f), (symF b1_ f), (symF b2_ f)]) zc fm Sc nzc Sf rf St40 rfl hp34) (wd_44 hw) (wd_43 hw) (by decide) (by decide)) (fun _ _ _ q => q) pd_13 rfl rfl rfl rfl (by decide) (by decide) fun v42 h43 q44 => ?_
  obtain ⟨rfl, K45⟩ := q44
  show Go C Z n0 (fun v _ => v = some (.int 1)) [a24, c] h43 3 32 439 #[.val (.int p0), .val (.int p1), .val (.int p2), .val (.int p3), .val (.int f), .val (.int ap), .val (.int q), .val (.int o2), .val (.int kk), .val (.int ua), .val (.int ub), .val (.int a0_), .val (.int a1_), .val (.int a2_), .val (.int b0_), .val (.int b1_), .val (.int b2_), .val (.ref c), .unset, .unset, .unset] [(.int (Int32.ofNat (nestN 14 [(symF a0_ f), (symF a1_ f), (symF a2_ f), m0, m1, m2, m3, m4, m5, m6, m7, (symF b0_ f), (symF b1_ f), (symF b2_ f)] 15 0 0 0)))]
  refine g_istore o (pc := 439) at_439 (L' := #[.val (.int p0), .val (.int p1), .val (.int p2), .val (.int p3), .val (.int f), .val (.int ap), .val (.int q), .val (.int o2), .val (.int kk), .val (.int ua), .val (.int ub), .val (.int a0_), .val (.int a1_), .val (.int a2_), .val (.int b0_), .val (.int b1_), .val (.int b2_), .val (.ref c), .val (.int (Int32.ofNat (nestN 14 [(symF a0_ f), (symF a1_ f), (symF a2_ f), m0, m1, m2, m3, m4, m5, m6, m7, (symF b0_ f), (symF b1_ f), (symF b2_ f)] 15 0 0 0))), .unset, .unset]) rfl ?_
  refine g_iconst o (pc := 441) at_441 (v := 0) rfl ?_
  refine g_istore o (pc := 442) at_442 (L' := #[.val (.int p0), .val (.int p1), .val (.int p2), .val (.int p3), .val (.int f), .val (.int ap), .val (.int q), .val (.int o2), .val (.int kk), .val (.int ua), .val (.int ub), .val (.int a0_), .val (.int a1_), .val (.int a2_), .val (.int b0_), .val (.int b1_), .val (.int b2_), .val (.ref c), .val (.int (Int32.ofNat (nestN 14 [(symF a0_ f), (symF a1_ f), (symF a2_ f), m0, m1, m2, m3, m4, m5, m6, m7, (symF b0_ f), (symF b1_ f), (symF b2_ f)] 15 0 0 0))), .val (.int 0), .unset]) rfl ?_
  refine g_iconst o (pc := 444) at_444 (v := 0) rfl ?_
  refine g_istore o (pc := 445) at_445 (L' := #[.val (.int p0), .val (.int p1), .val (.int p2), .val (.int p3), .val (.int f), .val (.int ap), .val (.int q), .val (.int o2), .val (.int kk), .val (.int ua), .val (.int ub), .val (.int a0_), .val (.int a1_), .val (.int a2_), .val (.int b0_), .val (.int b1_), .val (.int b2_), .val (.ref c), .val (.int (Int32.ofNat (nestN 14 [(symF a0_ f), (symF a1_ f), (symF a2_ f), m0, m1, m2, m3, m4, m5, m6, m7, (symF b0_ f), (symF b1_ f), (symF b2_ f)] 15 0 0 0))), .val (.int 0), .val (.int 0)]) rfl ?_
  refine g_iload o (pc := 447) at_447 rfl ?_
  refine g_iload o (pc := 449) at_449 rfl ?_
  have q46 := (q41.keep K45 all0)
  refine g_static o (pc := 451) [(.int 0), (.int a0_)] [] at_451 (wd_126 hw) (wd_127 hw) (wd_2 hw) (wd_128 hw) (by decide) (Met.back o (W := 0) (rm_next C.l Z a0 hw n0 h43 q46 0 a0_ (Nat.lt_of_le_of_lt (Nat.le_refl 0) (by decide))) (wd_128 hw) (wd_2 hw) (by decide) (by decide)) (fun _ _ _ q => q) (Or.inr fun _ _ q => by rw [q.2]; exact Mv.refl) pd_7 rfl rfl rfl rfl (by decide) (by decide) fun v47 h48 q49 => ?_
  obtain ⟨rfl, hh⟩ := q49
  obtain rfl := hh.symm
  show Go C Z n0 (fun v _ => v = some (.int 1)) [a24, c] h43 3 32 454 #[.val (.int p0), .val (.int p1), .val (.int p2), .val (.int p3), .val (.int f), .val (.int ap), .val (.int q), .val (.int o2), .val (.int kk), .val (.int ua), .val (.int ub), .val (.int a0_), .val (.int a1_), .val (.int a2_), .val (.int b0_), .val (.int b1_), .val (.int b2_), .val (.ref c), .val (.int (Int32.ofNat (nestN 14 [(symF a0_ f), (symF a1_ f), (symF a2_ f), m0, m1, m2, m3, m4, m5, m6, m7, (symF b0_ f), (symF b1_ f), (symF b2_ f)] 15 0 0 0))), .val (.int 0), .val (.int 0)] [(.int (Int32.ofNat (nxtN 0 a0_)))]
  refine g_istore o (pc := 454) at_454 (L' := #[.val (.int p0), .val (.int p1), .val (.int p2), .val (.int p3), .val (.int f), .val (.int ap), .val (.int q), .val (.int o2), .val (.int kk), .val (.int ua), .val (.int ub), .val (.int a0_), .val (.int a1_), .val (.int a2_), .val (.int b0_), .val (.int b1_), .val (.int b2_), .val (.ref c), .val (.int (Int32.ofNat (nestN 14 [(symF a0_ f), (symF a1_ f), (symF a2_ f), m0, m1, m2, m3, m4, m5, m6, m7, (symF b0_ f), (symF b1_ f), (symF b2_ f)] 15 0 0 0))), .val (.int (Int32.ofNat (nxtN 0 a0_))), .val (.int 0)]) rfl ?_
  refine g_iload o (pc := 456) at_456 rfl ?_
  refine g_iload o (pc := 458) at_458 rfl ?_
  refine g_static o (pc := 460) [(.int 0), (.int (Int32.ofNat (nxtN 0 a0_)))] [] at_460 (wd_129 hw) (wd_111 hw) (wd_112 hw) (wd_113 hw) (by decide) (Met.back o (W := 0) (rm_max C.l Z a0 hw n0 h43 q46 0 (nxtN 0 a0_) (Nat.lt_of_le_of_lt (Nat.le_refl 0) (by decide)) (Nat.lt_of_le_of_lt (nb (Nat.le_refl 0)) (by decide))) (wd_113 hw) (wd_112 hw) (by decide) (by decide)) (fun _ _ _ q => q) (Or.inr fun _ _ q => by rw [q.2]; exact Mv.refl) pd_7 rfl rfl rfl rfl (by decide) (by decide) fun v50 h51 q52 => ?_
  obtain ⟨rfl, hh⟩ := q52
  obtain rfl := hh.symm
  show Go C Z n0 (fun v _ => v = some (.int 1)) [a24, c] h43 3 32 463 #[.val (.int p0), .val (.int p1), .val (.int p2), .val (.int p3), .val (.int f), .val (.int ap), .val (.int q), .val (.int o2), .val (.int kk), .val (.int ua), .val (.int ub), .val (.int a0_), .val (.int a1_), .val (.int a2_), .val (.int b0_), .val (.int b1_), .val (.int b2_), .val (.ref c), .val (.int (Int32.ofNat (nestN 14 [(symF a0_ f), (symF a1_ f), (symF a2_ f), m0, m1, m2, m3, m4, m5, m6, m7, (symF b0_ f), (symF b1_ f), (symF b2_ f)] 15 0 0 0))), .val (.int (Int32.ofNat (nxtN 0 a0_))), .val (.int 0)] [(.int (Int32.ofNat (max 0 (nxtN 0 a0_))))]
  refine g_istore o (pc := 463) at_463 (L' := #[.val (.int p0), .val (.int p1), .val (.int p2), .val (.int p3), .val (.int f), .val (.int ap), .val (.int q), .val (.int o2), .val (.int kk), .val (.int ua), .val (.int ub), .val (.int a0_), .val (.int a1_), .val (.int a2_), .val (.int b0_), .val (.int b1_), .val (.int b2_), .val (.ref c), .val (.int (Int32.ofNat (nestN 14 [(symF a0_ f), (symF a1_ f), (symF a2_ f), m0, m1, m2, m3, m4, m5, m6, m7, (symF b0_ f), (symF b1_ f), (symF b2_ f)] 15 0 0 0))), .val (.int (Int32.ofNat (nxtN 0 a0_))), .val (.int (Int32.ofNat (max 0 (nxtN 0 a0_))))]) rfl ?_
  refine g_iload o (pc := 465) at_465 rfl ?_
  refine g_iload o (pc := 467) at_467 rfl ?_
  refine g_static o (pc := 469) [(.int (Int32.ofNat (nxtN 0 a0_))), (.int a1_)] [] at_469 (wd_126 hw) (wd_127 hw) (wd_2 hw) (wd_128 hw) (by decide) (Met.back o (W := 0) (rm_next C.l Z a0 hw n0 h43 q46 (nxtN 0 a0_) a1_ (Nat.lt_of_le_of_lt (nb (Nat.le_refl 0)) (by decide))) (wd_128 hw) (wd_2 hw) (by decide) (by decide)) (fun _ _ _ q => q) (Or.inr fun _ _ q => by rw [q.2]; exact Mv.refl) pd_7 rfl rfl rfl rfl (by decide) (by decide) fun v53 h54 q55 => ?_
  obtain ⟨rfl, hh⟩ := q55
  obtain rfl := hh.symm
  show Go C Z n0 (fun v _ => v = some (.int 1)) [a24, c] h43 3 32 472 #[.val (.int p0), .val (.int p1), .val (.int p2), .val (.int p3), .val (.int f), .val (.int ap), .val (.int q), .val (.int o2), .val (.int kk), .val (.int ua), .val (.int ub), .val (.int a0_), .val (.int a1_), .val (.int a2_), .val (.int b0_), .val (.int b1_), .val (.int b2_), .val (.ref c), .val (.int (Int32.ofNat (nestN 14 [(symF a0_ f), (symF a1_ f), (symF a2_ f), m0, m1, m2, m3, m4, m5, m6, m7, (symF b0_ f), (symF b1_ f), (symF b2_ f)] 15 0 0 0))), .val (.int (Int32.ofNat (nxtN 0 a0_))), .val (.int (Int32.ofNat (max 0 (nxtN 0 a0_))))] [(.int (Int32.ofNat (nxtN (nxtN 0 a0_) a1_)))]
  refine g_istore o (pc := 472) at_472 (L' := #[.val (.int p0), .val (.int p1), .val (.int p2), .val (.int p3), .val (.int f), .val (.int ap), .val (.int q), .val (.int o2), .val (.int kk), .val (.int ua), .val (.int ub), .val (.int a0_), .val (.int a1_), .val (.int a2_), .val (.int b0_), .val (.int b1_), .val (.int b2_), .val (.ref c), .val (.int (Int32.ofNat (nestN 14 [(symF a0_ f), (symF a1_ f), (symF a2_ f), m0, m1, m2, m3, m4, m5, m6, m7, (symF b0_ f), (symF b1_ f), (symF b2_ f)] 15 0 0 0))), .val (.int (Int32.ofNat (nxtN (nxtN 0 a0_) a1_))), .val (.int (Int32.ofNat (max 0 (nxtN 0 a0_))))]) rfl ?_
  refine g_iload o (pc := 474) at_474 rfl ?_
  refine g_iload o (pc := 476) at_476 rfl ?_
  refine g_static o (pc := 478) [(.int (Int32.ofNat (max 0 (nxtN 0 a0_)))), (.int (Int32.ofNat (nxtN (nxtN 0 a0_) a1_)))] [] at_478 (wd_129 hw) (wd_111 hw) (wd_112 hw) (wd_113 hw) (by decide) (Met.back o (W := 0) (rm_max C.l Z a0 hw n0 h43 q46 (max 0 (nxtN 0 a0_)) (nxtN (nxtN 0 a0_) a1_) (Nat.lt_of_le_of_lt (Nat.max_le.mpr ⟨Nat.le_trans (Nat.le_refl 0) (by decide : 0 ≤ 1), Nat.le_trans (nb (Nat.le_refl 0)) (by decide : 1 ≤ 1)⟩) (by decide)) (Nat.lt_of_le_of_lt (nb (nb (Nat.le_refl 0))) (by decide))) (wd_113 hw) (wd_112 hw) (by decide) (by decide)) (fun _ _ _ q => q) (Or.inr fun _ _ q => by rw [q.2]; exact Mv.refl) pd_7 rfl rfl rfl rfl (by decide) (by decide) fun v56 h57 q58 => ?_
  obtain ⟨rfl, hh⟩ := q58
  obtain rfl := hh.symm
  show Go C Z n0 (fun v _ => v = some (.int 1)) [a24, c] h43 3 32 481 #[.val (.int p0), .val (.int p1), .val (.int p2), .val (.int p3), .val (.int f), .val (.int ap), .val (.int q), .val (.int o2), .val (.int kk), .val (.int ua), .val (.int ub), .val (.int a0_), .val (.int a1_), .val (.int a2_), .val (.int b0_), .val (.int b1_), .val (.int b2_), .val (.ref c), .val (.int (Int32.ofNat (nestN 14 [(symF a0_ f), (symF a1_ f), (symF a2_ f), m0, m1, m2, m3, m4, m5, m6, m7, (symF b0_ f), (symF b1_ f), (symF b2_ f)] 15 0 0 0))), .val (.int (Int32.ofNat (nxtN (nxtN 0 a0_) a1_))), .val (.int (Int32.ofNat (max 0 (nxtN 0 a0_))))] [(.int (Int32.ofNat (max (max 0 (nxtN 0 a0_)) (nxtN (nxtN 0 a0_) a1_))))]
  refine g_istore o (pc := 481) at_481 (L' := #[.val (.int p0), .val (.int p1), .val (.int p2), .val (.int p3), .val (.int f), .val (.int ap), .val (.int q), .val (.int o2), .val (.int kk), .val (.int ua), .val (.int ub), .val (.int a0_), .val (.int a1_), .val (.int a2_), .val (.int b0_), .val (.int b1_), .val (.int b2_), .val (.ref c), .val (.int (Int32.ofNat (nestN 14 [(symF a0_ f), (symF a1_ f), (symF a2_ f), m0, m1, m2, m3, m4, m5, m6, m7, (symF b0_ f), (symF b1_ f), (symF b2_ f)] 15 0 0 0))), .val (.int (Int32.ofNat (nxtN (nxtN 0 a0_) a1_))), .val (.int (Int32.ofNat (max (max 0 (nxtN 0 a0_)) (nxtN (nxtN 0 a0_) a1_))))]) rfl ?_
  refine g_iload o (pc := 483) at_483 rfl ?_
  refine g_iload o (pc := 485) at_485 rfl ?_
  refine g_static o (pc := 487) [(.int (Int32.ofNat (nxtN (nxtN 0 a0_) a1_))), (.int a2_)] [] at_487 (wd_126 hw) (wd_127 hw) (wd_2 hw) (wd_128 hw) (by decide) (Met.back o (W := 0) (rm_next C.l Z a0 hw n0 h43 q46 (nxtN (nxtN 0 a0_) a1_) a2_ (Nat.lt_of_le_of_lt (nb (nb (Nat.le_refl 0))) (by decide))) (wd_128 hw) (wd_2 hw) (by decide) (by decide)) (fun _ _ _ q => q) (Or.inr fun _ _ q => by rw [q.2]; exact Mv.refl) pd_7 rfl rfl rfl rfl (by decide) (by decide) fun v59 h60 q61 => ?_
  obtain ⟨rfl, hh⟩ := q61
  obtain rfl := hh.symm
  show Go C Z n0 (fun v _ => v = some (.int 1)) [a24, c] h43 3 32 490 #[.val (.int p0), .val (.int p1), .val (.int p2), .val (.int p3), .val (.int f), .val (.int ap), .val (.int q), .val (.int o2), .val (.int kk), .val (.int ua), .val (.int ub), .val (.int a0_), .val (.int a1_), .val (.int a2_), .val (.int b0_), .val (.int b1_), .val (.int b2_), .val (.ref c), .val (.int (Int32.ofNat (nestN 14 [(symF a0_ f), (symF a1_ f), (symF a2_ f), m0, m1, m2, m3, m4, m5, m6, m7, (symF b0_ f), (symF b1_ f), (symF b2_ f)] 15 0 0 0))), .val (.int (Int32.ofNat (nxtN (nxtN 0 a0_) a1_))), .val (.int (Int32.ofNat (max (max 0 (nxtN 0 a0_)) (nxtN (nxtN 0 a0_) a1_))))] [(.int (Int32.ofNat (nxtN (nxtN (nxtN 0 a0_) a1_) a2_)))]
  refine g_istore o (pc := 490) at_490 (L' := #[.val (.int p0), .val (.int p1), .val (.int p2), .val (.int p3), .val (.int f), .val (.int ap), .val (.int q), .val (.int o2), .val (.int kk), .val (.int ua), .val (.int ub), .val (.int a0_), .val (.int a1_), .val (.int a2_), .val (.int b0_), .val (.int b1_), .val (.int b2_), .val (.ref c), .val (.int (Int32.ofNat (nestN 14 [(symF a0_ f), (symF a1_ f), (symF a2_ f), m0, m1, m2, m3, m4, m5, m6, m7, (symF b0_ f), (symF b1_ f), (symF b2_ f)] 15 0 0 0))), .val (.int (Int32.ofNat (nxtN (nxtN (nxtN 0 a0_) a1_) a2_))), .val (.int (Int32.ofNat (max (max 0 (nxtN 0 a0_)) (nxtN (nxtN 0 a0_) a1_))))]) rfl ?_
  refine g_iload o (pc := 492) at_492 rfl ?_
  refine g_iload o (pc := 494) at_494 rfl ?_
  refine g_static o (pc := 496) [(.int (Int32.ofNat (max (max 0 (nxtN 0 a0_)) (nxtN (nxtN 0 a0_) a1_)))), (.int (Int32.ofNat (nxtN (nxtN (nxtN 0 a0_) a1_) a2_)))] [] at_496 (wd_129 hw) (wd_111 hw) (wd_112 hw) (wd_113 hw) (by decide) (Met.back o (W := 0) (rm_max C.l Z a0 hw n0 h43 q46 (max (max 0 (nxtN 0 a0_)) (nxtN (nxtN 0 a0_) a1_)) (nxtN (nxtN (nxtN 0 a0_) a1_) a2_) (Nat.lt_of_le_of_lt (Nat.max_le.mpr ⟨Nat.le_trans (Nat.max_le.mpr ⟨Nat.le_trans (Nat.le_refl 0) (by decide : 0 ≤ 1), Nat.le_trans (nb (Nat.le_refl 0)) (by decide : 1 ≤ 1)⟩) (by decide : 1 ≤ 2), Nat.le_trans (nb (nb (Nat.le_refl 0))) (by decide : 2 ≤ 2)⟩) (by decide)) (Nat.lt_of_le_of_lt (nb (nb (nb (Nat.le_refl 0)))) (by decide))) (wd_113 hw) (wd_112 hw) (by decide) (by decide)) (fun _ _ _ q => q) (Or.inr fun _ _ q => by rw [q.2]; exact Mv.refl) pd_7 rfl rfl rfl rfl (by decide) (by decide) fun v62 h63 q64 => ?_
  obtain ⟨rfl, hh⟩ := q64
  obtain rfl := hh.symm
  show Go C Z n0 (fun v _ => v = some (.int 1)) [a24, c] h43 3 32 499 #[.val (.int p0), .val (.int p1), .val (.int p2), .val (.int p3), .val (.int f), .val (.int ap), .val (.int q), .val (.int o2), .val (.int kk), .val (.int ua), .val (.int ub), .val (.int a0_), .val (.int a1_), .val (.int a2_), .val (.int b0_), .val (.int b1_), .val (.int b2_), .val (.ref c), .val (.int (Int32.ofNat (nestN 14 [(symF a0_ f), (symF a1_ f), (symF a2_ f), m0, m1, m2, m3, m4, m5, m6, m7, (symF b0_ f), (symF b1_ f), (symF b2_ f)] 15 0 0 0))), .val (.int (Int32.ofNat (nxtN (nxtN (nxtN 0 a0_) a1_) a2_))), .val (.int (Int32.ofNat (max (max 0 (nxtN 0 a0_)) (nxtN (nxtN 0 a0_) a1_))))] [(.int (Int32.ofNat (max (max (max 0 (nxtN 0 a0_)) (nxtN (nxtN 0 a0_) a1_)) (nxtN (nxtN (nxtN 0 a0_) a1_) a2_))))]
  refine g_istore o (pc := 499) at_499 (L' := #[.val (.int p0), .val (.int p1), .val (.int p2), .val (.int p3), .val (.int f), .val (.int ap), .val (.int q), .val (.int o2), .val (.int kk), .val (.int ua), .val (.int ub), .val (.int a0_), .val (.int a1_), .val (.int a2_), .val (.int b0_), .val (.int b1_), .val (.int b2_), .val (.ref c), .val (.int (Int32.ofNat (nestN 14 [(symF a0_ f), (symF a1_ f), (symF a2_ f), m0, m1, m2, m3, m4, m5, m6, m7, (symF b0_ f), (symF b1_ f), (symF b2_ f)] 15 0 0 0))), .val (.int (Int32.ofNat (nxtN (nxtN (nxtN 0 a0_) a1_) a2_))), .val (.int (Int32.ofNat (max (max (max 0 (nxtN 0 a0_)) (nxtN (nxtN 0 a0_) a1_)) (nxtN (nxtN (nxtN 0 a0_) a1_) a2_))))]) rfl ?_
  refine g_iload o (pc := 501) at_501 rfl ?_
  refine g_bipush o (pc := 503) at_503 (v := 6) rfl ?_
  refine g_icmpN o (pc := 505) at_505 (t := 559) (by decide) rfl c_ne (fun hy65 => ?_) (fun hn66 => ?_)
  · refine g_iload o (pc := 559) at_559 rfl ?_
    refine g_iconst o (pc := 561) at_561 (v := 2) rfl ?_
    refine g_icmp o (pc := 562) at_562 (t := 625) (by decide) rfl c_eq (fun hy67 => ?_) (fun hn68 => ?_)
    · refine g_iload o (pc := 625) at_625 rfl ?_
      refine g_iload o (pc := 627) at_627 rfl ?_
      refine g_icmpN o (pc := 629) at_629 (t := 636) (by decide) rfl c_ne (fun hy69 => absurd (congrArg Int32.ofNat (HK.trans (show refG kk a0_ a1_ a2_ b0_ b1_ b2_ = max (max (max 0 (nxtN 0 a0_)) (nxtN (nxtN 0 a0_) a1_)) (nxtN (nxtN (nxtN 0 a0_) a1_) a2_) from by unfold refG; rw [if_neg hy65, if_pos (Or.inl hy67)]))) hy69) (fun _ => ?_)
      refine g_iconst o (pc := 632) at_632 (v := 1) rfl ?_
      refine g_goto o (pc := 633) at_633 (t := 637) (by decide) rfl ?_
      refine g_nreturn o (pc := 637) (by simp) at_637 (y := 1) rfl ?_ (by decide) (by decide)
      exact rfl
    · refine g_iload o (pc := 565) at_565 rfl ?_
      refine g_iconst o (pc := 567) at_567 (v := 5) rfl ?_
      refine g_icmp o (pc := 568) at_568 (t := 625) (by decide) rfl c_eq (fun hy70 => ?_) (fun hn71 => ?_)
      · refine g_iload o (pc := 625) at_625 rfl ?_
        refine g_iload o (pc := 627) at_627 rfl ?_
        refine g_icmpN o (pc := 629) at_629 (t := 636) (by decide) rfl c_ne (fun hy72 => absurd (congrArg Int32.ofNat (HK.trans (show refG kk a0_ a1_ a2_ b0_ b1_ b2_ = max (max (max 0 (nxtN 0 a0_)) (nxtN (nxtN 0 a0_) a1_)) (nxtN (nxtN (nxtN 0 a0_) a1_) a2_) from by unfold refG; rw [if_neg hy65, if_pos (Or.inr hy70)]))) hy72) (fun _ => ?_)
        refine g_iconst o (pc := 632) at_632 (v := 1) rfl ?_
        refine g_goto o (pc := 633) at_633 (t := 637) (by decide) rfl ?_
        refine g_nreturn o (pc := 637) (by simp) at_637 (y := 1) rfl ?_ (by decide) (by decide)
        exact rfl
      · refine g_iload o (pc := 571) at_571 rfl ?_
        refine g_iload o (pc := 573) at_573 rfl ?_
        refine g_static o (pc := 575) [(.int (Int32.ofNat (nxtN (nxtN (nxtN 0 a0_) a1_) a2_))), (.int b0_)] [] at_575 (wd_126 hw) (wd_127 hw) (wd_2 hw) (wd_128 hw) (by decide) (Met.back o (W := 0) (rm_next C.l Z a0 hw n0 h43 q46 (nxtN (nxtN (nxtN 0 a0_) a1_) a2_) b0_ (Nat.lt_of_le_of_lt (nb (nb (nb (Nat.le_refl 0)))) (by decide))) (wd_128 hw) (wd_2 hw) (by decide) (by decide)) (fun _ _ _ q => q) (Or.inr fun _ _ q => by rw [q.2]; exact Mv.refl) pd_7 rfl rfl rfl rfl (by decide) (by decide) fun v73 h74 q75 => ?_
        obtain ⟨rfl, hh⟩ := q75
        obtain rfl := hh.symm
        show Go C Z n0 (fun v _ => v = some (.int 1)) [a24, c] h43 3 32 578 #[.val (.int p0), .val (.int p1), .val (.int p2), .val (.int p3), .val (.int f), .val (.int ap), .val (.int q), .val (.int o2), .val (.int kk), .val (.int ua), .val (.int ub), .val (.int a0_), .val (.int a1_), .val (.int a2_), .val (.int b0_), .val (.int b1_), .val (.int b2_), .val (.ref c), .val (.int (Int32.ofNat (nestN 14 [(symF a0_ f), (symF a1_ f), (symF a2_ f), m0, m1, m2, m3, m4, m5, m6, m7, (symF b0_ f), (symF b1_ f), (symF b2_ f)] 15 0 0 0))), .val (.int (Int32.ofNat (nxtN (nxtN (nxtN 0 a0_) a1_) a2_))), .val (.int (Int32.ofNat (max (max (max 0 (nxtN 0 a0_)) (nxtN (nxtN 0 a0_) a1_)) (nxtN (nxtN (nxtN 0 a0_) a1_) a2_))))] [(.int (Int32.ofNat (nxtN (nxtN (nxtN (nxtN 0 a0_) a1_) a2_) b0_)))]
        refine g_istore o (pc := 578) at_578 (L' := #[.val (.int p0), .val (.int p1), .val (.int p2), .val (.int p3), .val (.int f), .val (.int ap), .val (.int q), .val (.int o2), .val (.int kk), .val (.int ua), .val (.int ub), .val (.int a0_), .val (.int a1_), .val (.int a2_), .val (.int b0_), .val (.int b1_), .val (.int b2_), .val (.ref c), .val (.int (Int32.ofNat (nestN 14 [(symF a0_ f), (symF a1_ f), (symF a2_ f), m0, m1, m2, m3, m4, m5, m6, m7, (symF b0_ f), (symF b1_ f), (symF b2_ f)] 15 0 0 0))), .val (.int (Int32.ofNat (nxtN (nxtN (nxtN (nxtN 0 a0_) a1_) a2_) b0_))), .val (.int (Int32.ofNat (max (max (max 0 (nxtN 0 a0_)) (nxtN (nxtN 0 a0_) a1_)) (nxtN (nxtN (nxtN 0 a0_) a1_) a2_))))]) rfl ?_
        refine g_iload o (pc := 580) at_580 rfl ?_
        refine g_iload o (pc := 582) at_582 rfl ?_
        refine g_static o (pc := 584) [(.int (Int32.ofNat (max (max (max 0 (nxtN 0 a0_)) (nxtN (nxtN 0 a0_) a1_)) (nxtN (nxtN (nxtN 0 a0_) a1_) a2_)))), (.int (Int32.ofNat (nxtN (nxtN (nxtN (nxtN 0 a0_) a1_) a2_) b0_)))] [] at_584 (wd_129 hw) (wd_111 hw) (wd_112 hw) (wd_113 hw) (by decide) (Met.back o (W := 0) (rm_max C.l Z a0 hw n0 h43 q46 (max (max (max 0 (nxtN 0 a0_)) (nxtN (nxtN 0 a0_) a1_)) (nxtN (nxtN (nxtN 0 a0_) a1_) a2_)) (nxtN (nxtN (nxtN (nxtN 0 a0_) a1_) a2_) b0_) (Nat.lt_of_le_of_lt (Nat.max_le.mpr ⟨Nat.le_trans (Nat.max_le.mpr ⟨Nat.le_trans (Nat.max_le.mpr ⟨Nat.le_trans (Nat.le_refl 0) (by decide : 0 ≤ 1), Nat.le_trans (nb (Nat.le_refl 0)) (by decide : 1 ≤ 1)⟩) (by decide : 1 ≤ 2), Nat.le_trans (nb (nb (Nat.le_refl 0))) (by decide : 2 ≤ 2)⟩) (by decide : 2 ≤ 3), Nat.le_trans (nb (nb (nb (Nat.le_refl 0)))) (by decide : 3 ≤ 3)⟩) (by decide)) (Nat.lt_of_le_of_lt (nb (nb (nb (nb (Nat.le_refl 0))))) (by decide))) (wd_113 hw) (wd_112 hw) (by decide) (by decide)) (fun _ _ _ q => q) (Or.inr fun _ _ q => by rw [q.2]; exact Mv.refl) pd_7 rfl rfl rfl rfl (by decide) (by decide) fun v76 h77 q78 => ?_
        obtain ⟨rfl, hh⟩ := q78
        obtain rfl := hh.symm
        show Go C Z n0 (fun v _ => v = some (.int 1)) [a24, c] h43 3 32 587 #[.val (.int p0), .val (.int p1), .val (.int p2), .val (.int p3), .val (.int f), .val (.int ap), .val (.int q), .val (.int o2), .val (.int kk), .val (.int ua), .val (.int ub), .val (.int a0_), .val (.int a1_), .val (.int a2_), .val (.int b0_), .val (.int b1_), .val (.int b2_), .val (.ref c), .val (.int (Int32.ofNat (nestN 14 [(symF a0_ f), (symF a1_ f), (symF a2_ f), m0, m1, m2, m3, m4, m5, m6, m7, (symF b0_ f), (symF b1_ f), (symF b2_ f)] 15 0 0 0))), .val (.int (Int32.ofNat (nxtN (nxtN (nxtN (nxtN 0 a0_) a1_) a2_) b0_))), .val (.int (Int32.ofNat (max (max (max 0 (nxtN 0 a0_)) (nxtN (nxtN 0 a0_) a1_)) (nxtN (nxtN (nxtN 0 a0_) a1_) a2_))))] [(.int (Int32.ofNat (max (max (max (max 0 (nxtN 0 a0_)) (nxtN (nxtN 0 a0_) a1_)) (nxtN (nxtN (nxtN 0 a0_) a1_) a2_)) (nxtN (nxtN (nxtN (nxtN 0 a0_) a1_) a2_) b0_))))]
        refine g_istore o (pc := 587) at_587 (L' := #[.val (.int p0), .val (.int p1), .val (.int p2), .val (.int p3), .val (.int f), .val (.int ap), .val (.int q), .val (.int o2), .val (.int kk), .val (.int ua), .val (.int ub), .val (.int a0_), .val (.int a1_), .val (.int a2_), .val (.int b0_), .val (.int b1_), .val (.int b2_), .val (.ref c), .val (.int (Int32.ofNat (nestN 14 [(symF a0_ f), (symF a1_ f), (symF a2_ f), m0, m1, m2, m3, m4, m5, m6, m7, (symF b0_ f), (symF b1_ f), (symF b2_ f)] 15 0 0 0))), .val (.int (Int32.ofNat (nxtN (nxtN (nxtN (nxtN 0 a0_) a1_) a2_) b0_))), .val (.int (Int32.ofNat (max (max (max (max 0 (nxtN 0 a0_)) (nxtN (nxtN 0 a0_) a1_)) (nxtN (nxtN (nxtN 0 a0_) a1_) a2_)) (nxtN (nxtN (nxtN (nxtN 0 a0_) a1_) a2_) b0_))))]) rfl ?_
        refine g_iload o (pc := 589) at_589 rfl ?_
        refine g_iload o (pc := 591) at_591 rfl ?_
        refine g_static o (pc := 593) [(.int (Int32.ofNat (nxtN (nxtN (nxtN (nxtN 0 a0_) a1_) a2_) b0_))), (.int b1_)] [] at_593 (wd_126 hw) (wd_127 hw) (wd_2 hw) (wd_128 hw) (by decide) (Met.back o (W := 0) (rm_next C.l Z a0 hw n0 h43 q46 (nxtN (nxtN (nxtN (nxtN 0 a0_) a1_) a2_) b0_) b1_ (Nat.lt_of_le_of_lt (nb (nb (nb (nb (Nat.le_refl 0))))) (by decide))) (wd_128 hw) (wd_2 hw) (by decide) (by decide)) (fun _ _ _ q => q) (Or.inr fun _ _ q => by rw [q.2]; exact Mv.refl) pd_7 rfl rfl rfl rfl (by decide) (by decide) fun v79 h80 q81 => ?_
        obtain ⟨rfl, hh⟩ := q81
        obtain rfl := hh.symm
        show Go C Z n0 (fun v _ => v = some (.int 1)) [a24, c] h43 3 32 596 #[.val (.int p0), .val (.int p1), .val (.int p2), .val (.int p3), .val (.int f), .val (.int ap), .val (.int q), .val (.int o2), .val (.int kk), .val (.int ua), .val (.int ub), .val (.int a0_), .val (.int a1_), .val (.int a2_), .val (.int b0_), .val (.int b1_), .val (.int b2_), .val (.ref c), .val (.int (Int32.ofNat (nestN 14 [(symF a0_ f), (symF a1_ f), (symF a2_ f), m0, m1, m2, m3, m4, m5, m6, m7, (symF b0_ f), (symF b1_ f), (symF b2_ f)] 15 0 0 0))), .val (.int (Int32.ofNat (nxtN (nxtN (nxtN (nxtN 0 a0_) a1_) a2_) b0_))), .val (.int (Int32.ofNat (max (max (max (max 0 (nxtN 0 a0_)) (nxtN (nxtN 0 a0_) a1_)) (nxtN (nxtN (nxtN 0 a0_) a1_) a2_)) (nxtN (nxtN (nxtN (nxtN 0 a0_) a1_) a2_) b0_))))] [(.int (Int32.ofNat (nxtN (nxtN (nxtN (nxtN (nxtN 0 a0_) a1_) a2_) b0_) b1_)))]
        refine g_istore o (pc := 596) at_596 (L' := #[.val (.int p0), .val (.int p1), .val (.int p2), .val (.int p3), .val (.int f), .val (.int ap), .val (.int q), .val (.int o2), .val (.int kk), .val (.int ua), .val (.int ub), .val (.int a0_), .val (.int a1_), .val (.int a2_), .val (.int b0_), .val (.int b1_), .val (.int b2_), .val (.ref c), .val (.int (Int32.ofNat (nestN 14 [(symF a0_ f), (symF a1_ f), (symF a2_ f), m0, m1, m2, m3, m4, m5, m6, m7, (symF b0_ f), (symF b1_ f), (symF b2_ f)] 15 0 0 0))), .val (.int (Int32.ofNat (nxtN (nxtN (nxtN (nxtN (nxtN 0 a0_) a1_) a2_) b0_) b1_))), .val (.int (Int32.ofNat (max (max (max (max 0 (nxtN 0 a0_)) (nxtN (nxtN 0 a0_) a1_)) (nxtN (nxtN (nxtN 0 a0_) a1_) a2_)) (nxtN (nxtN (nxtN (nxtN 0 a0_) a1_) a2_) b0_))))]) rfl ?_
        refine g_iload o (pc := 598) at_598 rfl ?_
        refine g_iload o (pc := 600) at_600 rfl ?_
        refine g_static o (pc := 602) [(.int (Int32.ofNat (max (max (max (max 0 (nxtN 0 a0_)) (nxtN (nxtN 0 a0_) a1_)) (nxtN (nxtN (nxtN 0 a0_) a1_) a2_)) (nxtN (nxtN (nxtN (nxtN 0 a0_) a1_) a2_) b0_)))), (.int (Int32.ofNat (nxtN (nxtN (nxtN (nxtN (nxtN 0 a0_) a1_) a2_) b0_) b1_)))] [] at_602 (wd_129 hw) (wd_111 hw) (wd_112 hw) (wd_113 hw) (by decide) (Met.back o (W := 0) (rm_max C.l Z a0 hw n0 h43 q46 (max (max (max (max 0 (nxtN 0 a0_)) (nxtN (nxtN 0 a0_) a1_)) (nxtN (nxtN (nxtN 0 a0_) a1_) a2_)) (nxtN (nxtN (nxtN (nxtN 0 a0_) a1_) a2_) b0_)) (nxtN (nxtN (nxtN (nxtN (nxtN 0 a0_) a1_) a2_) b0_) b1_) (Nat.lt_of_le_of_lt (Nat.max_le.mpr ⟨Nat.le_trans (Nat.max_le.mpr ⟨Nat.le_trans (Nat.max_le.mpr ⟨Nat.le_trans (Nat.max_le.mpr ⟨Nat.le_trans (Nat.le_refl 0) (by decide : 0 ≤ 1), Nat.le_trans (nb (Nat.le_refl 0)) (by decide : 1 ≤ 1)⟩) (by decide : 1 ≤ 2), Nat.le_trans (nb (nb (Nat.le_refl 0))) (by decide : 2 ≤ 2)⟩) (by decide : 2 ≤ 3), Nat.le_trans (nb (nb (nb (Nat.le_refl 0)))) (by decide : 3 ≤ 3)⟩) (by decide : 3 ≤ 4), Nat.le_trans (nb (nb (nb (nb (Nat.le_refl 0))))) (by decide : 4 ≤ 4)⟩) (by decide)) (Nat.lt_of_le_of_lt (nb (nb (nb (nb (nb (Nat.le_refl 0)))))) (by decide))) (wd_113 hw) (wd_112 hw) (by decide) (by decide)) (fun _ _ _ q => q) (Or.inr fun _ _ q => by rw [q.2]; exact Mv.refl) pd_7 rfl rfl rfl rfl (by decide) (by decide) fun v82 h83 q84 => ?_
        obtain ⟨rfl, hh⟩ := q84
        obtain rfl := hh.symm
        show Go C Z n0 (fun v _ => v = some (.int 1)) [a24, c] h43 3 32 605 #[.val (.int p0), .val (.int p1), .val (.int p2), .val (.int p3), .val (.int f), .val (.int ap), .val (.int q), .val (.int o2), .val (.int kk), .val (.int ua), .val (.int ub), .val (.int a0_), .val (.int a1_), .val (.int a2_), .val (.int b0_), .val (.int b1_), .val (.int b2_), .val (.ref c), .val (.int (Int32.ofNat (nestN 14 [(symF a0_ f), (symF a1_ f), (symF a2_ f), m0, m1, m2, m3, m4, m5, m6, m7, (symF b0_ f), (symF b1_ f), (symF b2_ f)] 15 0 0 0))), .val (.int (Int32.ofNat (nxtN (nxtN (nxtN (nxtN (nxtN 0 a0_) a1_) a2_) b0_) b1_))), .val (.int (Int32.ofNat (max (max (max (max 0 (nxtN 0 a0_)) (nxtN (nxtN 0 a0_) a1_)) (nxtN (nxtN (nxtN 0 a0_) a1_) a2_)) (nxtN (nxtN (nxtN (nxtN 0 a0_) a1_) a2_) b0_))))] [(.int (Int32.ofNat (max (max (max (max (max 0 (nxtN 0 a0_)) (nxtN (nxtN 0 a0_) a1_)) (nxtN (nxtN (nxtN 0 a0_) a1_) a2_)) (nxtN (nxtN (nxtN (nxtN 0 a0_) a1_) a2_) b0_)) (nxtN (nxtN (nxtN (nxtN (nxtN 0 a0_) a1_) a2_) b0_) b1_))))]
        refine g_istore o (pc := 605) at_605 (L' := #[.val (.int p0), .val (.int p1), .val (.int p2), .val (.int p3), .val (.int f), .val (.int ap), .val (.int q), .val (.int o2), .val (.int kk), .val (.int ua), .val (.int ub), .val (.int a0_), .val (.int a1_), .val (.int a2_), .val (.int b0_), .val (.int b1_), .val (.int b2_), .val (.ref c), .val (.int (Int32.ofNat (nestN 14 [(symF a0_ f), (symF a1_ f), (symF a2_ f), m0, m1, m2, m3, m4, m5, m6, m7, (symF b0_ f), (symF b1_ f), (symF b2_ f)] 15 0 0 0))), .val (.int (Int32.ofNat (nxtN (nxtN (nxtN (nxtN (nxtN 0 a0_) a1_) a2_) b0_) b1_))), .val (.int (Int32.ofNat (max (max (max (max (max 0 (nxtN 0 a0_)) (nxtN (nxtN 0 a0_) a1_)) (nxtN (nxtN (nxtN 0 a0_) a1_) a2_)) (nxtN (nxtN (nxtN (nxtN 0 a0_) a1_) a2_) b0_)) (nxtN (nxtN (nxtN (nxtN (nxtN 0 a0_) a1_) a2_) b0_) b1_))))]) rfl ?_
        refine g_iload o (pc := 607) at_607 rfl ?_
        refine g_iload o (pc := 609) at_609 rfl ?_
        refine g_static o (pc := 611) [(.int (Int32.ofNat (nxtN (nxtN (nxtN (nxtN (nxtN 0 a0_) a1_) a2_) b0_) b1_))), (.int b2_)] [] at_611 (wd_126 hw) (wd_127 hw) (wd_2 hw) (wd_128 hw) (by decide) (Met.back o (W := 0) (rm_next C.l Z a0 hw n0 h43 q46 (nxtN (nxtN (nxtN (nxtN (nxtN 0 a0_) a1_) a2_) b0_) b1_) b2_ (Nat.lt_of_le_of_lt (nb (nb (nb (nb (nb (Nat.le_refl 0)))))) (by decide))) (wd_128 hw) (wd_2 hw) (by decide) (by decide)) (fun _ _ _ q => q) (Or.inr fun _ _ q => by rw [q.2]; exact Mv.refl) pd_7 rfl rfl rfl rfl (by decide) (by decide) fun v85 h86 q87 => ?_
        obtain ⟨rfl, hh⟩ := q87
        obtain rfl := hh.symm
        show Go C Z n0 (fun v _ => v = some (.int 1)) [a24, c] h43 3 32 614 #[.val (.int p0), .val (.int p1), .val (.int p2), .val (.int p3), .val (.int f), .val (.int ap), .val (.int q), .val (.int o2), .val (.int kk), .val (.int ua), .val (.int ub), .val (.int a0_), .val (.int a1_), .val (.int a2_), .val (.int b0_), .val (.int b1_), .val (.int b2_), .val (.ref c), .val (.int (Int32.ofNat (nestN 14 [(symF a0_ f), (symF a1_ f), (symF a2_ f), m0, m1, m2, m3, m4, m5, m6, m7, (symF b0_ f), (symF b1_ f), (symF b2_ f)] 15 0 0 0))), .val (.int (Int32.ofNat (nxtN (nxtN (nxtN (nxtN (nxtN 0 a0_) a1_) a2_) b0_) b1_))), .val (.int (Int32.ofNat (max (max (max (max (max 0 (nxtN 0 a0_)) (nxtN (nxtN 0 a0_) a1_)) (nxtN (nxtN (nxtN 0 a0_) a1_) a2_)) (nxtN (nxtN (nxtN (nxtN 0 a0_) a1_) a2_) b0_)) (nxtN (nxtN (nxtN (nxtN (nxtN 0 a0_) a1_) a2_) b0_) b1_))))] [(.int (Int32.ofNat (nxtN (nxtN (nxtN (nxtN (nxtN (nxtN 0 a0_) a1_) a2_) b0_) b1_) b2_)))]
        refine g_istore o (pc := 614) at_614 (L' := #[.val (.int p0), .val (.int p1), .val (.int p2), .val (.int p3), .val (.int f), .val (.int ap), .val (.int q), .val (.int o2), .val (.int kk), .val (.int ua), .val (.int ub), .val (.int a0_), .val (.int a1_), .val (.int a2_), .val (.int b0_), .val (.int b1_), .val (.int b2_), .val (.ref c), .val (.int (Int32.ofNat (nestN 14 [(symF a0_ f), (symF a1_ f), (symF a2_ f), m0, m1, m2, m3, m4, m5, m6, m7, (symF b0_ f), (symF b1_ f), (symF b2_ f)] 15 0 0 0))), .val (.int (Int32.ofNat (nxtN (nxtN (nxtN (nxtN (nxtN (nxtN 0 a0_) a1_) a2_) b0_) b1_) b2_))), .val (.int (Int32.ofNat (max (max (max (max (max 0 (nxtN 0 a0_)) (nxtN (nxtN 0 a0_) a1_)) (nxtN (nxtN (nxtN 0 a0_) a1_) a2_)) (nxtN (nxtN (nxtN (nxtN 0 a0_) a1_) a2_) b0_)) (nxtN (nxtN (nxtN (nxtN (nxtN 0 a0_) a1_) a2_) b0_) b1_))))]) rfl ?_
        refine g_iload o (pc := 616) at_616 rfl ?_
        refine g_iload o (pc := 618) at_618 rfl ?_
        refine g_static o (pc := 620) [(.int (Int32.ofNat (max (max (max (max (max 0 (nxtN 0 a0_)) (nxtN (nxtN 0 a0_) a1_)) (nxtN (nxtN (nxtN 0 a0_) a1_) a2_)) (nxtN (nxtN (nxtN (nxtN 0 a0_) a1_) a2_) b0_)) (nxtN (nxtN (nxtN (nxtN (nxtN 0 a0_) a1_) a2_) b0_) b1_)))), (.int (Int32.ofNat (nxtN (nxtN (nxtN (nxtN (nxtN (nxtN 0 a0_) a1_) a2_) b0_) b1_) b2_)))] [] at_620 (wd_129 hw) (wd_111 hw) (wd_112 hw) (wd_113 hw) (by decide) (Met.back o (W := 0) (rm_max C.l Z a0 hw n0 h43 q46 (max (max (max (max (max 0 (nxtN 0 a0_)) (nxtN (nxtN 0 a0_) a1_)) (nxtN (nxtN (nxtN 0 a0_) a1_) a2_)) (nxtN (nxtN (nxtN (nxtN 0 a0_) a1_) a2_) b0_)) (nxtN (nxtN (nxtN (nxtN (nxtN 0 a0_) a1_) a2_) b0_) b1_)) (nxtN (nxtN (nxtN (nxtN (nxtN (nxtN 0 a0_) a1_) a2_) b0_) b1_) b2_) (Nat.lt_of_le_of_lt (Nat.max_le.mpr ⟨Nat.le_trans (Nat.max_le.mpr ⟨Nat.le_trans (Nat.max_le.mpr ⟨Nat.le_trans (Nat.max_le.mpr ⟨Nat.le_trans (Nat.max_le.mpr ⟨Nat.le_trans (Nat.le_refl 0) (by decide : 0 ≤ 1), Nat.le_trans (nb (Nat.le_refl 0)) (by decide : 1 ≤ 1)⟩) (by decide : 1 ≤ 2), Nat.le_trans (nb (nb (Nat.le_refl 0))) (by decide : 2 ≤ 2)⟩) (by decide : 2 ≤ 3), Nat.le_trans (nb (nb (nb (Nat.le_refl 0)))) (by decide : 3 ≤ 3)⟩) (by decide : 3 ≤ 4), Nat.le_trans (nb (nb (nb (nb (Nat.le_refl 0))))) (by decide : 4 ≤ 4)⟩) (by decide : 4 ≤ 5), Nat.le_trans (nb (nb (nb (nb (nb (Nat.le_refl 0)))))) (by decide : 5 ≤ 5)⟩) (by decide)) (Nat.lt_of_le_of_lt (nb (nb (nb (nb (nb (nb (Nat.le_refl 0))))))) (by decide))) (wd_113 hw) (wd_112 hw) (by decide) (by decide)) (fun _ _ _ q => q) (Or.inr fun _ _ q => by rw [q.2]; exact Mv.refl) pd_7 rfl rfl rfl rfl (by decide) (by decide) fun v88 h89 q90 => ?_
        obtain ⟨rfl, hh⟩ := q90
        obtain rfl := hh.symm
        show Go C Z n0 (fun v _ => v = some (.int 1)) [a24, c] h43 3 32 623 #[.val (.int p0), .val (.int p1), .val (.int p2), .val (.int p3), .val (.int f), .val (.int ap), .val (.int q), .val (.int o2), .val (.int kk), .val (.int ua), .val (.int ub), .val (.int a0_), .val (.int a1_), .val (.int a2_), .val (.int b0_), .val (.int b1_), .val (.int b2_), .val (.ref c), .val (.int (Int32.ofNat (nestN 14 [(symF a0_ f), (symF a1_ f), (symF a2_ f), m0, m1, m2, m3, m4, m5, m6, m7, (symF b0_ f), (symF b1_ f), (symF b2_ f)] 15 0 0 0))), .val (.int (Int32.ofNat (nxtN (nxtN (nxtN (nxtN (nxtN (nxtN 0 a0_) a1_) a2_) b0_) b1_) b2_))), .val (.int (Int32.ofNat (max (max (max (max (max 0 (nxtN 0 a0_)) (nxtN (nxtN 0 a0_) a1_)) (nxtN (nxtN (nxtN 0 a0_) a1_) a2_)) (nxtN (nxtN (nxtN (nxtN 0 a0_) a1_) a2_) b0_)) (nxtN (nxtN (nxtN (nxtN (nxtN 0 a0_) a1_) a2_) b0_) b1_))))] [(.int (Int32.ofNat (max (max (max (max (max (max 0 (nxtN 0 a0_)) (nxtN (nxtN 0 a0_) a1_)) (nxtN (nxtN (nxtN 0 a0_) a1_) a2_)) (nxtN (nxtN (nxtN (nxtN 0 a0_) a1_) a2_) b0_)) (nxtN (nxtN (nxtN (nxtN (nxtN 0 a0_) a1_) a2_) b0_) b1_)) (nxtN (nxtN (nxtN (nxtN (nxtN (nxtN 0 a0_) a1_) a2_) b0_) b1_) b2_))))]
        refine g_istore o (pc := 623) at_623 (L' := #[.val (.int p0), .val (.int p1), .val (.int p2), .val (.int p3), .val (.int f), .val (.int ap), .val (.int q), .val (.int o2), .val (.int kk), .val (.int ua), .val (.int ub), .val (.int a0_), .val (.int a1_), .val (.int a2_), .val (.int b0_), .val (.int b1_), .val (.int b2_), .val (.ref c), .val (.int (Int32.ofNat (nestN 14 [(symF a0_ f), (symF a1_ f), (symF a2_ f), m0, m1, m2, m3, m4, m5, m6, m7, (symF b0_ f), (symF b1_ f), (symF b2_ f)] 15 0 0 0))), .val (.int (Int32.ofNat (nxtN (nxtN (nxtN (nxtN (nxtN (nxtN 0 a0_) a1_) a2_) b0_) b1_) b2_))), .val (.int (Int32.ofNat (max (max (max (max (max (max 0 (nxtN 0 a0_)) (nxtN (nxtN 0 a0_) a1_)) (nxtN (nxtN (nxtN 0 a0_) a1_) a2_)) (nxtN (nxtN (nxtN (nxtN 0 a0_) a1_) a2_) b0_)) (nxtN (nxtN (nxtN (nxtN (nxtN 0 a0_) a1_) a2_) b0_) b1_)) (nxtN (nxtN (nxtN (nxtN (nxtN (nxtN 0 a0_) a1_) a2_) b0_) b1_) b2_))))]) rfl ?_
        refine g_iload o (pc := 625) at_625 rfl ?_
        refine g_iload o (pc := 627) at_627 rfl ?_
        refine g_icmpN o (pc := 629) at_629 (t := 636) (by decide) rfl c_ne (fun hy91 => absurd (congrArg Int32.ofNat (HK.trans (show refG kk a0_ a1_ a2_ b0_ b1_ b2_ = max (max (max (max (max (max 0 (nxtN 0 a0_)) (nxtN (nxtN 0 a0_) a1_)) (nxtN (nxtN (nxtN 0 a0_) a1_) a2_)) (nxtN (nxtN (nxtN (nxtN 0 a0_) a1_) a2_) b0_)) (nxtN (nxtN (nxtN (nxtN (nxtN 0 a0_) a1_) a2_) b0_) b1_)) (nxtN (nxtN (nxtN (nxtN (nxtN (nxtN 0 a0_) a1_) a2_) b0_) b1_) b2_) from by unfold refG; rw [if_neg hy65, if_neg (fun z => z.elim hn68 hn71)]))) hy91) (fun _ => ?_)
        refine g_iconst o (pc := 632) at_632 (v := 1) rfl ?_
        refine g_goto o (pc := 633) at_633 (t := 637) (by decide) rfl ?_
        refine g_nreturn o (pc := 637) (by simp) at_637 (y := 1) rfl ?_ (by decide) (by decide)
        exact rfl
  · refine g_iload o (pc := 508) at_508 rfl ?_
    refine g_iconst o (pc := 510) at_510 (v := 3) rfl ?_
    refine g_static o (pc := 511) [(.int (Int32.ofNat (nxtN (nxtN (nxtN 0 a0_) a1_) a2_))), (.int 3)] [] at_511 (wd_126 hw) (wd_127 hw) (wd_2 hw) (wd_128 hw) (by decide) (Met.back o (W := 0) (rm_next C.l Z a0 hw n0 h43 q46 (nxtN (nxtN (nxtN 0 a0_) a1_) a2_) 3 (Nat.lt_of_le_of_lt (nb (nb (nb (Nat.le_refl 0)))) (by decide))) (wd_128 hw) (wd_2 hw) (by decide) (by decide)) (fun _ _ _ q => q) (Or.inr fun _ _ q => by rw [q.2]; exact Mv.refl) pd_7 rfl rfl rfl rfl (by decide) (by decide) fun v92 h93 q94 => ?_
    obtain ⟨rfl, hh⟩ := q94
    obtain rfl := hh.symm
    show Go C Z n0 (fun v _ => v = some (.int 1)) [a24, c] h43 3 32 514 #[.val (.int p0), .val (.int p1), .val (.int p2), .val (.int p3), .val (.int f), .val (.int ap), .val (.int q), .val (.int o2), .val (.int kk), .val (.int ua), .val (.int ub), .val (.int a0_), .val (.int a1_), .val (.int a2_), .val (.int b0_), .val (.int b1_), .val (.int b2_), .val (.ref c), .val (.int (Int32.ofNat (nestN 14 [(symF a0_ f), (symF a1_ f), (symF a2_ f), m0, m1, m2, m3, m4, m5, m6, m7, (symF b0_ f), (symF b1_ f), (symF b2_ f)] 15 0 0 0))), .val (.int (Int32.ofNat (nxtN (nxtN (nxtN 0 a0_) a1_) a2_))), .val (.int (Int32.ofNat (max (max (max 0 (nxtN 0 a0_)) (nxtN (nxtN 0 a0_) a1_)) (nxtN (nxtN (nxtN 0 a0_) a1_) a2_))))] [(.int (Int32.ofNat (nxtN (nxtN (nxtN (nxtN 0 a0_) a1_) a2_) 3)))]
    refine g_istore o (pc := 514) at_514 (L' := #[.val (.int p0), .val (.int p1), .val (.int p2), .val (.int p3), .val (.int f), .val (.int ap), .val (.int q), .val (.int o2), .val (.int kk), .val (.int ua), .val (.int ub), .val (.int a0_), .val (.int a1_), .val (.int a2_), .val (.int b0_), .val (.int b1_), .val (.int b2_), .val (.ref c), .val (.int (Int32.ofNat (nestN 14 [(symF a0_ f), (symF a1_ f), (symF a2_ f), m0, m1, m2, m3, m4, m5, m6, m7, (symF b0_ f), (symF b1_ f), (symF b2_ f)] 15 0 0 0))), .val (.int (Int32.ofNat (nxtN (nxtN (nxtN (nxtN 0 a0_) a1_) a2_) 3))), .val (.int (Int32.ofNat (max (max (max 0 (nxtN 0 a0_)) (nxtN (nxtN 0 a0_) a1_)) (nxtN (nxtN (nxtN 0 a0_) a1_) a2_))))]) rfl ?_
    refine g_iload o (pc := 516) at_516 rfl ?_
    refine g_iload o (pc := 518) at_518 rfl ?_
    refine g_static o (pc := 520) [(.int (Int32.ofNat (max (max (max 0 (nxtN 0 a0_)) (nxtN (nxtN 0 a0_) a1_)) (nxtN (nxtN (nxtN 0 a0_) a1_) a2_)))), (.int (Int32.ofNat (nxtN (nxtN (nxtN (nxtN 0 a0_) a1_) a2_) 3)))] [] at_520 (wd_129 hw) (wd_111 hw) (wd_112 hw) (wd_113 hw) (by decide) (Met.back o (W := 0) (rm_max C.l Z a0 hw n0 h43 q46 (max (max (max 0 (nxtN 0 a0_)) (nxtN (nxtN 0 a0_) a1_)) (nxtN (nxtN (nxtN 0 a0_) a1_) a2_)) (nxtN (nxtN (nxtN (nxtN 0 a0_) a1_) a2_) 3) (Nat.lt_of_le_of_lt (Nat.max_le.mpr ⟨Nat.le_trans (Nat.max_le.mpr ⟨Nat.le_trans (Nat.max_le.mpr ⟨Nat.le_trans (Nat.le_refl 0) (by decide : 0 ≤ 1), Nat.le_trans (nb (Nat.le_refl 0)) (by decide : 1 ≤ 1)⟩) (by decide : 1 ≤ 2), Nat.le_trans (nb (nb (Nat.le_refl 0))) (by decide : 2 ≤ 2)⟩) (by decide : 2 ≤ 3), Nat.le_trans (nb (nb (nb (Nat.le_refl 0)))) (by decide : 3 ≤ 3)⟩) (by decide)) (Nat.lt_of_le_of_lt (nb (nb (nb (nb (Nat.le_refl 0))))) (by decide))) (wd_113 hw) (wd_112 hw) (by decide) (by decide)) (fun _ _ _ q => q) (Or.inr fun _ _ q => by rw [q.2]; exact Mv.refl) pd_7 rfl rfl rfl rfl (by decide) (by decide) fun v95 h96 q97 => ?_
    obtain ⟨rfl, hh⟩ := q97
    obtain rfl := hh.symm
    show Go C Z n0 (fun v _ => v = some (.int 1)) [a24, c] h43 3 32 523 #[.val (.int p0), .val (.int p1), .val (.int p2), .val (.int p3), .val (.int f), .val (.int ap), .val (.int q), .val (.int o2), .val (.int kk), .val (.int ua), .val (.int ub), .val (.int a0_), .val (.int a1_), .val (.int a2_), .val (.int b0_), .val (.int b1_), .val (.int b2_), .val (.ref c), .val (.int (Int32.ofNat (nestN 14 [(symF a0_ f), (symF a1_ f), (symF a2_ f), m0, m1, m2, m3, m4, m5, m6, m7, (symF b0_ f), (symF b1_ f), (symF b2_ f)] 15 0 0 0))), .val (.int (Int32.ofNat (nxtN (nxtN (nxtN (nxtN 0 a0_) a1_) a2_) 3))), .val (.int (Int32.ofNat (max (max (max 0 (nxtN 0 a0_)) (nxtN (nxtN 0 a0_) a1_)) (nxtN (nxtN (nxtN 0 a0_) a1_) a2_))))] [(.int (Int32.ofNat (max (max (max (max 0 (nxtN 0 a0_)) (nxtN (nxtN 0 a0_) a1_)) (nxtN (nxtN (nxtN 0 a0_) a1_) a2_)) (nxtN (nxtN (nxtN (nxtN 0 a0_) a1_) a2_) 3))))]
    refine g_istore o (pc := 523) at_523 (L' := #[.val (.int p0), .val (.int p1), .val (.int p2), .val (.int p3), .val (.int f), .val (.int ap), .val (.int q), .val (.int o2), .val (.int kk), .val (.int ua), .val (.int ub), .val (.int a0_), .val (.int a1_), .val (.int a2_), .val (.int b0_), .val (.int b1_), .val (.int b2_), .val (.ref c), .val (.int (Int32.ofNat (nestN 14 [(symF a0_ f), (symF a1_ f), (symF a2_ f), m0, m1, m2, m3, m4, m5, m6, m7, (symF b0_ f), (symF b1_ f), (symF b2_ f)] 15 0 0 0))), .val (.int (Int32.ofNat (nxtN (nxtN (nxtN (nxtN 0 a0_) a1_) a2_) 3))), .val (.int (Int32.ofNat (max (max (max (max 0 (nxtN 0 a0_)) (nxtN (nxtN 0 a0_) a1_)) (nxtN (nxtN (nxtN 0 a0_) a1_) a2_)) (nxtN (nxtN (nxtN (nxtN 0 a0_) a1_) a2_) 3))))]) rfl ?_
    refine g_iload o (pc := 525) at_525 rfl ?_
    refine g_iconst o (pc := 527) at_527 (v := 0) rfl ?_
    refine g_static o (pc := 528) [(.int (Int32.ofNat (nxtN (nxtN (nxtN (nxtN 0 a0_) a1_) a2_) 3))), (.int 0)] [] at_528 (wd_126 hw) (wd_127 hw) (wd_2 hw) (wd_128 hw) (by decide) (Met.back o (W := 0) (rm_next C.l Z a0 hw n0 h43 q46 (nxtN (nxtN (nxtN (nxtN 0 a0_) a1_) a2_) 3) 0 (Nat.lt_of_le_of_lt (nb (nb (nb (nb (Nat.le_refl 0))))) (by decide))) (wd_128 hw) (wd_2 hw) (by decide) (by decide)) (fun _ _ _ q => q) (Or.inr fun _ _ q => by rw [q.2]; exact Mv.refl) pd_7 rfl rfl rfl rfl (by decide) (by decide) fun v98 h99 q100 => ?_
    obtain ⟨rfl, hh⟩ := q100
    obtain rfl := hh.symm
    show Go C Z n0 (fun v _ => v = some (.int 1)) [a24, c] h43 3 32 531 #[.val (.int p0), .val (.int p1), .val (.int p2), .val (.int p3), .val (.int f), .val (.int ap), .val (.int q), .val (.int o2), .val (.int kk), .val (.int ua), .val (.int ub), .val (.int a0_), .val (.int a1_), .val (.int a2_), .val (.int b0_), .val (.int b1_), .val (.int b2_), .val (.ref c), .val (.int (Int32.ofNat (nestN 14 [(symF a0_ f), (symF a1_ f), (symF a2_ f), m0, m1, m2, m3, m4, m5, m6, m7, (symF b0_ f), (symF b1_ f), (symF b2_ f)] 15 0 0 0))), .val (.int (Int32.ofNat (nxtN (nxtN (nxtN (nxtN 0 a0_) a1_) a2_) 3))), .val (.int (Int32.ofNat (max (max (max (max 0 (nxtN 0 a0_)) (nxtN (nxtN 0 a0_) a1_)) (nxtN (nxtN (nxtN 0 a0_) a1_) a2_)) (nxtN (nxtN (nxtN (nxtN 0 a0_) a1_) a2_) 3))))] [(.int (Int32.ofNat (nxtN (nxtN (nxtN (nxtN (nxtN 0 a0_) a1_) a2_) 3) 0)))]
    refine g_istore o (pc := 531) at_531 (L' := #[.val (.int p0), .val (.int p1), .val (.int p2), .val (.int p3), .val (.int f), .val (.int ap), .val (.int q), .val (.int o2), .val (.int kk), .val (.int ua), .val (.int ub), .val (.int a0_), .val (.int a1_), .val (.int a2_), .val (.int b0_), .val (.int b1_), .val (.int b2_), .val (.ref c), .val (.int (Int32.ofNat (nestN 14 [(symF a0_ f), (symF a1_ f), (symF a2_ f), m0, m1, m2, m3, m4, m5, m6, m7, (symF b0_ f), (symF b1_ f), (symF b2_ f)] 15 0 0 0))), .val (.int (Int32.ofNat (nxtN (nxtN (nxtN (nxtN (nxtN 0 a0_) a1_) a2_) 3) 0))), .val (.int (Int32.ofNat (max (max (max (max 0 (nxtN 0 a0_)) (nxtN (nxtN 0 a0_) a1_)) (nxtN (nxtN (nxtN 0 a0_) a1_) a2_)) (nxtN (nxtN (nxtN (nxtN 0 a0_) a1_) a2_) 3))))]) rfl ?_
    refine g_iload o (pc := 533) at_533 rfl ?_
    refine g_iload o (pc := 535) at_535 rfl ?_
    refine g_static o (pc := 537) [(.int (Int32.ofNat (max (max (max (max 0 (nxtN 0 a0_)) (nxtN (nxtN 0 a0_) a1_)) (nxtN (nxtN (nxtN 0 a0_) a1_) a2_)) (nxtN (nxtN (nxtN (nxtN 0 a0_) a1_) a2_) 3)))), (.int (Int32.ofNat (nxtN (nxtN (nxtN (nxtN (nxtN 0 a0_) a1_) a2_) 3) 0)))] [] at_537 (wd_129 hw) (wd_111 hw) (wd_112 hw) (wd_113 hw) (by decide) (Met.back o (W := 0) (rm_max C.l Z a0 hw n0 h43 q46 (max (max (max (max 0 (nxtN 0 a0_)) (nxtN (nxtN 0 a0_) a1_)) (nxtN (nxtN (nxtN 0 a0_) a1_) a2_)) (nxtN (nxtN (nxtN (nxtN 0 a0_) a1_) a2_) 3)) (nxtN (nxtN (nxtN (nxtN (nxtN 0 a0_) a1_) a2_) 3) 0) (Nat.lt_of_le_of_lt (Nat.max_le.mpr ⟨Nat.le_trans (Nat.max_le.mpr ⟨Nat.le_trans (Nat.max_le.mpr ⟨Nat.le_trans (Nat.max_le.mpr ⟨Nat.le_trans (Nat.le_refl 0) (by decide : 0 ≤ 1), Nat.le_trans (nb (Nat.le_refl 0)) (by decide : 1 ≤ 1)⟩) (by decide : 1 ≤ 2), Nat.le_trans (nb (nb (Nat.le_refl 0))) (by decide : 2 ≤ 2)⟩) (by decide : 2 ≤ 3), Nat.le_trans (nb (nb (nb (Nat.le_refl 0)))) (by decide : 3 ≤ 3)⟩) (by decide : 3 ≤ 4), Nat.le_trans (nb (nb (nb (nb (Nat.le_refl 0))))) (by decide : 4 ≤ 4)⟩) (by decide)) (Nat.lt_of_le_of_lt (nb (nb (nb (nb (nb (Nat.le_refl 0)))))) (by decide))) (wd_113 hw) (wd_112 hw) (by decide) (by decide)) (fun _ _ _ q => q) (Or.inr fun _ _ q => by rw [q.2]; exact Mv.refl) pd_7 rfl rfl rfl rfl (by decide) (by decide) fun v101 h102 q103 => ?_
    obtain ⟨rfl, hh⟩ := q103
    obtain rfl := hh.symm
    show Go C Z n0 (fun v _ => v = some (.int 1)) [a24, c] h43 3 32 540 #[.val (.int p0), .val (.int p1), .val (.int p2), .val (.int p3), .val (.int f), .val (.int ap), .val (.int q), .val (.int o2), .val (.int kk), .val (.int ua), .val (.int ub), .val (.int a0_), .val (.int a1_), .val (.int a2_), .val (.int b0_), .val (.int b1_), .val (.int b2_), .val (.ref c), .val (.int (Int32.ofNat (nestN 14 [(symF a0_ f), (symF a1_ f), (symF a2_ f), m0, m1, m2, m3, m4, m5, m6, m7, (symF b0_ f), (symF b1_ f), (symF b2_ f)] 15 0 0 0))), .val (.int (Int32.ofNat (nxtN (nxtN (nxtN (nxtN (nxtN 0 a0_) a1_) a2_) 3) 0))), .val (.int (Int32.ofNat (max (max (max (max 0 (nxtN 0 a0_)) (nxtN (nxtN 0 a0_) a1_)) (nxtN (nxtN (nxtN 0 a0_) a1_) a2_)) (nxtN (nxtN (nxtN (nxtN 0 a0_) a1_) a2_) 3))))] [(.int (Int32.ofNat (max (max (max (max (max 0 (nxtN 0 a0_)) (nxtN (nxtN 0 a0_) a1_)) (nxtN (nxtN (nxtN 0 a0_) a1_) a2_)) (nxtN (nxtN (nxtN (nxtN 0 a0_) a1_) a2_) 3)) (nxtN (nxtN (nxtN (nxtN (nxtN 0 a0_) a1_) a2_) 3) 0))))]
    refine g_istore o (pc := 540) at_540 (L' := #[.val (.int p0), .val (.int p1), .val (.int p2), .val (.int p3), .val (.int f), .val (.int ap), .val (.int q), .val (.int o2), .val (.int kk), .val (.int ua), .val (.int ub), .val (.int a0_), .val (.int a1_), .val (.int a2_), .val (.int b0_), .val (.int b1_), .val (.int b2_), .val (.ref c), .val (.int (Int32.ofNat (nestN 14 [(symF a0_ f), (symF a1_ f), (symF a2_ f), m0, m1, m2, m3, m4, m5, m6, m7, (symF b0_ f), (symF b1_ f), (symF b2_ f)] 15 0 0 0))), .val (.int (Int32.ofNat (nxtN (nxtN (nxtN (nxtN (nxtN 0 a0_) a1_) a2_) 3) 0))), .val (.int (Int32.ofNat (max (max (max (max (max 0 (nxtN 0 a0_)) (nxtN (nxtN 0 a0_) a1_)) (nxtN (nxtN (nxtN 0 a0_) a1_) a2_)) (nxtN (nxtN (nxtN (nxtN 0 a0_) a1_) a2_) 3)) (nxtN (nxtN (nxtN (nxtN (nxtN 0 a0_) a1_) a2_) 3) 0))))]) rfl ?_
    refine g_iload o (pc := 542) at_542 rfl ?_
    refine g_iconst o (pc := 544) at_544 (v := 3) rfl ?_
    refine g_static o (pc := 545) [(.int (Int32.ofNat (nxtN (nxtN (nxtN (nxtN (nxtN 0 a0_) a1_) a2_) 3) 0))), (.int 3)] [] at_545 (wd_126 hw) (wd_127 hw) (wd_2 hw) (wd_128 hw) (by decide) (Met.back o (W := 0) (rm_next C.l Z a0 hw n0 h43 q46 (nxtN (nxtN (nxtN (nxtN (nxtN 0 a0_) a1_) a2_) 3) 0) 3 (Nat.lt_of_le_of_lt (nb (nb (nb (nb (nb (Nat.le_refl 0)))))) (by decide))) (wd_128 hw) (wd_2 hw) (by decide) (by decide)) (fun _ _ _ q => q) (Or.inr fun _ _ q => by rw [q.2]; exact Mv.refl) pd_7 rfl rfl rfl rfl (by decide) (by decide) fun v104 h105 q106 => ?_
    obtain ⟨rfl, hh⟩ := q106
    obtain rfl := hh.symm
    show Go C Z n0 (fun v _ => v = some (.int 1)) [a24, c] h43 3 32 548 #[.val (.int p0), .val (.int p1), .val (.int p2), .val (.int p3), .val (.int f), .val (.int ap), .val (.int q), .val (.int o2), .val (.int kk), .val (.int ua), .val (.int ub), .val (.int a0_), .val (.int a1_), .val (.int a2_), .val (.int b0_), .val (.int b1_), .val (.int b2_), .val (.ref c), .val (.int (Int32.ofNat (nestN 14 [(symF a0_ f), (symF a1_ f), (symF a2_ f), m0, m1, m2, m3, m4, m5, m6, m7, (symF b0_ f), (symF b1_ f), (symF b2_ f)] 15 0 0 0))), .val (.int (Int32.ofNat (nxtN (nxtN (nxtN (nxtN (nxtN 0 a0_) a1_) a2_) 3) 0))), .val (.int (Int32.ofNat (max (max (max (max (max 0 (nxtN 0 a0_)) (nxtN (nxtN 0 a0_) a1_)) (nxtN (nxtN (nxtN 0 a0_) a1_) a2_)) (nxtN (nxtN (nxtN (nxtN 0 a0_) a1_) a2_) 3)) (nxtN (nxtN (nxtN (nxtN (nxtN 0 a0_) a1_) a2_) 3) 0))))] [(.int (Int32.ofNat (nxtN (nxtN (nxtN (nxtN (nxtN (nxtN 0 a0_) a1_) a2_) 3) 0) 3)))]
    refine g_istore o (pc := 548) at_548 (L' := #[.val (.int p0), .val (.int p1), .val (.int p2), .val (.int p3), .val (.int f), .val (.int ap), .val (.int q), .val (.int o2), .val (.int kk), .val (.int ua), .val (.int ub), .val (.int a0_), .val (.int a1_), .val (.int a2_), .val (.int b0_), .val (.int b1_), .val (.int b2_), .val (.ref c), .val (.int (Int32.ofNat (nestN 14 [(symF a0_ f), (symF a1_ f), (symF a2_ f), m0, m1, m2, m3, m4, m5, m6, m7, (symF b0_ f), (symF b1_ f), (symF b2_ f)] 15 0 0 0))), .val (.int (Int32.ofNat (nxtN (nxtN (nxtN (nxtN (nxtN (nxtN 0 a0_) a1_) a2_) 3) 0) 3))), .val (.int (Int32.ofNat (max (max (max (max (max 0 (nxtN 0 a0_)) (nxtN (nxtN 0 a0_) a1_)) (nxtN (nxtN (nxtN 0 a0_) a1_) a2_)) (nxtN (nxtN (nxtN (nxtN 0 a0_) a1_) a2_) 3)) (nxtN (nxtN (nxtN (nxtN (nxtN 0 a0_) a1_) a2_) 3) 0))))]) rfl ?_
    refine g_iload o (pc := 550) at_550 rfl ?_
    refine g_iload o (pc := 552) at_552 rfl ?_
    refine g_static o (pc := 554) [(.int (Int32.ofNat (max (max (max (max (max 0 (nxtN 0 a0_)) (nxtN (nxtN 0 a0_) a1_)) (nxtN (nxtN (nxtN 0 a0_) a1_) a2_)) (nxtN (nxtN (nxtN (nxtN 0 a0_) a1_) a2_) 3)) (nxtN (nxtN (nxtN (nxtN (nxtN 0 a0_) a1_) a2_) 3) 0)))), (.int (Int32.ofNat (nxtN (nxtN (nxtN (nxtN (nxtN (nxtN 0 a0_) a1_) a2_) 3) 0) 3)))] [] at_554 (wd_129 hw) (wd_111 hw) (wd_112 hw) (wd_113 hw) (by decide) (Met.back o (W := 0) (rm_max C.l Z a0 hw n0 h43 q46 (max (max (max (max (max 0 (nxtN 0 a0_)) (nxtN (nxtN 0 a0_) a1_)) (nxtN (nxtN (nxtN 0 a0_) a1_) a2_)) (nxtN (nxtN (nxtN (nxtN 0 a0_) a1_) a2_) 3)) (nxtN (nxtN (nxtN (nxtN (nxtN 0 a0_) a1_) a2_) 3) 0)) (nxtN (nxtN (nxtN (nxtN (nxtN (nxtN 0 a0_) a1_) a2_) 3) 0) 3) (Nat.lt_of_le_of_lt (Nat.max_le.mpr ⟨Nat.le_trans (Nat.max_le.mpr ⟨Nat.le_trans (Nat.max_le.mpr ⟨Nat.le_trans (Nat.max_le.mpr ⟨Nat.le_trans (Nat.max_le.mpr ⟨Nat.le_trans (Nat.le_refl 0) (by decide : 0 ≤ 1), Nat.le_trans (nb (Nat.le_refl 0)) (by decide : 1 ≤ 1)⟩) (by decide : 1 ≤ 2), Nat.le_trans (nb (nb (Nat.le_refl 0))) (by decide : 2 ≤ 2)⟩) (by decide : 2 ≤ 3), Nat.le_trans (nb (nb (nb (Nat.le_refl 0)))) (by decide : 3 ≤ 3)⟩) (by decide : 3 ≤ 4), Nat.le_trans (nb (nb (nb (nb (Nat.le_refl 0))))) (by decide : 4 ≤ 4)⟩) (by decide : 4 ≤ 5), Nat.le_trans (nb (nb (nb (nb (nb (Nat.le_refl 0)))))) (by decide : 5 ≤ 5)⟩) (by decide)) (Nat.lt_of_le_of_lt (nb (nb (nb (nb (nb (nb (Nat.le_refl 0))))))) (by decide))) (wd_113 hw) (wd_112 hw) (by decide) (by decide)) (fun _ _ _ q => q) (Or.inr fun _ _ q => by rw [q.2]; exact Mv.refl) pd_7 rfl rfl rfl rfl (by decide) (by decide) fun v107 h108 q109 => ?_
    obtain ⟨rfl, hh⟩ := q109
    obtain rfl := hh.symm
    show Go C Z n0 (fun v _ => v = some (.int 1)) [a24, c] h43 3 32 557 #[.val (.int p0), .val (.int p1), .val (.int p2), .val (.int p3), .val (.int f), .val (.int ap), .val (.int q), .val (.int o2), .val (.int kk), .val (.int ua), .val (.int ub), .val (.int a0_), .val (.int a1_), .val (.int a2_), .val (.int b0_), .val (.int b1_), .val (.int b2_), .val (.ref c), .val (.int (Int32.ofNat (nestN 14 [(symF a0_ f), (symF a1_ f), (symF a2_ f), m0, m1, m2, m3, m4, m5, m6, m7, (symF b0_ f), (symF b1_ f), (symF b2_ f)] 15 0 0 0))), .val (.int (Int32.ofNat (nxtN (nxtN (nxtN (nxtN (nxtN (nxtN 0 a0_) a1_) a2_) 3) 0) 3))), .val (.int (Int32.ofNat (max (max (max (max (max 0 (nxtN 0 a0_)) (nxtN (nxtN 0 a0_) a1_)) (nxtN (nxtN (nxtN 0 a0_) a1_) a2_)) (nxtN (nxtN (nxtN (nxtN 0 a0_) a1_) a2_) 3)) (nxtN (nxtN (nxtN (nxtN (nxtN 0 a0_) a1_) a2_) 3) 0))))] [(.int (Int32.ofNat (max (max (max (max (max (max 0 (nxtN 0 a0_)) (nxtN (nxtN 0 a0_) a1_)) (nxtN (nxtN (nxtN 0 a0_) a1_) a2_)) (nxtN (nxtN (nxtN (nxtN 0 a0_) a1_) a2_) 3)) (nxtN (nxtN (nxtN (nxtN (nxtN 0 a0_) a1_) a2_) 3) 0)) (nxtN (nxtN (nxtN (nxtN (nxtN (nxtN 0 a0_) a1_) a2_) 3) 0) 3))))]
    refine g_istore o (pc := 557) at_557 (L' := #[.val (.int p0), .val (.int p1), .val (.int p2), .val (.int p3), .val (.int f), .val (.int ap), .val (.int q), .val (.int o2), .val (.int kk), .val (.int ua), .val (.int ub), .val (.int a0_), .val (.int a1_), .val (.int a2_), .val (.int b0_), .val (.int b1_), .val (.int b2_), .val (.ref c), .val (.int (Int32.ofNat (nestN 14 [(symF a0_ f), (symF a1_ f), (symF a2_ f), m0, m1, m2, m3, m4, m5, m6, m7, (symF b0_ f), (symF b1_ f), (symF b2_ f)] 15 0 0 0))), .val (.int (Int32.ofNat (nxtN (nxtN (nxtN (nxtN (nxtN (nxtN 0 a0_) a1_) a2_) 3) 0) 3))), .val (.int (Int32.ofNat (max (max (max (max (max (max 0 (nxtN 0 a0_)) (nxtN (nxtN 0 a0_) a1_)) (nxtN (nxtN (nxtN 0 a0_) a1_) a2_)) (nxtN (nxtN (nxtN (nxtN 0 a0_) a1_) a2_) 3)) (nxtN (nxtN (nxtN (nxtN (nxtN 0 a0_) a1_) a2_) 3) 0)) (nxtN (nxtN (nxtN (nxtN (nxtN (nxtN 0 a0_) a1_) a2_) 3) 0) 3))))]) rfl ?_
    refine g_iload o (pc := 559) at_559 rfl ?_
    refine g_iconst o (pc := 561) at_561 (v := 2) rfl ?_
    refine g_icmp o (pc := 562) at_562 (t := 625) (by decide) rfl c_eq (fun hy110 => absurd hy110 (fun z => absurd (hn66.symm.trans z) (by decide))) (fun _ => ?_)
    refine g_iload o (pc := 565) at_565 rfl ?_
    refine g_iconst o (pc := 567) at_567 (v := 5) rfl ?_
    refine g_icmp o (pc := 568) at_568 (t := 625) (by decide) rfl c_eq (fun hy111 => absurd hy111 (fun z => absurd (hn66.symm.trans z) (by decide))) (fun _ => ?_)
    refine g_iload o (pc := 571) at_571 rfl ?_
    refine g_iload o (pc := 573) at_573 rfl ?_
    refine g_static o (pc := 575) [(.int (Int32.ofNat (nxtN (nxtN (nxtN (nxtN (nxtN (nxtN 0 a0_) a1_) a2_) 3) 0) 3))), (.int b0_)] [] at_575 (wd_126 hw) (wd_127 hw) (wd_2 hw) (wd_128 hw) (by decide) (Met.back o (W := 0) (rm_next C.l Z a0 hw n0 h43 q46 (nxtN (nxtN (nxtN (nxtN (nxtN (nxtN 0 a0_) a1_) a2_) 3) 0) 3) b0_ (Nat.lt_of_le_of_lt (nb (nb (nb (nb (nb (nb (Nat.le_refl 0))))))) (by decide))) (wd_128 hw) (wd_2 hw) (by decide) (by decide)) (fun _ _ _ q => q) (Or.inr fun _ _ q => by rw [q.2]; exact Mv.refl) pd_7 rfl rfl rfl rfl (by decide) (by decide) fun v112 h113 q114 => ?_
    obtain ⟨rfl, hh⟩ := q114
    obtain rfl := hh.symm
    show Go C Z n0 (fun v _ => v = some (.int 1)) [a24, c] h43 3 32 578 #[.val (.int p0), .val (.int p1), .val (.int p2), .val (.int p3), .val (.int f), .val (.int ap), .val (.int q), .val (.int o2), .val (.int kk), .val (.int ua), .val (.int ub), .val (.int a0_), .val (.int a1_), .val (.int a2_), .val (.int b0_), .val (.int b1_), .val (.int b2_), .val (.ref c), .val (.int (Int32.ofNat (nestN 14 [(symF a0_ f), (symF a1_ f), (symF a2_ f), m0, m1, m2, m3, m4, m5, m6, m7, (symF b0_ f), (symF b1_ f), (symF b2_ f)] 15 0 0 0))), .val (.int (Int32.ofNat (nxtN (nxtN (nxtN (nxtN (nxtN (nxtN 0 a0_) a1_) a2_) 3) 0) 3))), .val (.int (Int32.ofNat (max (max (max (max (max (max 0 (nxtN 0 a0_)) (nxtN (nxtN 0 a0_) a1_)) (nxtN (nxtN (nxtN 0 a0_) a1_) a2_)) (nxtN (nxtN (nxtN (nxtN 0 a0_) a1_) a2_) 3)) (nxtN (nxtN (nxtN (nxtN (nxtN 0 a0_) a1_) a2_) 3) 0)) (nxtN (nxtN (nxtN (nxtN (nxtN (nxtN 0 a0_) a1_) a2_) 3) 0) 3))))] [(.int (Int32.ofNat (nxtN (nxtN (nxtN (nxtN (nxtN (nxtN (nxtN 0 a0_) a1_) a2_) 3) 0) 3) b0_)))]
    refine g_istore o (pc := 578) at_578 (L' := #[.val (.int p0), .val (.int p1), .val (.int p2), .val (.int p3), .val (.int f), .val (.int ap), .val (.int q), .val (.int o2), .val (.int kk), .val (.int ua), .val (.int ub), .val (.int a0_), .val (.int a1_), .val (.int a2_), .val (.int b0_), .val (.int b1_), .val (.int b2_), .val (.ref c), .val (.int (Int32.ofNat (nestN 14 [(symF a0_ f), (symF a1_ f), (symF a2_ f), m0, m1, m2, m3, m4, m5, m6, m7, (symF b0_ f), (symF b1_ f), (symF b2_ f)] 15 0 0 0))), .val (.int (Int32.ofNat (nxtN (nxtN (nxtN (nxtN (nxtN (nxtN (nxtN 0 a0_) a1_) a2_) 3) 0) 3) b0_))), .val (.int (Int32.ofNat (max (max (max (max (max (max 0 (nxtN 0 a0_)) (nxtN (nxtN 0 a0_) a1_)) (nxtN (nxtN (nxtN 0 a0_) a1_) a2_)) (nxtN (nxtN (nxtN (nxtN 0 a0_) a1_) a2_) 3)) (nxtN (nxtN (nxtN (nxtN (nxtN 0 a0_) a1_) a2_) 3) 0)) (nxtN (nxtN (nxtN (nxtN (nxtN (nxtN 0 a0_) a1_) a2_) 3) 0) 3))))]) rfl ?_
    refine g_iload o (pc := 580) at_580 rfl ?_
    refine g_iload o (pc := 582) at_582 rfl ?_
    refine g_static o (pc := 584) [(.int (Int32.ofNat (max (max (max (max (max (max 0 (nxtN 0 a0_)) (nxtN (nxtN 0 a0_) a1_)) (nxtN (nxtN (nxtN 0 a0_) a1_) a2_)) (nxtN (nxtN (nxtN (nxtN 0 a0_) a1_) a2_) 3)) (nxtN (nxtN (nxtN (nxtN (nxtN 0 a0_) a1_) a2_) 3) 0)) (nxtN (nxtN (nxtN (nxtN (nxtN (nxtN 0 a0_) a1_) a2_) 3) 0) 3)))), (.int (Int32.ofNat (nxtN (nxtN (nxtN (nxtN (nxtN (nxtN (nxtN 0 a0_) a1_) a2_) 3) 0) 3) b0_)))] [] at_584 (wd_129 hw) (wd_111 hw) (wd_112 hw) (wd_113 hw) (by decide) (Met.back o (W := 0) (rm_max C.l Z a0 hw n0 h43 q46 (max (max (max (max (max (max 0 (nxtN 0 a0_)) (nxtN (nxtN 0 a0_) a1_)) (nxtN (nxtN (nxtN 0 a0_) a1_) a2_)) (nxtN (nxtN (nxtN (nxtN 0 a0_) a1_) a2_) 3)) (nxtN (nxtN (nxtN (nxtN (nxtN 0 a0_) a1_) a2_) 3) 0)) (nxtN (nxtN (nxtN (nxtN (nxtN (nxtN 0 a0_) a1_) a2_) 3) 0) 3)) (nxtN (nxtN (nxtN (nxtN (nxtN (nxtN (nxtN 0 a0_) a1_) a2_) 3) 0) 3) b0_) (Nat.lt_of_le_of_lt (Nat.max_le.mpr ⟨Nat.le_trans (Nat.max_le.mpr ⟨Nat.le_trans (Nat.max_le.mpr ⟨Nat.le_trans (Nat.max_le.mpr ⟨Nat.le_trans (Nat.max_le.mpr ⟨Nat.le_trans (Nat.max_le.mpr ⟨Nat.le_trans (Nat.le_refl 0) (by decide : 0 ≤ 1), Nat.le_trans (nb (Nat.le_refl 0)) (by decide : 1 ≤ 1)⟩) (by decide : 1 ≤ 2), Nat.le_trans (nb (nb (Nat.le_refl 0))) (by decide : 2 ≤ 2)⟩) (by decide : 2 ≤ 3), Nat.le_trans (nb (nb (nb (Nat.le_refl 0)))) (by decide : 3 ≤ 3)⟩) (by decide : 3 ≤ 4), Nat.le_trans (nb (nb (nb (nb (Nat.le_refl 0))))) (by decide : 4 ≤ 4)⟩) (by decide : 4 ≤ 5), Nat.le_trans (nb (nb (nb (nb (nb (Nat.le_refl 0)))))) (by decide : 5 ≤ 5)⟩) (by decide : 5 ≤ 6), Nat.le_trans (nb (nb (nb (nb (nb (nb (Nat.le_refl 0))))))) (by decide : 6 ≤ 6)⟩) (by decide)) (Nat.lt_of_le_of_lt (nb (nb (nb (nb (nb (nb (nb (Nat.le_refl 0)))))))) (by decide))) (wd_113 hw) (wd_112 hw) (by decide) (by decide)) (fun _ _ _ q => q) (Or.inr fun _ _ q => by rw [q.2]; exact Mv.refl) pd_7 rfl rfl rfl rfl (by decide) (by decide) fun v115 h116 q117 => ?_
    obtain ⟨rfl, hh⟩ := q117
    obtain rfl := hh.symm
    show Go C Z n0 (fun v _ => v = some (.int 1)) [a24, c] h43 3 32 587 #[.val (.int p0), .val (.int p1), .val (.int p2), .val (.int p3), .val (.int f), .val (.int ap), .val (.int q), .val (.int o2), .val (.int kk), .val (.int ua), .val (.int ub), .val (.int a0_), .val (.int a1_), .val (.int a2_), .val (.int b0_), .val (.int b1_), .val (.int b2_), .val (.ref c), .val (.int (Int32.ofNat (nestN 14 [(symF a0_ f), (symF a1_ f), (symF a2_ f), m0, m1, m2, m3, m4, m5, m6, m7, (symF b0_ f), (symF b1_ f), (symF b2_ f)] 15 0 0 0))), .val (.int (Int32.ofNat (nxtN (nxtN (nxtN (nxtN (nxtN (nxtN (nxtN 0 a0_) a1_) a2_) 3) 0) 3) b0_))), .val (.int (Int32.ofNat (max (max (max (max (max (max 0 (nxtN 0 a0_)) (nxtN (nxtN 0 a0_) a1_)) (nxtN (nxtN (nxtN 0 a0_) a1_) a2_)) (nxtN (nxtN (nxtN (nxtN 0 a0_) a1_) a2_) 3)) (nxtN (nxtN (nxtN (nxtN (nxtN 0 a0_) a1_) a2_) 3) 0)) (nxtN (nxtN (nxtN (nxtN (nxtN (nxtN 0 a0_) a1_) a2_) 3) 0) 3))))] [(.int (Int32.ofNat (max (max (max (max (max (max (max 0 (nxtN 0 a0_)) (nxtN (nxtN 0 a0_) a1_)) (nxtN (nxtN (nxtN 0 a0_) a1_) a2_)) (nxtN (nxtN (nxtN (nxtN 0 a0_) a1_) a2_) 3)) (nxtN (nxtN (nxtN (nxtN (nxtN 0 a0_) a1_) a2_) 3) 0)) (nxtN (nxtN (nxtN (nxtN (nxtN (nxtN 0 a0_) a1_) a2_) 3) 0) 3)) (nxtN (nxtN (nxtN (nxtN (nxtN (nxtN (nxtN 0 a0_) a1_) a2_) 3) 0) 3) b0_))))]
    refine g_istore o (pc := 587) at_587 (L' := #[.val (.int p0), .val (.int p1), .val (.int p2), .val (.int p3), .val (.int f), .val (.int ap), .val (.int q), .val (.int o2), .val (.int kk), .val (.int ua), .val (.int ub), .val (.int a0_), .val (.int a1_), .val (.int a2_), .val (.int b0_), .val (.int b1_), .val (.int b2_), .val (.ref c), .val (.int (Int32.ofNat (nestN 14 [(symF a0_ f), (symF a1_ f), (symF a2_ f), m0, m1, m2, m3, m4, m5, m6, m7, (symF b0_ f), (symF b1_ f), (symF b2_ f)] 15 0 0 0))), .val (.int (Int32.ofNat (nxtN (nxtN (nxtN (nxtN (nxtN (nxtN (nxtN 0 a0_) a1_) a2_) 3) 0) 3) b0_))), .val (.int (Int32.ofNat (max (max (max (max (max (max (max 0 (nxtN 0 a0_)) (nxtN (nxtN 0 a0_) a1_)) (nxtN (nxtN (nxtN 0 a0_) a1_) a2_)) (nxtN (nxtN (nxtN (nxtN 0 a0_) a1_) a2_) 3)) (nxtN (nxtN (nxtN (nxtN (nxtN 0 a0_) a1_) a2_) 3) 0)) (nxtN (nxtN (nxtN (nxtN (nxtN (nxtN 0 a0_) a1_) a2_) 3) 0) 3)) (nxtN (nxtN (nxtN (nxtN (nxtN (nxtN (nxtN 0 a0_) a1_) a2_) 3) 0) 3) b0_))))]) rfl ?_
    refine g_iload o (pc := 589) at_589 rfl ?_
    refine g_iload o (pc := 591) at_591 rfl ?_
    refine g_static o (pc := 593) [(.int (Int32.ofNat (nxtN (nxtN (nxtN (nxtN (nxtN (nxtN (nxtN 0 a0_) a1_) a2_) 3) 0) 3) b0_))), (.int b1_)] [] at_593 (wd_126 hw) (wd_127 hw) (wd_2 hw) (wd_128 hw) (by decide) (Met.back o (W := 0) (rm_next C.l Z a0 hw n0 h43 q46 (nxtN (nxtN (nxtN (nxtN (nxtN (nxtN (nxtN 0 a0_) a1_) a2_) 3) 0) 3) b0_) b1_ (Nat.lt_of_le_of_lt (nb (nb (nb (nb (nb (nb (nb (Nat.le_refl 0)))))))) (by decide))) (wd_128 hw) (wd_2 hw) (by decide) (by decide)) (fun _ _ _ q => q) (Or.inr fun _ _ q => by rw [q.2]; exact Mv.refl) pd_7 rfl rfl rfl rfl (by decide) (by decide) fun v118 h119 q120 => ?_
    obtain ⟨rfl, hh⟩ := q120
    obtain rfl := hh.symm
    show Go C Z n0 (fun v _ => v = some (.int 1)) [a24, c] h43 3 32 596 #[.val (.int p0), .val (.int p1), .val (.int p2), .val (.int p3), .val (.int f), .val (.int ap), .val (.int q), .val (.int o2), .val (.int kk), .val (.int ua), .val (.int ub), .val (.int a0_), .val (.int a1_), .val (.int a2_), .val (.int b0_), .val (.int b1_), .val (.int b2_), .val (.ref c), .val (.int (Int32.ofNat (nestN 14 [(symF a0_ f), (symF a1_ f), (symF a2_ f), m0, m1, m2, m3, m4, m5, m6, m7, (symF b0_ f), (symF b1_ f), (symF b2_ f)] 15 0 0 0))), .val (.int (Int32.ofNat (nxtN (nxtN (nxtN (nxtN (nxtN (nxtN (nxtN 0 a0_) a1_) a2_) 3) 0) 3) b0_))), .val (.int (Int32.ofNat (max (max (max (max (max (max (max 0 (nxtN 0 a0_)) (nxtN (nxtN 0 a0_) a1_)) (nxtN (nxtN (nxtN 0 a0_) a1_) a2_)) (nxtN (nxtN (nxtN (nxtN 0 a0_) a1_) a2_) 3)) (nxtN (nxtN (nxtN (nxtN (nxtN 0 a0_) a1_) a2_) 3) 0)) (nxtN (nxtN (nxtN (nxtN (nxtN (nxtN 0 a0_) a1_) a2_) 3) 0) 3)) (nxtN (nxtN (nxtN (nxtN (nxtN (nxtN (nxtN 0 a0_) a1_) a2_) 3) 0) 3) b0_))))] [(.int (Int32.ofNat (nxtN (nxtN (nxtN (nxtN (nxtN (nxtN (nxtN (nxtN 0 a0_) a1_) a2_) 3) 0) 3) b0_) b1_)))]
    refine g_istore o (pc := 596) at_596 (L' := #[.val (.int p0), .val (.int p1), .val (.int p2), .val (.int p3), .val (.int f), .val (.int ap), .val (.int q), .val (.int o2), .val (.int kk), .val (.int ua), .val (.int ub), .val (.int a0_), .val (.int a1_), .val (.int a2_), .val (.int b0_), .val (.int b1_), .val (.int b2_), .val (.ref c), .val (.int (Int32.ofNat (nestN 14 [(symF a0_ f), (symF a1_ f), (symF a2_ f), m0, m1, m2, m3, m4, m5, m6, m7, (symF b0_ f), (symF b1_ f), (symF b2_ f)] 15 0 0 0))), .val (.int (Int32.ofNat (nxtN (nxtN (nxtN (nxtN (nxtN (nxtN (nxtN (nxtN 0 a0_) a1_) a2_) 3) 0) 3) b0_) b1_))), .val (.int (Int32.ofNat (max (max (max (max (max (max (max 0 (nxtN 0 a0_)) (nxtN (nxtN 0 a0_) a1_)) (nxtN (nxtN (nxtN 0 a0_) a1_) a2_)) (nxtN (nxtN (nxtN (nxtN 0 a0_) a1_) a2_) 3)) (nxtN (nxtN (nxtN (nxtN (nxtN 0 a0_) a1_) a2_) 3) 0)) (nxtN (nxtN (nxtN (nxtN (nxtN (nxtN 0 a0_) a1_) a2_) 3) 0) 3)) (nxtN (nxtN (nxtN (nxtN (nxtN (nxtN (nxtN 0 a0_) a1_) a2_) 3) 0) 3) b0_))))]) rfl ?_
    refine g_iload o (pc := 598) at_598 rfl ?_
    refine g_iload o (pc := 600) at_600 rfl ?_
    refine g_static o (pc := 602) [(.int (Int32.ofNat (max (max (max (max (max (max (max 0 (nxtN 0 a0_)) (nxtN (nxtN 0 a0_) a1_)) (nxtN (nxtN (nxtN 0 a0_) a1_) a2_)) (nxtN (nxtN (nxtN (nxtN 0 a0_) a1_) a2_) 3)) (nxtN (nxtN (nxtN (nxtN (nxtN 0 a0_) a1_) a2_) 3) 0)) (nxtN (nxtN (nxtN (nxtN (nxtN (nxtN 0 a0_) a1_) a2_) 3) 0) 3)) (nxtN (nxtN (nxtN (nxtN (nxtN (nxtN (nxtN 0 a0_) a1_) a2_) 3) 0) 3) b0_)))), (.int (Int32.ofNat (nxtN (nxtN (nxtN (nxtN (nxtN (nxtN (nxtN (nxtN 0 a0_) a1_) a2_) 3) 0) 3) b0_) b1_)))] [] at_602 (wd_129 hw) (wd_111 hw) (wd_112 hw) (wd_113 hw) (by decide) (Met.back o (W := 0) (rm_max C.l Z a0 hw n0 h43 q46 (max (max (max (max (max (max (max 0 (nxtN 0 a0_)) (nxtN (nxtN 0 a0_) a1_)) (nxtN (nxtN (nxtN 0 a0_) a1_) a2_)) (nxtN (nxtN (nxtN (nxtN 0 a0_) a1_) a2_) 3)) (nxtN (nxtN (nxtN (nxtN (nxtN 0 a0_) a1_) a2_) 3) 0)) (nxtN (nxtN (nxtN (nxtN (nxtN (nxtN 0 a0_) a1_) a2_) 3) 0) 3)) (nxtN (nxtN (nxtN (nxtN (nxtN (nxtN (nxtN 0 a0_) a1_) a2_) 3) 0) 3) b0_)) (nxtN (nxtN (nxtN (nxtN (nxtN (nxtN (nxtN (nxtN 0 a0_) a1_) a2_) 3) 0) 3) b0_) b1_) (Nat.lt_of_le_of_lt (Nat.max_le.mpr ⟨Nat.le_trans (Nat.max_le.mpr ⟨Nat.le_trans (Nat.max_le.mpr ⟨Nat.le_trans (Nat.max_le.mpr ⟨Nat.le_trans (Nat.max_le.mpr ⟨Nat.le_trans (Nat.max_le.mpr ⟨Nat.le_trans (Nat.max_le.mpr ⟨Nat.le_trans (Nat.le_refl 0) (by decide : 0 ≤ 1), Nat.le_trans (nb (Nat.le_refl 0)) (by decide : 1 ≤ 1)⟩) (by decide : 1 ≤ 2), Nat.le_trans (nb (nb (Nat.le_refl 0))) (by decide : 2 ≤ 2)⟩) (by decide : 2 ≤ 3), Nat.le_trans (nb (nb (nb (Nat.le_refl 0)))) (by decide : 3 ≤ 3)⟩) (by decide : 3 ≤ 4), Nat.le_trans (nb (nb (nb (nb (Nat.le_refl 0))))) (by decide : 4 ≤ 4)⟩) (by decide : 4 ≤ 5), Nat.le_trans (nb (nb (nb (nb (nb (Nat.le_refl 0)))))) (by decide : 5 ≤ 5)⟩) (by decide : 5 ≤ 6), Nat.le_trans (nb (nb (nb (nb (nb (nb (Nat.le_refl 0))))))) (by decide : 6 ≤ 6)⟩) (by decide : 6 ≤ 7), Nat.le_trans (nb (nb (nb (nb (nb (nb (nb (Nat.le_refl 0)))))))) (by decide : 7 ≤ 7)⟩) (by decide)) (Nat.lt_of_le_of_lt (nb (nb (nb (nb (nb (nb (nb (nb (Nat.le_refl 0))))))))) (by decide))) (wd_113 hw) (wd_112 hw) (by decide) (by decide)) (fun _ _ _ q => q) (Or.inr fun _ _ q => by rw [q.2]; exact Mv.refl) pd_7 rfl rfl rfl rfl (by decide) (by decide) fun v121 h122 q123 => ?_
    obtain ⟨rfl, hh⟩ := q123
    obtain rfl := hh.symm
    show Go C Z n0 (fun v _ => v = some (.int 1)) [a24, c] h43 3 32 605 #[.val (.int p0), .val (.int p1), .val (.int p2), .val (.int p3), .val (.int f), .val (.int ap), .val (.int q), .val (.int o2), .val (.int kk), .val (.int ua), .val (.int ub), .val (.int a0_), .val (.int a1_), .val (.int a2_), .val (.int b0_), .val (.int b1_), .val (.int b2_), .val (.ref c), .val (.int (Int32.ofNat (nestN 14 [(symF a0_ f), (symF a1_ f), (symF a2_ f), m0, m1, m2, m3, m4, m5, m6, m7, (symF b0_ f), (symF b1_ f), (symF b2_ f)] 15 0 0 0))), .val (.int (Int32.ofNat (nxtN (nxtN (nxtN (nxtN (nxtN (nxtN (nxtN (nxtN 0 a0_) a1_) a2_) 3) 0) 3) b0_) b1_))), .val (.int (Int32.ofNat (max (max (max (max (max (max (max 0 (nxtN 0 a0_)) (nxtN (nxtN 0 a0_) a1_)) (nxtN (nxtN (nxtN 0 a0_) a1_) a2_)) (nxtN (nxtN (nxtN (nxtN 0 a0_) a1_) a2_) 3)) (nxtN (nxtN (nxtN (nxtN (nxtN 0 a0_) a1_) a2_) 3) 0)) (nxtN (nxtN (nxtN (nxtN (nxtN (nxtN 0 a0_) a1_) a2_) 3) 0) 3)) (nxtN (nxtN (nxtN (nxtN (nxtN (nxtN (nxtN 0 a0_) a1_) a2_) 3) 0) 3) b0_))))] [(.int (Int32.ofNat (max (max (max (max (max (max (max (max 0 (nxtN 0 a0_)) (nxtN (nxtN 0 a0_) a1_)) (nxtN (nxtN (nxtN 0 a0_) a1_) a2_)) (nxtN (nxtN (nxtN (nxtN 0 a0_) a1_) a2_) 3)) (nxtN (nxtN (nxtN (nxtN (nxtN 0 a0_) a1_) a2_) 3) 0)) (nxtN (nxtN (nxtN (nxtN (nxtN (nxtN 0 a0_) a1_) a2_) 3) 0) 3)) (nxtN (nxtN (nxtN (nxtN (nxtN (nxtN (nxtN 0 a0_) a1_) a2_) 3) 0) 3) b0_)) (nxtN (nxtN (nxtN (nxtN (nxtN (nxtN (nxtN (nxtN 0 a0_) a1_) a2_) 3) 0) 3) b0_) b1_))))]
    refine g_istore o (pc := 605) at_605 (L' := #[.val (.int p0), .val (.int p1), .val (.int p2), .val (.int p3), .val (.int f), .val (.int ap), .val (.int q), .val (.int o2), .val (.int kk), .val (.int ua), .val (.int ub), .val (.int a0_), .val (.int a1_), .val (.int a2_), .val (.int b0_), .val (.int b1_), .val (.int b2_), .val (.ref c), .val (.int (Int32.ofNat (nestN 14 [(symF a0_ f), (symF a1_ f), (symF a2_ f), m0, m1, m2, m3, m4, m5, m6, m7, (symF b0_ f), (symF b1_ f), (symF b2_ f)] 15 0 0 0))), .val (.int (Int32.ofNat (nxtN (nxtN (nxtN (nxtN (nxtN (nxtN (nxtN (nxtN 0 a0_) a1_) a2_) 3) 0) 3) b0_) b1_))), .val (.int (Int32.ofNat (max (max (max (max (max (max (max (max 0 (nxtN 0 a0_)) (nxtN (nxtN 0 a0_) a1_)) (nxtN (nxtN (nxtN 0 a0_) a1_) a2_)) (nxtN (nxtN (nxtN (nxtN 0 a0_) a1_) a2_) 3)) (nxtN (nxtN (nxtN (nxtN (nxtN 0 a0_) a1_) a2_) 3) 0)) (nxtN (nxtN (nxtN (nxtN (nxtN (nxtN 0 a0_) a1_) a2_) 3) 0) 3)) (nxtN (nxtN (nxtN (nxtN (nxtN (nxtN (nxtN 0 a0_) a1_) a2_) 3) 0) 3) b0_)) (nxtN (nxtN (nxtN (nxtN (nxtN (nxtN (nxtN (nxtN 0 a0_) a1_) a2_) 3) 0) 3) b0_) b1_))))]) rfl ?_
    refine g_iload o (pc := 607) at_607 rfl ?_
    refine g_iload o (pc := 609) at_609 rfl ?_
    refine g_static o (pc := 611) [(.int (Int32.ofNat (nxtN (nxtN (nxtN (nxtN (nxtN (nxtN (nxtN (nxtN 0 a0_) a1_) a2_) 3) 0) 3) b0_) b1_))), (.int b2_)] [] at_611 (wd_126 hw) (wd_127 hw) (wd_2 hw) (wd_128 hw) (by decide) (Met.back o (W := 0) (rm_next C.l Z a0 hw n0 h43 q46 (nxtN (nxtN (nxtN (nxtN (nxtN (nxtN (nxtN (nxtN 0 a0_) a1_) a2_) 3) 0) 3) b0_) b1_) b2_ (Nat.lt_of_le_of_lt (nb (nb (nb (nb (nb (nb (nb (nb (Nat.le_refl 0))))))))) (by decide))) (wd_128 hw) (wd_2 hw) (by decide) (by decide)) (fun _ _ _ q => q) (Or.inr fun _ _ q => by rw [q.2]; exact Mv.refl) pd_7 rfl rfl rfl rfl (by decide) (by decide) fun v124 h125 q126 => ?_
    obtain ⟨rfl, hh⟩ := q126
    obtain rfl := hh.symm
    show Go C Z n0 (fun v _ => v = some (.int 1)) [a24, c] h43 3 32 614 #[.val (.int p0), .val (.int p1), .val (.int p2), .val (.int p3), .val (.int f), .val (.int ap), .val (.int q), .val (.int o2), .val (.int kk), .val (.int ua), .val (.int ub), .val (.int a0_), .val (.int a1_), .val (.int a2_), .val (.int b0_), .val (.int b1_), .val (.int b2_), .val (.ref c), .val (.int (Int32.ofNat (nestN 14 [(symF a0_ f), (symF a1_ f), (symF a2_ f), m0, m1, m2, m3, m4, m5, m6, m7, (symF b0_ f), (symF b1_ f), (symF b2_ f)] 15 0 0 0))), .val (.int (Int32.ofNat (nxtN (nxtN (nxtN (nxtN (nxtN (nxtN (nxtN (nxtN 0 a0_) a1_) a2_) 3) 0) 3) b0_) b1_))), .val (.int (Int32.ofNat (max (max (max (max (max (max (max (max 0 (nxtN 0 a0_)) (nxtN (nxtN 0 a0_) a1_)) (nxtN (nxtN (nxtN 0 a0_) a1_) a2_)) (nxtN (nxtN (nxtN (nxtN 0 a0_) a1_) a2_) 3)) (nxtN (nxtN (nxtN (nxtN (nxtN 0 a0_) a1_) a2_) 3) 0)) (nxtN (nxtN (nxtN (nxtN (nxtN (nxtN 0 a0_) a1_) a2_) 3) 0) 3)) (nxtN (nxtN (nxtN (nxtN (nxtN (nxtN (nxtN 0 a0_) a1_) a2_) 3) 0) 3) b0_)) (nxtN (nxtN (nxtN (nxtN (nxtN (nxtN (nxtN (nxtN 0 a0_) a1_) a2_) 3) 0) 3) b0_) b1_))))] [(.int (Int32.ofNat (nxtN (nxtN (nxtN (nxtN (nxtN (nxtN (nxtN (nxtN (nxtN 0 a0_) a1_) a2_) 3) 0) 3) b0_) b1_) b2_)))]
    refine g_istore o (pc := 614) at_614 (L' := #[.val (.int p0), .val (.int p1), .val (.int p2), .val (.int p3), .val (.int f), .val (.int ap), .val (.int q), .val (.int o2), .val (.int kk), .val (.int ua), .val (.int ub), .val (.int a0_), .val (.int a1_), .val (.int a2_), .val (.int b0_), .val (.int b1_), .val (.int b2_), .val (.ref c), .val (.int (Int32.ofNat (nestN 14 [(symF a0_ f), (symF a1_ f), (symF a2_ f), m0, m1, m2, m3, m4, m5, m6, m7, (symF b0_ f), (symF b1_ f), (symF b2_ f)] 15 0 0 0))), .val (.int (Int32.ofNat (nxtN (nxtN (nxtN (nxtN (nxtN (nxtN (nxtN (nxtN (nxtN 0 a0_) a1_) a2_) 3) 0) 3) b0_) b1_) b2_))), .val (.int (Int32.ofNat (max (max (max (max (max (max (max (max 0 (nxtN 0 a0_)) (nxtN (nxtN 0 a0_) a1_)) (nxtN (nxtN (nxtN 0 a0_) a1_) a2_)) (nxtN (nxtN (nxtN (nxtN 0 a0_) a1_) a2_) 3)) (nxtN (nxtN (nxtN (nxtN (nxtN 0 a0_) a1_) a2_) 3) 0)) (nxtN (nxtN (nxtN (nxtN (nxtN (nxtN 0 a0_) a1_) a2_) 3) 0) 3)) (nxtN (nxtN (nxtN (nxtN (nxtN (nxtN (nxtN 0 a0_) a1_) a2_) 3) 0) 3) b0_)) (nxtN (nxtN (nxtN (nxtN (nxtN (nxtN (nxtN (nxtN 0 a0_) a1_) a2_) 3) 0) 3) b0_) b1_))))]) rfl ?_
    refine g_iload o (pc := 616) at_616 rfl ?_
    refine g_iload o (pc := 618) at_618 rfl ?_
    refine g_static o (pc := 620) [(.int (Int32.ofNat (max (max (max (max (max (max (max (max 0 (nxtN 0 a0_)) (nxtN (nxtN 0 a0_) a1_)) (nxtN (nxtN (nxtN 0 a0_) a1_) a2_)) (nxtN (nxtN (nxtN (nxtN 0 a0_) a1_) a2_) 3)) (nxtN (nxtN (nxtN (nxtN (nxtN 0 a0_) a1_) a2_) 3) 0)) (nxtN (nxtN (nxtN (nxtN (nxtN (nxtN 0 a0_) a1_) a2_) 3) 0) 3)) (nxtN (nxtN (nxtN (nxtN (nxtN (nxtN (nxtN 0 a0_) a1_) a2_) 3) 0) 3) b0_)) (nxtN (nxtN (nxtN (nxtN (nxtN (nxtN (nxtN (nxtN 0 a0_) a1_) a2_) 3) 0) 3) b0_) b1_)))), (.int (Int32.ofNat (nxtN (nxtN (nxtN (nxtN (nxtN (nxtN (nxtN (nxtN (nxtN 0 a0_) a1_) a2_) 3) 0) 3) b0_) b1_) b2_)))] [] at_620 (wd_129 hw) (wd_111 hw) (wd_112 hw) (wd_113 hw) (by decide) (Met.back o (W := 0) (rm_max C.l Z a0 hw n0 h43 q46 (max (max (max (max (max (max (max (max 0 (nxtN 0 a0_)) (nxtN (nxtN 0 a0_) a1_)) (nxtN (nxtN (nxtN 0 a0_) a1_) a2_)) (nxtN (nxtN (nxtN (nxtN 0 a0_) a1_) a2_) 3)) (nxtN (nxtN (nxtN (nxtN (nxtN 0 a0_) a1_) a2_) 3) 0)) (nxtN (nxtN (nxtN (nxtN (nxtN (nxtN 0 a0_) a1_) a2_) 3) 0) 3)) (nxtN (nxtN (nxtN (nxtN (nxtN (nxtN (nxtN 0 a0_) a1_) a2_) 3) 0) 3) b0_)) (nxtN (nxtN (nxtN (nxtN (nxtN (nxtN (nxtN (nxtN 0 a0_) a1_) a2_) 3) 0) 3) b0_) b1_)) (nxtN (nxtN (nxtN (nxtN (nxtN (nxtN (nxtN (nxtN (nxtN 0 a0_) a1_) a2_) 3) 0) 3) b0_) b1_) b2_) (Nat.lt_of_le_of_lt (Nat.max_le.mpr ⟨Nat.le_trans (Nat.max_le.mpr ⟨Nat.le_trans (Nat.max_le.mpr ⟨Nat.le_trans (Nat.max_le.mpr ⟨Nat.le_trans (Nat.max_le.mpr ⟨Nat.le_trans (Nat.max_le.mpr ⟨Nat.le_trans (Nat.max_le.mpr ⟨Nat.le_trans (Nat.max_le.mpr ⟨Nat.le_trans (Nat.le_refl 0) (by decide : 0 ≤ 1), Nat.le_trans (nb (Nat.le_refl 0)) (by decide : 1 ≤ 1)⟩) (by decide : 1 ≤ 2), Nat.le_trans (nb (nb (Nat.le_refl 0))) (by decide : 2 ≤ 2)⟩) (by decide : 2 ≤ 3), Nat.le_trans (nb (nb (nb (Nat.le_refl 0)))) (by decide : 3 ≤ 3)⟩) (by decide : 3 ≤ 4), Nat.le_trans (nb (nb (nb (nb (Nat.le_refl 0))))) (by decide : 4 ≤ 4)⟩) (by decide : 4 ≤ 5), Nat.le_trans (nb (nb (nb (nb (nb (Nat.le_refl 0)))))) (by decide : 5 ≤ 5)⟩) (by decide : 5 ≤ 6), Nat.le_trans (nb (nb (nb (nb (nb (nb (Nat.le_refl 0))))))) (by decide : 6 ≤ 6)⟩) (by decide : 6 ≤ 7), Nat.le_trans (nb (nb (nb (nb (nb (nb (nb (Nat.le_refl 0)))))))) (by decide : 7 ≤ 7)⟩) (by decide : 7 ≤ 8), Nat.le_trans (nb (nb (nb (nb (nb (nb (nb (nb (Nat.le_refl 0))))))))) (by decide : 8 ≤ 8)⟩) (by decide)) (Nat.lt_of_le_of_lt (nb (nb (nb (nb (nb (nb (nb (nb (nb (Nat.le_refl 0)))))))))) (by decide))) (wd_113 hw) (wd_112 hw) (by decide) (by decide)) (fun _ _ _ q => q) (Or.inr fun _ _ q => by rw [q.2]; exact Mv.refl) pd_7 rfl rfl rfl rfl (by decide) (by decide) fun v127 h128 q129 => ?_
    obtain ⟨rfl, hh⟩ := q129
    obtain rfl := hh.symm
    show Go C Z n0 (fun v _ => v = some (.int 1)) [a24, c] h43 3 32 623 #[.val (.int p0), .val (.int p1), .val (.int p2), .val (.int p3), .val (.int f), .val (.int ap), .val (.int q), .val (.int o2), .val (.int kk), .val (.int ua), .val (.int ub), .val (.int a0_), .val (.int a1_), .val (.int a2_), .val (.int b0_), .val (.int b1_), .val (.int b2_), .val (.ref c), .val (.int (Int32.ofNat (nestN 14 [(symF a0_ f), (symF a1_ f), (symF a2_ f), m0, m1, m2, m3, m4, m5, m6, m7, (symF b0_ f), (symF b1_ f), (symF b2_ f)] 15 0 0 0))), .val (.int (Int32.ofNat (nxtN (nxtN (nxtN (nxtN (nxtN (nxtN (nxtN (nxtN (nxtN 0 a0_) a1_) a2_) 3) 0) 3) b0_) b1_) b2_))), .val (.int (Int32.ofNat (max (max (max (max (max (max (max (max 0 (nxtN 0 a0_)) (nxtN (nxtN 0 a0_) a1_)) (nxtN (nxtN (nxtN 0 a0_) a1_) a2_)) (nxtN (nxtN (nxtN (nxtN 0 a0_) a1_) a2_) 3)) (nxtN (nxtN (nxtN (nxtN (nxtN 0 a0_) a1_) a2_) 3) 0)) (nxtN (nxtN (nxtN (nxtN (nxtN (nxtN 0 a0_) a1_) a2_) 3) 0) 3)) (nxtN (nxtN (nxtN (nxtN (nxtN (nxtN (nxtN 0 a0_) a1_) a2_) 3) 0) 3) b0_)) (nxtN (nxtN (nxtN (nxtN (nxtN (nxtN (nxtN (nxtN 0 a0_) a1_) a2_) 3) 0) 3) b0_) b1_))))] [(.int (Int32.ofNat (max (max (max (max (max (max (max (max (max 0 (nxtN 0 a0_)) (nxtN (nxtN 0 a0_) a1_)) (nxtN (nxtN (nxtN 0 a0_) a1_) a2_)) (nxtN (nxtN (nxtN (nxtN 0 a0_) a1_) a2_) 3)) (nxtN (nxtN (nxtN (nxtN (nxtN 0 a0_) a1_) a2_) 3) 0)) (nxtN (nxtN (nxtN (nxtN (nxtN (nxtN 0 a0_) a1_) a2_) 3) 0) 3)) (nxtN (nxtN (nxtN (nxtN (nxtN (nxtN (nxtN 0 a0_) a1_) a2_) 3) 0) 3) b0_)) (nxtN (nxtN (nxtN (nxtN (nxtN (nxtN (nxtN (nxtN 0 a0_) a1_) a2_) 3) 0) 3) b0_) b1_)) (nxtN (nxtN (nxtN (nxtN (nxtN (nxtN (nxtN (nxtN (nxtN 0 a0_) a1_) a2_) 3) 0) 3) b0_) b1_) b2_))))]
    refine g_istore o (pc := 623) at_623 (L' := #[.val (.int p0), .val (.int p1), .val (.int p2), .val (.int p3), .val (.int f), .val (.int ap), .val (.int q), .val (.int o2), .val (.int kk), .val (.int ua), .val (.int ub), .val (.int a0_), .val (.int a1_), .val (.int a2_), .val (.int b0_), .val (.int b1_), .val (.int b2_), .val (.ref c), .val (.int (Int32.ofNat (nestN 14 [(symF a0_ f), (symF a1_ f), (symF a2_ f), m0, m1, m2, m3, m4, m5, m6, m7, (symF b0_ f), (symF b1_ f), (symF b2_ f)] 15 0 0 0))), .val (.int (Int32.ofNat (nxtN (nxtN (nxtN (nxtN (nxtN (nxtN (nxtN (nxtN (nxtN 0 a0_) a1_) a2_) 3) 0) 3) b0_) b1_) b2_))), .val (.int (Int32.ofNat (max (max (max (max (max (max (max (max (max 0 (nxtN 0 a0_)) (nxtN (nxtN 0 a0_) a1_)) (nxtN (nxtN (nxtN 0 a0_) a1_) a2_)) (nxtN (nxtN (nxtN (nxtN 0 a0_) a1_) a2_) 3)) (nxtN (nxtN (nxtN (nxtN (nxtN 0 a0_) a1_) a2_) 3) 0)) (nxtN (nxtN (nxtN (nxtN (nxtN (nxtN 0 a0_) a1_) a2_) 3) 0) 3)) (nxtN (nxtN (nxtN (nxtN (nxtN (nxtN (nxtN 0 a0_) a1_) a2_) 3) 0) 3) b0_)) (nxtN (nxtN (nxtN (nxtN (nxtN (nxtN (nxtN (nxtN 0 a0_) a1_) a2_) 3) 0) 3) b0_) b1_)) (nxtN (nxtN (nxtN (nxtN (nxtN (nxtN (nxtN (nxtN (nxtN 0 a0_) a1_) a2_) 3) 0) 3) b0_) b1_) b2_))))]) rfl ?_
    refine g_iload o (pc := 625) at_625 rfl ?_
    refine g_iload o (pc := 627) at_627 rfl ?_
    refine g_icmpN o (pc := 629) at_629 (t := 636) (by decide) rfl c_ne (fun hy130 => absurd (congrArg Int32.ofNat (HK.trans (show refG kk a0_ a1_ a2_ b0_ b1_ b2_ = max (max (max (max (max (max (max (max (max 0 (nxtN 0 a0_)) (nxtN (nxtN 0 a0_) a1_)) (nxtN (nxtN (nxtN 0 a0_) a1_) a2_)) (nxtN (nxtN (nxtN (nxtN 0 a0_) a1_) a2_) 3)) (nxtN (nxtN (nxtN (nxtN (nxtN 0 a0_) a1_) a2_) 3) 0)) (nxtN (nxtN (nxtN (nxtN (nxtN (nxtN 0 a0_) a1_) a2_) 3) 0) 3)) (nxtN (nxtN (nxtN (nxtN (nxtN (nxtN (nxtN 0 a0_) a1_) a2_) 3) 0) 3) b0_)) (nxtN (nxtN (nxtN (nxtN (nxtN (nxtN (nxtN (nxtN 0 a0_) a1_) a2_) 3) 0) 3) b0_) b1_)) (nxtN (nxtN (nxtN (nxtN (nxtN (nxtN (nxtN (nxtN (nxtN 0 a0_) a1_) a2_) 3) 0) 3) b0_) b1_) b2_) from by unfold refG; rw [if_pos hn66]))) hy130) (fun _ => ?_)
    refine g_iconst o (pc := 632) at_632 (v := 1) rfl ?_
    refine g_goto o (pc := 633) at_633 (t := 637) (by decide) rfl ?_
    refine g_nreturn o (pc := 637) (by simp) at_637 (y := 1) rfl ?_ (by decide) (by decide)
    exact rfl
set_option maxRecDepth 65536 in
set_option maxHeartbeats 40000000 in
theorem rm_law (l : Launch) (Z : State) (a0 : Array Value) (hw : ∀ d ∈ tables_1, d.before a0 Z = true) (ws : List Jvm.Cond) (n0 : Nat) (h0 : Heap) (X0 : Old Z n0 h0) (p0 : Int32) (p1 : Int32) (p2 : Int32) (p3 : Int32) (zc : Int32) (fm : Value) (Sc : Sta Z Z.heap "java/lang/String" "COMPACT_STRINGS" "Z" (.int zc)) (nzc : ¬ zc = 0) (Sf : Sta Z Z.heap "jdk/internal/util/Preconditions" "SIOOBE_FORMATTER" "Ljava/util/function/BiFunction;" fm) (rf : fm.isRef = true) (hCH : CHv Z consts_1 Z.vm h0) :
    MetFree l x (head1 (Jvm.Cond.code x code maxLocals ret :: ws) room_1) (fun a U => a = #[(.int p0), (.int p1), (.int p2), (.int p3)] ∧ Z.Warmed39 U.vm ∧ U.vm = Z.vm ∧ U.heap = h0) (fun _ _ _ _ _ => True) (fun _ U o U' => ∃ v L, o = .returned v ∧ (v = some (.int 1) ∧ Fr n0 L) ∧ (true = true → ∃ k n, ReturnedEndW U o U' L k n ∧ k ≤ room_1.cells ∧ n ≤ room_1.slots) ∧ (true = false → FrameEnd U o U' L room_1.cells room_1.slots)) := by
  refine law_of (Q := fun v _ => v = some (.int 1)) pn_4 hw (L := #[.val (.int p0), .val (.int p1), .val (.int p2), .val (.int p3), .unset, .unset, .unset, .unset, .unset, .unset, .unset, .unset, .unset, .unset, .unset, .unset, .unset, .unset, .unset, .unset, .unset]) (fun m => by first | (simp [entryFrame, mkF, argsToLocals, Value.category, maxLocals]; done) | rfl) true consts_1 (ew_ hw) hCH consts_1 16 4 (by decide) (rm := { frames := 10, cells := 16, slots := 4224, locals := 208 }) rfl fun C hl hwd hE hPL hcs hr o => ?_
  subst hl
  have o : Ok C Z a0 code 21 (some .boolean) "law" "com/example/enact/enact/compiler/XPathTextNestingPinLaw" ({ frames := 10, cells := 16, slots := 4224, locals := 208 } : Room) := o
  refine g_iload_n o (pc := 0) at_0 rfl ?_
  refine g_static o (pc := 1) [(.int p3)] [] at_1 (wd_0 hw) (wd_1 hw) (wd_2 hw) (wd_3 hw) (by decide) (Met.back o (W := 0) (rm_fil C.l Z a0 hw n0 h0 X0 p3 ) (wd_3 hw) (wd_2 hw) (by decide) (by decide)) (fun _ _ _ q => q) (Or.inr fun _ _ q => by obtain ⟨_, _, _, _, q⟩ := q; rw [q]; exact Mv.refl) pd_3 rfl rfl rfl rfl (by decide) (by decide) fun v1 h2 q3 => ?_
  obtain ⟨f, rfl, lf, pf, hh⟩ := q3
  obtain rfl := hh.symm
  show Go C Z n0 (fun v _ => v = some (.int 1)) [] h0 0 0 4 #[.val (.int p0), .val (.int p1), .val (.int p2), .val (.int p3), .unset, .unset, .unset, .unset, .unset, .unset, .unset, .unset, .unset, .unset, .unset, .unset, .unset, .unset, .unset, .unset, .unset] [(.int f)]
  refine g_istore o (pc := 4) at_4 (L' := #[.val (.int p0), .val (.int p1), .val (.int p2), .val (.int p3), .val (.int f), .unset, .unset, .unset, .unset, .unset, .unset, .unset, .unset, .unset, .unset, .unset, .unset, .unset, .unset, .unset, .unset]) rfl ?_
  refine g_iload_n o (pc := 6) at_6 rfl ?_
  refine g_iconst o (pc := 7) at_7 (v := 3) rfl ?_
  refine g_iushr o (pc := 8) at_8 (v := (XT.ushr p1 3)) rfl ?_
  refine g_iconst o (pc := 9) at_9 (v := 1) rfl ?_
  refine g_iand o (pc := 10) at_10 (v := ((XT.ushr p1 3) &&& 1)) rfl ?_
  refine g_ifC o (pc := 11) at_11 (t := 18) (by decide) rfl c_eq (fun hy4 => ?_) (fun hn5 => ?_)
  · refine g_iconst o (pc := 18) at_18 (v := 0) rfl ?_
    refine g_istore o (pc := 19) at_19 (L' := #[.val (.int p0), .val (.int p1), .val (.int p2), .val (.int p3), .val (.int f), .val (.int 0), .unset, .unset, .unset, .unset, .unset, .unset, .unset, .unset, .unset, .unset, .unset, .unset, .unset, .unset, .unset]) rfl ?_
    refine g_iload o (pc := 21) at_21 rfl ?_
    refine g_ifC o (pc := 23) at_23 (t := 31) (by decide) rfl c_eq (fun _ => ?_) (fun hn6 => absurd rfl hn6)
    refine g_bipush o (pc := 31) at_31 (v := 34) rfl ?_
    refine g_istore o (pc := 33) at_33 (L' := #[.val (.int p0), .val (.int p1), .val (.int p2), .val (.int p3), .val (.int f), .val (.int 0), .val (.int 34), .unset, .unset, .unset, .unset, .unset, .unset, .unset, .unset, .unset, .unset, .unset, .unset, .unset, .unset]) rfl ?_
    refine g_iload o (pc := 35) at_35 rfl ?_
    refine g_ifC o (pc := 37) at_37 (t := 45) (by decide) rfl c_eq (fun _ => ?_) (fun hn7 => absurd rfl hn7)
    refine g_bipush o (pc := 45) at_45 (v := 39) rfl ?_
    refine g_istore o (pc := 47) at_47 (L' := #[.val (.int p0), .val (.int p1), .val (.int p2), .val (.int p3), .val (.int f), .val (.int 0), .val (.int 34), .val (.int 39), .unset, .unset, .unset, .unset, .unset, .unset, .unset, .unset, .unset, .unset, .unset, .unset, .unset]) rfl ?_
    refine g_iload_n o (pc := 49) at_49 rfl ?_
    refine g_bipush o (pc := 50) at_50 (v := 7) rfl ?_
    refine g_iand o (pc := 52) at_52 (v := (p1 &&& 7)) rfl ?_
    refine g_istore o (pc := 53) at_53 (L' := #[.val (.int p0), .val (.int p1), .val (.int p2), .val (.int p3), .val (.int f), .val (.int 0), .val (.int 34), .val (.int 39), .val (.int (p1 &&& 7)), .unset, .unset, .unset, .unset, .unset, .unset, .unset, .unset, .unset, .unset, .unset, .unset]) rfl ?_
    refine g_iload_n o (pc := 55) at_55 rfl ?_
    refine g_ldcI o (pc := 56) at_56 (wd_4 hw) ?_
    refine g_iand o (pc := 58) at_58 (v := (p0 &&& 2147483647)) rfl ?_
    refine g_istore o (pc := 59) at_59 (L' := #[.val (.int p0), .val (.int p1), .val (.int p2), .val (.int p3), .val (.int f), .val (.int 0), .val (.int 34), .val (.int 39), .val (.int (p1 &&& 7)), .val (.int (p0 &&& 2147483647)), .unset, .unset, .unset, .unset, .unset, .unset, .unset, .unset, .unset, .unset, .unset]) rfl ?_
    refine g_iload_n o (pc := 61) at_61 rfl ?_
    refine g_ldcI o (pc := 62) at_62 (wd_4 hw) ?_
    refine g_iand o (pc := 64) at_64 (v := (p2 &&& 2147483647)) rfl ?_
    refine g_istore o (pc := 65) at_65 (L' := #[.val (.int p0), .val (.int p1), .val (.int p2), .val (.int p3), .val (.int f), .val (.int 0), .val (.int 34), .val (.int 39), .val (.int (p1 &&& 7)), .val (.int (p0 &&& 2147483647)), .val (.int (p2 &&& 2147483647)), .unset, .unset, .unset, .unset, .unset, .unset, .unset, .unset, .unset, .unset]) rfl ?_
    refine g_iload o (pc := 67) at_67 rfl ?_
    refine g_bipush o (pc := 69) at_69 (v := 7) rfl ?_
    refine g_irem o (pc := 71) at_71 (by decide) (v := ((p0 &&& 2147483647) % 7)) rfl ?_
    refine g_istore o (pc := 72) at_72 (L' := #[.val (.int p0), .val (.int p1), .val (.int p2), .val (.int p3), .val (.int f), .val (.int 0), .val (.int 34), .val (.int 39), .val (.int (p1 &&& 7)), .val (.int (p0 &&& 2147483647)), .val (.int (p2 &&& 2147483647)), .val (.int ((p0 &&& 2147483647) % 7)), .unset, .unset, .unset, .unset, .unset, .unset, .unset, .unset, .unset]) rfl ?_
    refine g_iload o (pc := 74) at_74 rfl ?_
    refine g_bipush o (pc := 76) at_76 (v := 7) rfl ?_
    refine g_idiv o (pc := 78) at_78 (by decide) (v := ((p0 &&& 2147483647) / 7)) rfl ?_
    refine g_bipush o (pc := 79) at_79 (v := 7) rfl ?_
    refine g_irem o (pc := 81) at_81 (by decide) (v := (((p0 &&& 2147483647) / 7) % 7)) rfl ?_
    refine g_istore o (pc := 82) at_82 (L' := #[.val (.int p0), .val (.int p1), .val (.int p2), .val (.int p3), .val (.int f), .val (.int 0), .val (.int 34), .val (.int 39), .val (.int (p1 &&& 7)), .val (.int (p0 &&& 2147483647)), .val (.int (p2 &&& 2147483647)), .val (.int ((p0 &&& 2147483647) % 7)), .val (.int (((p0 &&& 2147483647) / 7) % 7)), .unset, .unset, .unset, .unset, .unset, .unset, .unset, .unset]) rfl ?_
    refine g_iload o (pc := 84) at_84 rfl ?_
    refine g_bipush o (pc := 86) at_86 (v := 49) rfl ?_
    refine g_idiv o (pc := 88) at_88 (by decide) (v := ((p0 &&& 2147483647) / 49)) rfl ?_
    refine g_bipush o (pc := 89) at_89 (v := 7) rfl ?_
    refine g_irem o (pc := 91) at_91 (by decide) (v := (((p0 &&& 2147483647) / 49) % 7)) rfl ?_
    refine g_istore o (pc := 92) at_92 (L' := #[.val (.int p0), .val (.int p1), .val (.int p2), .val (.int p3), .val (.int f), .val (.int 0), .val (.int 34), .val (.int 39), .val (.int (p1 &&& 7)), .val (.int (p0 &&& 2147483647)), .val (.int (p2 &&& 2147483647)), .val (.int ((p0 &&& 2147483647) % 7)), .val (.int (((p0 &&& 2147483647) / 7) % 7)), .val (.int (((p0 &&& 2147483647) / 49) % 7)), .unset, .unset, .unset, .unset, .unset, .unset, .unset]) rfl ?_
    refine g_iload o (pc := 94) at_94 rfl ?_
    refine g_bipush o (pc := 96) at_96 (v := 7) rfl ?_
    refine g_irem o (pc := 98) at_98 (by decide) (v := ((p2 &&& 2147483647) % 7)) rfl ?_
    refine g_istore o (pc := 99) at_99 (L' := #[.val (.int p0), .val (.int p1), .val (.int p2), .val (.int p3), .val (.int f), .val (.int 0), .val (.int 34), .val (.int 39), .val (.int (p1 &&& 7)), .val (.int (p0 &&& 2147483647)), .val (.int (p2 &&& 2147483647)), .val (.int ((p0 &&& 2147483647) % 7)), .val (.int (((p0 &&& 2147483647) / 7) % 7)), .val (.int (((p0 &&& 2147483647) / 49) % 7)), .val (.int ((p2 &&& 2147483647) % 7)), .unset, .unset, .unset, .unset, .unset, .unset]) rfl ?_
    refine g_iload o (pc := 101) at_101 rfl ?_
    refine g_bipush o (pc := 103) at_103 (v := 7) rfl ?_
    refine g_idiv o (pc := 105) at_105 (by decide) (v := ((p2 &&& 2147483647) / 7)) rfl ?_
    refine g_bipush o (pc := 106) at_106 (v := 7) rfl ?_
    refine g_irem o (pc := 108) at_108 (by decide) (v := (((p2 &&& 2147483647) / 7) % 7)) rfl ?_
    refine g_istore o (pc := 109) at_109 (L' := #[.val (.int p0), .val (.int p1), .val (.int p2), .val (.int p3), .val (.int f), .val (.int 0), .val (.int 34), .val (.int 39), .val (.int (p1 &&& 7)), .val (.int (p0 &&& 2147483647)), .val (.int (p2 &&& 2147483647)), .val (.int ((p0 &&& 2147483647) % 7)), .val (.int (((p0 &&& 2147483647) / 7) % 7)), .val (.int (((p0 &&& 2147483647) / 49) % 7)), .val (.int ((p2 &&& 2147483647) % 7)), .val (.int (((p2 &&& 2147483647) / 7) % 7)), .unset, .unset, .unset, .unset, .unset]) rfl ?_
    refine g_iload o (pc := 111) at_111 rfl ?_
    refine g_bipush o (pc := 113) at_113 (v := 49) rfl ?_
    refine g_idiv o (pc := 115) at_115 (by decide) (v := ((p2 &&& 2147483647) / 49)) rfl ?_
    refine g_bipush o (pc := 116) at_116 (v := 7) rfl ?_
    refine g_irem o (pc := 118) at_118 (by decide) (v := (((p2 &&& 2147483647) / 49) % 7)) rfl ?_
    refine g_istore o (pc := 119) at_119 (L' := #[.val (.int p0), .val (.int p1), .val (.int p2), .val (.int p3), .val (.int f), .val (.int 0), .val (.int 34), .val (.int 39), .val (.int (p1 &&& 7)), .val (.int (p0 &&& 2147483647)), .val (.int (p2 &&& 2147483647)), .val (.int ((p0 &&& 2147483647) % 7)), .val (.int (((p0 &&& 2147483647) / 7) % 7)), .val (.int (((p0 &&& 2147483647) / 49) % 7)), .val (.int ((p2 &&& 2147483647) % 7)), .val (.int (((p2 &&& 2147483647) / 7) % 7)), .val (.int (((p2 &&& 2147483647) / 49) % 7)), .unset, .unset, .unset, .unset]) rfl ?_
    refine g_bipush o (pc := 121) at_121 (v := 14) rfl ?_
    refine g_newarr o (pc := 123) at_123 (dv := .int 0) rfl rfl (wd_5 hw) (by decide) (m := 14) (by decide) (by decide) (by decide) (by decide) (M' := fun a => a :: []) (fun _ _ q => (List.mem_cons.mp q).elim Or.inr Or.inl) fun a8 h9 kc10 ha11 E12 V13 => ?_
    have V14 : Arv Z h9 a8 kc10 .char 14 [.int 0, .int 0, .int 0, .int 0, .int 0, .int 0, .int 0, .int 0, .int 0, .int 0, .int 0, .int 0, .int 0, .int 0] (.int 0) := V13
    refine g_astore o (pc := 125) at_125 rfl (L' := #[.val (.int p0), .val (.int p1), .val (.int p2), .val (.int p3), .val (.int f), .val (.int 0), .val (.int 34), .val (.int 39), .val (.int (p1 &&& 7)), .val (.int (p0 &&& 2147483647)), .val (.int (p2 &&& 2147483647)), .val (.int ((p0 &&& 2147483647) % 7)), .val (.int (((p0 &&& 2147483647) / 7) % 7)), .val (.int (((p0 &&& 2147483647) / 49) % 7)), .val (.int ((p2 &&& 2147483647) % 7)), .val (.int (((p2 &&& 2147483647) / 7) % 7)), .val (.int (((p2 &&& 2147483647) / 49) % 7)), .val (.ref a8), .unset, .unset, .unset]) rfl ?_
    refine g_aload o (pc := 127) at_127 rfl rfl ?_
    refine g_iconst o (pc := 129) at_129 (v := 0) rfl ?_
    refine g_iload o (pc := 130) at_130 rfl ?_
    refine g_iload o (pc := 132) at_132 rfl ?_
    have q15 := (X0.ext E12)
    refine g_static o (pc := 134) [(.int ((p0 &&& 2147483647) % 7)), (.int f)] [(.int 0), (.ref a8)] at_134 (wd_6 hw) (wd_7 hw) (wd_2 hw) (wd_8 hw) (by decide) (Met.back o (W := 2) (rm_sym C.l Z a0 hw n0 h9 q15 ((p0 &&& 2147483647) % 7) f lf) (wd_8 hw) (wd_2 hw) (by decide) (by decide)) (fun _ _ _ q => q) (Or.inr fun _ _ q => by rw [q.2]; exact Mv.refl) pd_11 rfl rfl rfl rfl (by decide) (by decide) fun v16 h17 q18 => ?_
    obtain ⟨rfl, hh⟩ := q18
    obtain rfl := hh.symm
    show Go C Z n0 (fun v _ => v = some (.int 1)) [a8] h9 1 14 137 #[.val (.int p0), .val (.int p1), .val (.int p2), .val (.int p3), .val (.int f), .val (.int 0), .val (.int 34), .val (.int 39), .val (.int (p1 &&& 7)), .val (.int (p0 &&& 2147483647)), .val (.int (p2 &&& 2147483647)), .val (.int ((p0 &&& 2147483647) % 7)), .val (.int (((p0 &&& 2147483647) / 7) % 7)), .val (.int (((p0 &&& 2147483647) / 49) % 7)), .val (.int ((p2 &&& 2147483647) % 7)), .val (.int (((p2 &&& 2147483647) / 7) % 7)), .val (.int (((p2 &&& 2147483647) / 49) % 7)), .val (.ref a8), .unset, .unset, .unset] [(.int (symF ((p0 &&& 2147483647) % 7) f)), (.int 0), (.ref a8)]
    refine g_castore o (pc := 137) at_137 V14 rfl (by decide) (i := 0) rfl (Nat.le_of_ble_eq_true rfl) (y := (symF ((p0 &&& 2147483647) % 7) f)) (i2c_lat (sym_lat lf)) (ge_new ha11 X0) (Or.inr (Or.inl (by simp))) fun h19 W20 V21 => ?_
    have V22 : Arv Z h19 a8 kc10 .char 14 [.int (symF ((p0 &&& 2147483647) % 7) f), .int 0, .int 0, .int 0, .int 0, .int 0, .int 0, .int 0, .int 0, .int 0, .int 0, .int 0, .int 0, .int 0] (.int 0) := V21
    refine g_aload o (pc := 138) at_138 rfl rfl ?_
    refine g_iconst o (pc := 140) at_140 (v := 1) rfl ?_
    refine g_iload o (pc := 141) at_141 rfl ?_
    refine g_iload o (pc := 143) at_143 rfl ?_
    have q23 := (q15.wr W20 (ge_new ha11 X0))
    refine g_static o (pc := 145) [(.int (((p0 &&& 2147483647) / 7) % 7)), (.int f)] [(.int 1), (.ref a8)] at_145 (wd_6 hw) (wd_7 hw) (wd_2 hw) (wd_8 hw) (by decide) (Met.back o (W := 2) (rm_sym C.l Z a0 hw n0 h19 q23 (((p0 &&& 2147483647) / 7) % 7) f lf) (wd_8 hw) (wd_2 hw) (by decide) (by decide)) (fun _ _ _ q => q) (Or.inr fun _ _ q => by rw [q.2]; exact Mv.refl) pd_11 rfl rfl rfl rfl (by decide) (by decide) fun v24 h25 q26 => ?_
    obtain ⟨rfl, hh⟩ := q26
    obtain rfl := hh.symm
    show Go C Z n0 (fun v _ => v = some (.int 1)) [a8] h19 1 14 148 #[.val (.int p0), .val (.int p1), .val (.int p2), .val (.int p3), .val (.int f), .val (.int 0), .val (.int 34), .val (.int 39), .val (.int (p1 &&& 7)), .val (.int (p0 &&& 2147483647)), .val (.int (p2 &&& 2147483647)), .val (.int ((p0 &&& 2147483647) % 7)), .val (.int (((p0 &&& 2147483647) / 7) % 7)), .val (.int (((p0 &&& 2147483647) / 49) % 7)), .val (.int ((p2 &&& 2147483647) % 7)), .val (.int (((p2 &&& 2147483647) / 7) % 7)), .val (.int (((p2 &&& 2147483647) / 49) % 7)), .val (.ref a8), .unset, .unset, .unset] [(.int (symF (((p0 &&& 2147483647) / 7) % 7) f)), (.int 1), (.ref a8)]
    refine g_castore o (pc := 148) at_148 V22 rfl (by decide) (i := 1) rfl (Nat.le_of_ble_eq_true rfl) (y := (symF (((p0 &&& 2147483647) / 7) % 7) f)) (i2c_lat (sym_lat lf)) (ge_new ha11 X0) (Or.inr (Or.inl (by simp))) fun h27 W28 V29 => ?_
    have V30 : Arv Z h27 a8 kc10 .char 14 [.int (symF ((p0 &&& 2147483647) % 7) f), .int (symF (((p0 &&& 2147483647) / 7) % 7) f), .int 0, .int 0, .int 0, .int 0, .int 0, .int 0, .int 0, .int 0, .int 0, .int 0, .int 0, .int 0] (.int 0) := V29
    refine g_aload o (pc := 149) at_149 rfl rfl ?_
    refine g_iconst o (pc := 151) at_151 (v := 2) rfl ?_
    refine g_iload o (pc := 152) at_152 rfl ?_
    refine g_iload o (pc := 154) at_154 rfl ?_
    have q31 := (q23.wr W28 (ge_new ha11 X0))
    refine g_static o (pc := 156) [(.int (((p0 &&& 2147483647) / 49) % 7)), (.int f)] [(.int 2), (.ref a8)] at_156 (wd_6 hw) (wd_7 hw) (wd_2 hw) (wd_8 hw) (by decide) (Met.back o (W := 2) (rm_sym C.l Z a0 hw n0 h27 q31 (((p0 &&& 2147483647) / 49) % 7) f lf) (wd_8 hw) (wd_2 hw) (by decide) (by decide)) (fun _ _ _ q => q) (Or.inr fun _ _ q => by rw [q.2]; exact Mv.refl) pd_11 rfl rfl rfl rfl (by decide) (by decide) fun v32 h33 q34 => ?_
    obtain ⟨rfl, hh⟩ := q34
    obtain rfl := hh.symm
    show Go C Z n0 (fun v _ => v = some (.int 1)) [a8] h27 1 14 159 #[.val (.int p0), .val (.int p1), .val (.int p2), .val (.int p3), .val (.int f), .val (.int 0), .val (.int 34), .val (.int 39), .val (.int (p1 &&& 7)), .val (.int (p0 &&& 2147483647)), .val (.int (p2 &&& 2147483647)), .val (.int ((p0 &&& 2147483647) % 7)), .val (.int (((p0 &&& 2147483647) / 7) % 7)), .val (.int (((p0 &&& 2147483647) / 49) % 7)), .val (.int ((p2 &&& 2147483647) % 7)), .val (.int (((p2 &&& 2147483647) / 7) % 7)), .val (.int (((p2 &&& 2147483647) / 49) % 7)), .val (.ref a8), .unset, .unset, .unset] [(.int (symF (((p0 &&& 2147483647) / 49) % 7) f)), (.int 2), (.ref a8)]
    refine g_castore o (pc := 159) at_159 V30 rfl (by decide) (i := 2) rfl (Nat.le_of_ble_eq_true rfl) (y := (symF (((p0 &&& 2147483647) / 49) % 7) f)) (i2c_lat (sym_lat lf)) (ge_new ha11 X0) (Or.inr (Or.inl (by simp))) fun h35 W36 V37 => ?_
    have V38 : Arv Z h35 a8 kc10 .char 14 [.int (symF ((p0 &&& 2147483647) % 7) f), .int (symF (((p0 &&& 2147483647) / 7) % 7) f), .int (symF (((p0 &&& 2147483647) / 49) % 7) f), .int 0, .int 0, .int 0, .int 0, .int 0, .int 0, .int 0, .int 0, .int 0, .int 0, .int 0] (.int 0) := V37
    refine g_iload o (pc := 160) at_160 rfl ?_
    refine g_ifCN o (pc := 162) at_162 (t := 189) (by decide) rfl c_ne (fun hy39 => ?_) (fun hn40 => ?_)
    · refine g_iload o (pc := 189) at_189 rfl ?_
      refine g_iconst o (pc := 191) at_191 (v := 1) rfl ?_
      refine g_icmpN o (pc := 192) at_192 (t := 219) (by decide) rfl c_ne (fun hy41 => ?_) (fun hn42 => ?_)
      · refine g_iload o (pc := 219) at_219 rfl ?_
        refine g_iconst o (pc := 221) at_221 (v := 2) rfl ?_
        refine g_icmpN o (pc := 222) at_222 (t := 249) (by decide) rfl c_ne (fun hy43 => ?_) (fun hn44 => ?_)
        · refine g_iload o (pc := 249) at_249 rfl ?_
          refine g_iconst o (pc := 251) at_251 (v := 3) rfl ?_
          refine g_icmpN o (pc := 252) at_252 (t := 279) (by decide) rfl c_ne (fun hy45 => ?_) (fun hn46 => ?_)
          · refine g_iload o (pc := 279) at_279 rfl ?_
            refine g_iconst o (pc := 281) at_281 (v := 4) rfl ?_
            refine g_icmpN o (pc := 282) at_282 (t := 309) (by decide) rfl c_ne (fun hy47 => ?_) (fun hn48 => ?_)
            · refine g_iload o (pc := 309) at_309 rfl ?_
              refine g_iconst o (pc := 311) at_311 (v := 5) rfl ?_
              refine g_icmpN o (pc := 312) at_312 (t := 339) (by decide) rfl c_ne (fun hy49 => ?_) (fun hn50 => ?_)
              · refine g_iload o (pc := 339) at_339 rfl ?_
                refine g_bipush o (pc := 341) at_341 (v := 6) rfl ?_
                refine g_icmpN o (pc := 343) at_343 (t := 370) (by decide) rfl c_ne (fun hy51 => ?_) (fun hn52 => ?_)
                · refine g_aload o (pc := 370) at_370 rfl rfl ?_
                  refine g_iload o (pc := 372) at_372 rfl ?_
                  refine g_iload o (pc := 374) at_374 rfl ?_
                  refine g_iload o (pc := 376) at_376 rfl ?_
                  refine g_iload o (pc := 378) at_378 rfl ?_
                  refine g_iload o (pc := 380) at_380 rfl ?_
                  refine g_iload o (pc := 382) at_382 rfl ?_
                  refine g_iload o (pc := 384) at_384 rfl ?_
                  refine g_iload o (pc := 386) at_386 rfl ?_
                  have q53 := (q31.wr W36 (ge_new ha11 X0))
                  refine g_static o (pc := 388) [(.ref a8), (.int f), (.int f), (.int f), (.int f), (.int f), (.int f), (.int f), (.int f)] [] at_388 (wd_9 hw) (wd_10 hw) (wd_2 hw) (wd_11 hw) (by decide) (Met.back o (W := 0) (rm_put C.l Z a0 hw n0 h35 q53 a8 kc10 (symF ((p0 &&& 2147483647) % 7) f) (symF (((p0 &&& 2147483647) / 7) % 7) f) (symF (((p0 &&& 2147483647) / 49) % 7) f) f f f f f f f f V38 (ge_new ha11 X0) lf lf lf lf lf lf lf lf) (wd_11 hw) (wd_2 hw) (by decide) (by decide)) (fun _ _ _ q => q) (Or.inr fun _ _ q => Mv.keep q.2.1 (allS (Or.inr (Or.inl (by simp))) all0)) pd_14 rfl rfl rfl rfl (by decide) (by decide) fun v54 h55 q56 => ?_
                  obtain ⟨rfl, K57, A58⟩ := q56
                  show Go C Z n0 (fun v _ => v = some (.int 1)) [a8] h55 1 14 391 #[.val (.int p0), .val (.int p1), .val (.int p2), .val (.int p3), .val (.int f), .val (.int 0), .val (.int 34), .val (.int 39), .val (.int (p1 &&& 7)), .val (.int (p0 &&& 2147483647)), .val (.int (p2 &&& 2147483647)), .val (.int ((p0 &&& 2147483647) % 7)), .val (.int (((p0 &&& 2147483647) / 7) % 7)), .val (.int (((p0 &&& 2147483647) / 49) % 7)), .val (.int ((p2 &&& 2147483647) % 7)), .val (.int (((p2 &&& 2147483647) / 7) % 7)), .val (.int (((p2 &&& 2147483647) / 49) % 7)), .val (.ref a8), .unset, .unset, .unset] []
                  have q59 := (q53.keep K57 (allS (ge_new ha11 X0) all0))
                  exact bl_391 hw hE hPL hcs hwd n0 o h55 q59 p0 p1 p2 p3 f 0 34 39 (p1 &&& 7) (p0 &&& 2147483647) (p2 &&& 2147483647) ((p0 &&& 2147483647) % 7) (((p0 &&& 2147483647) / 7) % 7) (((p0 &&& 2147483647) / 49) % 7) ((p2 &&& 2147483647) % 7) (((p2 &&& 2147483647) / 7) % 7) (((p2 &&& 2147483647) / 49) % 7) a8 kc10 f f f f f f f f zc fm Sc nzc Sf rf A58 (ge_new ha11 X0) lf lf lf lf lf lf lf lf lf (((kd_7 (op7_of (msk_nn p0)) (op7_of (div_nn (msk_nn p0) (by decide))) (op7_of (div_nn (msk_nn p0) (by decide))) (op7_of (msk_nn p2)) (op7_of (div_nn (msk_nn p2) (by decide))) (op7_of (div_nn (msk_nn p2) (by decide))) pf)).trans (by rw [refG, refG, if_neg (by decide), if_neg (by decide), if_neg hy51, if_neg (fun z => z.elim hy43 hy49)]))
                · refine g_aload o (pc := 346) at_346 rfl rfl ?_
                  refine g_iload o (pc := 348) at_348 rfl ?_
                  refine g_bipush o (pc := 350) at_350 (v := 58) rfl ?_
                  refine g_bipush o (pc := 352) at_352 (v := 41) rfl ?_
                  refine g_bipush o (pc := 354) at_354 (v := 40) rfl ?_
                  refine g_iload o (pc := 356) at_356 rfl ?_
                  refine g_bipush o (pc := 358) at_358 (v := 58) rfl ?_
                  refine g_bipush o (pc := 360) at_360 (v := 41) rfl ?_
                  refine g_iload o (pc := 362) at_362 rfl ?_
                  have q60 := (q31.wr W36 (ge_new ha11 X0))
                  refine g_static o (pc := 364) [(.ref a8), (.int f), (.int 58), (.int 41), (.int 40), (.int f), (.int 58), (.int 41), (.int f)] [] at_364 (wd_9 hw) (wd_10 hw) (wd_2 hw) (wd_11 hw) (by decide) (Met.back o (W := 0) (rm_put C.l Z a0 hw n0 h35 q60 a8 kc10 (symF ((p0 &&& 2147483647) % 7) f) (symF (((p0 &&& 2147483647) / 7) % 7) f) (symF (((p0 &&& 2147483647) / 49) % 7) f) f 58 41 40 f 58 41 f V38 (ge_new ha11 X0) lf (by decide) (by decide) (by decide) lf (by decide) (by decide) lf) (wd_11 hw) (wd_2 hw) (by decide) (by decide)) (fun _ _ _ q => q) (Or.inr fun _ _ q => Mv.keep q.2.1 (allS (Or.inr (Or.inl (by simp))) all0)) pd_14 rfl rfl rfl rfl (by decide) (by decide) fun v61 h62 q63 => ?_
                  obtain ⟨rfl, K64, A65⟩ := q63
                  show Go C Z n0 (fun v _ => v = some (.int 1)) [a8] h62 1 14 367 #[.val (.int p0), .val (.int p1), .val (.int p2), .val (.int p3), .val (.int f), .val (.int 0), .val (.int 34), .val (.int 39), .val (.int (p1 &&& 7)), .val (.int (p0 &&& 2147483647)), .val (.int (p2 &&& 2147483647)), .val (.int ((p0 &&& 2147483647) % 7)), .val (.int (((p0 &&& 2147483647) / 7) % 7)), .val (.int (((p0 &&& 2147483647) / 49) % 7)), .val (.int ((p2 &&& 2147483647) % 7)), .val (.int (((p2 &&& 2147483647) / 7) % 7)), .val (.int (((p2 &&& 2147483647) / 49) % 7)), .val (.ref a8), .unset, .unset, .unset] []
                  refine g_goto o (pc := 367) at_367 (t := 391) (by decide) rfl ?_
                  have q66 := (q60.keep K64 (allS (ge_new ha11 X0) all0))
                  exact bl_391 hw hE hPL hcs hwd n0 o h62 q66 p0 p1 p2 p3 f 0 34 39 (p1 &&& 7) (p0 &&& 2147483647) (p2 &&& 2147483647) ((p0 &&& 2147483647) % 7) (((p0 &&& 2147483647) / 7) % 7) (((p0 &&& 2147483647) / 49) % 7) ((p2 &&& 2147483647) % 7) (((p2 &&& 2147483647) / 7) % 7) (((p2 &&& 2147483647) / 49) % 7) a8 kc10 f 58 41 40 f 58 41 f zc fm Sc nzc Sf rf A65 (ge_new ha11 X0) lf lf (by decide) (by decide) (by decide) lf (by decide) (by decide) lf (by rw [hn52]; exact (kd_6 (op7_of (msk_nn p0)) (op7_of (div_nn (msk_nn p0) (by decide))) (op7_of (div_nn (msk_nn p0) (by decide))) (op7_of (msk_nn p2)) (op7_of (div_nn (msk_nn p2) (by decide))) (op7_of (div_nn (msk_nn p2) (by decide))) pf))
              · refine g_aload o (pc := 315) at_315 rfl rfl ?_
                refine g_bipush o (pc := 317) at_317 (v := 40) rfl ?_
                refine g_bipush o (pc := 319) at_319 (v := 58) rfl ?_
                refine g_bipush o (pc := 321) at_321 (v := 40) rfl ?_
                refine g_bipush o (pc := 323) at_323 (v := 58) rfl ?_
                refine g_iload o (pc := 325) at_325 rfl ?_
                refine g_iload o (pc := 327) at_327 rfl ?_
                refine g_bipush o (pc := 329) at_329 (v := 58) rfl ?_
                refine g_bipush o (pc := 331) at_331 (v := 41) rfl ?_
                have q67 := (q31.wr W36 (ge_new ha11 X0))
                refine g_static o (pc := 333) [(.ref a8), (.int 40), (.int 58), (.int 40), (.int 58), (.int f), (.int f), (.int 58), (.int 41)] [] at_333 (wd_9 hw) (wd_10 hw) (wd_2 hw) (wd_11 hw) (by decide) (Met.back o (W := 0) (rm_put C.l Z a0 hw n0 h35 q67 a8 kc10 (symF ((p0 &&& 2147483647) % 7) f) (symF (((p0 &&& 2147483647) / 7) % 7) f) (symF (((p0 &&& 2147483647) / 49) % 7) f) 40 58 40 58 f f 58 41 V38 (ge_new ha11 X0) (by decide) (by decide) (by decide) (by decide) lf lf (by decide) (by decide)) (wd_11 hw) (wd_2 hw) (by decide) (by decide)) (fun _ _ _ q => q) (Or.inr fun _ _ q => Mv.keep q.2.1 (allS (Or.inr (Or.inl (by simp))) all0)) pd_14 rfl rfl rfl rfl (by decide) (by decide) fun v68 h69 q70 => ?_
                obtain ⟨rfl, K71, A72⟩ := q70
                show Go C Z n0 (fun v _ => v = some (.int 1)) [a8] h69 1 14 336 #[.val (.int p0), .val (.int p1), .val (.int p2), .val (.int p3), .val (.int f), .val (.int 0), .val (.int 34), .val (.int 39), .val (.int (p1 &&& 7)), .val (.int (p0 &&& 2147483647)), .val (.int (p2 &&& 2147483647)), .val (.int ((p0 &&& 2147483647) % 7)), .val (.int (((p0 &&& 2147483647) / 7) % 7)), .val (.int (((p0 &&& 2147483647) / 49) % 7)), .val (.int ((p2 &&& 2147483647) % 7)), .val (.int (((p2 &&& 2147483647) / 7) % 7)), .val (.int (((p2 &&& 2147483647) / 49) % 7)), .val (.ref a8), .unset, .unset, .unset] []
                refine g_goto o (pc := 336) at_336 (t := 391) (by decide) rfl ?_
                have q73 := (q67.keep K71 (allS (ge_new ha11 X0) all0))
                exact bl_391 hw hE hPL hcs hwd n0 o h69 q73 p0 p1 p2 p3 f 0 34 39 (p1 &&& 7) (p0 &&& 2147483647) (p2 &&& 2147483647) ((p0 &&& 2147483647) % 7) (((p0 &&& 2147483647) / 7) % 7) (((p0 &&& 2147483647) / 49) % 7) ((p2 &&& 2147483647) % 7) (((p2 &&& 2147483647) / 7) % 7) (((p2 &&& 2147483647) / 49) % 7) a8 kc10 40 58 40 58 f f 58 41 zc fm Sc nzc Sf rf A72 (ge_new ha11 X0) lf (by decide) (by decide) (by decide) (by decide) lf lf (by decide) (by decide) (by rw [hn50]; exact (kd_5 (op7_of (msk_nn p0)) (op7_of (div_nn (msk_nn p0) (by decide))) (op7_of (div_nn (msk_nn p0) (by decide))) (op7_of (msk_nn p2)) (op7_of (div_nn (msk_nn p2) (by decide))) (op7_of (div_nn (msk_nn p2) (by decide))) pf))
            · refine g_aload o (pc := 285) at_285 rfl rfl ?_
              refine g_bipush o (pc := 287) at_287 (v := 40) rfl ?_
              refine g_bipush o (pc := 289) at_289 (v := 58) rfl ?_
              refine g_bipush o (pc := 291) at_291 (v := 40) rfl ?_
              refine g_bipush o (pc := 293) at_293 (v := 58) rfl ?_
              refine g_bipush o (pc := 295) at_295 (v := 58) rfl ?_
              refine g_bipush o (pc := 297) at_297 (v := 41) rfl ?_
              refine g_bipush o (pc := 299) at_299 (v := 58) rfl ?_
              refine g_bipush o (pc := 301) at_301 (v := 41) rfl ?_
              have q74 := (q31.wr W36 (ge_new ha11 X0))
              refine g_static o (pc := 303) [(.ref a8), (.int 40), (.int 58), (.int 40), (.int 58), (.int 58), (.int 41), (.int 58), (.int 41)] [] at_303 (wd_9 hw) (wd_10 hw) (wd_2 hw) (wd_11 hw) (by decide) (Met.back o (W := 0) (rm_put C.l Z a0 hw n0 h35 q74 a8 kc10 (symF ((p0 &&& 2147483647) % 7) f) (symF (((p0 &&& 2147483647) / 7) % 7) f) (symF (((p0 &&& 2147483647) / 49) % 7) f) 40 58 40 58 58 41 58 41 V38 (ge_new ha11 X0) (by decide) (by decide) (by decide) (by decide) (by decide) (by decide) (by decide) (by decide)) (wd_11 hw) (wd_2 hw) (by decide) (by decide)) (fun _ _ _ q => q) (Or.inr fun _ _ q => Mv.keep q.2.1 (allS (Or.inr (Or.inl (by simp))) all0)) pd_14 rfl rfl rfl rfl (by decide) (by decide) fun v75 h76 q77 => ?_
              obtain ⟨rfl, K78, A79⟩ := q77
              show Go C Z n0 (fun v _ => v = some (.int 1)) [a8] h76 1 14 306 #[.val (.int p0), .val (.int p1), .val (.int p2), .val (.int p3), .val (.int f), .val (.int 0), .val (.int 34), .val (.int 39), .val (.int (p1 &&& 7)), .val (.int (p0 &&& 2147483647)), .val (.int (p2 &&& 2147483647)), .val (.int ((p0 &&& 2147483647) % 7)), .val (.int (((p0 &&& 2147483647) / 7) % 7)), .val (.int (((p0 &&& 2147483647) / 49) % 7)), .val (.int ((p2 &&& 2147483647) % 7)), .val (.int (((p2 &&& 2147483647) / 7) % 7)), .val (.int (((p2 &&& 2147483647) / 49) % 7)), .val (.ref a8), .unset, .unset, .unset] []
              refine g_goto o (pc := 306) at_306 (t := 391) (by decide) rfl ?_
              have q80 := (q74.keep K78 (allS (ge_new ha11 X0) all0))
              exact bl_391 hw hE hPL hcs hwd n0 o h76 q80 p0 p1 p2 p3 f 0 34 39 (p1 &&& 7) (p0 &&& 2147483647) (p2 &&& 2147483647) ((p0 &&& 2147483647) % 7) (((p0 &&& 2147483647) / 7) % 7) (((p0 &&& 2147483647) / 49) % 7) ((p2 &&& 2147483647) % 7) (((p2 &&& 2147483647) / 7) % 7) (((p2 &&& 2147483647) / 49) % 7) a8 kc10 40 58 40 58 58 41 58 41 zc fm Sc nzc Sf rf A79 (ge_new ha11 X0) lf (by decide) (by decide) (by decide) (by decide) (by decide) (by decide) (by decide) (by decide) (by rw [hn48]; exact (kd_4 (op7_of (msk_nn p0)) (op7_of (div_nn (msk_nn p0) (by decide))) (op7_of (div_nn (msk_nn p0) (by decide))) (op7_of (msk_nn p2)) (op7_of (div_nn (msk_nn p2) (by decide))) (op7_of (div_nn (msk_nn p2) (by decide))) pf))
          · refine g_aload o (pc := 255) at_255 rfl rfl ?_
            refine g_bipush o (pc := 257) at_257 (v := 40) rfl ?_
            refine g_bipush o (pc := 259) at_259 (v := 58) rfl ?_
            refine g_bipush o (pc := 261) at_261 (v := 40) rfl ?_
            refine g_bipush o (pc := 263) at_263 (v := 91) rfl ?_
            refine g_bipush o (pc := 265) at_265 (v := 58) rfl ?_
            refine g_bipush o (pc := 267) at_267 (v := 41) rfl ?_
            refine g_iload o (pc := 269) at_269 rfl ?_
            refine g_iload o (pc := 271) at_271 rfl ?_
            have q81 := (q31.wr W36 (ge_new ha11 X0))
            refine g_static o (pc := 273) [(.ref a8), (.int 40), (.int 58), (.int 40), (.int 91), (.int 58), (.int 41), (.int f), (.int f)] [] at_273 (wd_9 hw) (wd_10 hw) (wd_2 hw) (wd_11 hw) (by decide) (Met.back o (W := 0) (rm_put C.l Z a0 hw n0 h35 q81 a8 kc10 (symF ((p0 &&& 2147483647) % 7) f) (symF (((p0 &&& 2147483647) / 7) % 7) f) (symF (((p0 &&& 2147483647) / 49) % 7) f) 40 58 40 91 58 41 f f V38 (ge_new ha11 X0) (by decide) (by decide) (by decide) (by decide) (by decide) (by decide) lf lf) (wd_11 hw) (wd_2 hw) (by decide) (by decide)) (fun _ _ _ q => q) (Or.inr fun _ _ q => Mv.keep q.2.1 (allS (Or.inr (Or.inl (by simp))) all0)) pd_14 rfl rfl rfl rfl (by decide) (by decide) fun v82 h83 q84 => ?_
            obtain ⟨rfl, K85, A86⟩ := q84
            show Go C Z n0 (fun v _ => v = some (.int 1)) [a8] h83 1 14 276 #[.val (.int p0), .val (.int p1), .val (.int p2), .val (.int p3), .val (.int f), .val (.int 0), .val (.int 34), .val (.int 39), .val (.int (p1 &&& 7)), .val (.int (p0 &&& 2147483647)), .val (.int (p2 &&& 2147483647)), .val (.int ((p0 &&& 2147483647) % 7)), .val (.int (((p0 &&& 2147483647) / 7) % 7)), .val (.int (((p0 &&& 2147483647) / 49) % 7)), .val (.int ((p2 &&& 2147483647) % 7)), .val (.int (((p2 &&& 2147483647) / 7) % 7)), .val (.int (((p2 &&& 2147483647) / 49) % 7)), .val (.ref a8), .unset, .unset, .unset] []
            refine g_goto o (pc := 276) at_276 (t := 391) (by decide) rfl ?_
            have q87 := (q81.keep K85 (allS (ge_new ha11 X0) all0))
            exact bl_391 hw hE hPL hcs hwd n0 o h83 q87 p0 p1 p2 p3 f 0 34 39 (p1 &&& 7) (p0 &&& 2147483647) (p2 &&& 2147483647) ((p0 &&& 2147483647) % 7) (((p0 &&& 2147483647) / 7) % 7) (((p0 &&& 2147483647) / 49) % 7) ((p2 &&& 2147483647) % 7) (((p2 &&& 2147483647) / 7) % 7) (((p2 &&& 2147483647) / 49) % 7) a8 kc10 40 58 40 91 58 41 f f zc fm Sc nzc Sf rf A86 (ge_new ha11 X0) lf (by decide) (by decide) (by decide) (by decide) (by decide) (by decide) lf lf (by rw [hn46]; exact (kd_3 (op7_of (msk_nn p0)) (op7_of (div_nn (msk_nn p0) (by decide))) (op7_of (div_nn (msk_nn p0) (by decide))) (op7_of (msk_nn p2)) (op7_of (div_nn (msk_nn p2) (by decide))) (op7_of (div_nn (msk_nn p2) (by decide))) pf))
        · refine g_aload o (pc := 225) at_225 rfl rfl ?_
          refine g_iload o (pc := 227) at_227 rfl ?_
          refine g_bipush o (pc := 229) at_229 (v := 40) rfl ?_
          refine g_bipush o (pc := 231) at_231 (v := 91) rfl ?_
          refine g_iload o (pc := 233) at_233 rfl ?_
          refine g_iload o (pc := 235) at_235 rfl ?_
          refine g_iload o (pc := 237) at_237 rfl ?_
          refine g_iload o (pc := 239) at_239 rfl ?_
          refine g_iload o (pc := 241) at_241 rfl ?_
          have q88 := (q31.wr W36 (ge_new ha11 X0))
          refine g_static o (pc := 243) [(.ref a8), (.int 34), (.int 40), (.int 91), (.int 34), (.int 34), (.int f), (.int f), (.int f)] [] at_243 (wd_9 hw) (wd_10 hw) (wd_2 hw) (wd_11 hw) (by decide) (Met.back o (W := 0) (rm_put C.l Z a0 hw n0 h35 q88 a8 kc10 (symF ((p0 &&& 2147483647) % 7) f) (symF (((p0 &&& 2147483647) / 7) % 7) f) (symF (((p0 &&& 2147483647) / 49) % 7) f) 34 40 91 34 34 f f f V38 (ge_new ha11 X0) (by decide) (by decide) (by decide) (by decide) (by decide) lf lf lf) (wd_11 hw) (wd_2 hw) (by decide) (by decide)) (fun _ _ _ q => q) (Or.inr fun _ _ q => Mv.keep q.2.1 (allS (Or.inr (Or.inl (by simp))) all0)) pd_14 rfl rfl rfl rfl (by decide) (by decide) fun v89 h90 q91 => ?_
          obtain ⟨rfl, K92, A93⟩ := q91
          show Go C Z n0 (fun v _ => v = some (.int 1)) [a8] h90 1 14 246 #[.val (.int p0), .val (.int p1), .val (.int p2), .val (.int p3), .val (.int f), .val (.int 0), .val (.int 34), .val (.int 39), .val (.int (p1 &&& 7)), .val (.int (p0 &&& 2147483647)), .val (.int (p2 &&& 2147483647)), .val (.int ((p0 &&& 2147483647) % 7)), .val (.int (((p0 &&& 2147483647) / 7) % 7)), .val (.int (((p0 &&& 2147483647) / 49) % 7)), .val (.int ((p2 &&& 2147483647) % 7)), .val (.int (((p2 &&& 2147483647) / 7) % 7)), .val (.int (((p2 &&& 2147483647) / 49) % 7)), .val (.ref a8), .unset, .unset, .unset] []
          refine g_goto o (pc := 246) at_246 (t := 391) (by decide) rfl ?_
          have q94 := (q88.keep K92 (allS (ge_new ha11 X0) all0))
          exact bl_391 hw hE hPL hcs hwd n0 o h90 q94 p0 p1 p2 p3 f 0 34 39 (p1 &&& 7) (p0 &&& 2147483647) (p2 &&& 2147483647) ((p0 &&& 2147483647) % 7) (((p0 &&& 2147483647) / 7) % 7) (((p0 &&& 2147483647) / 49) % 7) ((p2 &&& 2147483647) % 7) (((p2 &&& 2147483647) / 7) % 7) (((p2 &&& 2147483647) / 49) % 7) a8 kc10 34 40 91 34 34 f f f zc fm Sc nzc Sf rf A93 (ge_new ha11 X0) lf (by decide) (by decide) (by decide) (by decide) (by decide) lf lf lf (by rw [hn44]; exact (kd_2a (op7_of (msk_nn p0)) (op7_of (div_nn (msk_nn p0) (by decide))) (op7_of (div_nn (msk_nn p0) (by decide))) (op7_of (msk_nn p2)) (op7_of (div_nn (msk_nn p2) (by decide))) (op7_of (div_nn (msk_nn p2) (by decide))) pf))
      · refine g_aload o (pc := 195) at_195 rfl rfl ?_
        refine g_iload o (pc := 197) at_197 rfl ?_
        refine g_iload o (pc := 199) at_199 rfl ?_
        refine g_iload o (pc := 201) at_201 rfl ?_
        refine g_bipush o (pc := 203) at_203 (v := 40) rfl ?_
        refine g_iload o (pc := 205) at_205 rfl ?_
        refine g_bipush o (pc := 207) at_207 (v := 41) rfl ?_
        refine g_iload o (pc := 209) at_209 rfl ?_
        refine g_iload o (pc := 211) at_211 rfl ?_
        have q95 := (q31.wr W36 (ge_new ha11 X0))
        refine g_static o (pc := 213) [(.ref a8), (.int 34), (.int 34), (.int 34), (.int 40), (.int 39), (.int 41), (.int f), (.int 34)] [] at_213 (wd_9 hw) (wd_10 hw) (wd_2 hw) (wd_11 hw) (by decide) (Met.back o (W := 0) (rm_put C.l Z a0 hw n0 h35 q95 a8 kc10 (symF ((p0 &&& 2147483647) % 7) f) (symF (((p0 &&& 2147483647) / 7) % 7) f) (symF (((p0 &&& 2147483647) / 49) % 7) f) 34 34 34 40 39 41 f 34 V38 (ge_new ha11 X0) (by decide) (by decide) (by decide) (by decide) (by decide) (by decide) lf (by decide)) (wd_11 hw) (wd_2 hw) (by decide) (by decide)) (fun _ _ _ q => q) (Or.inr fun _ _ q => Mv.keep q.2.1 (allS (Or.inr (Or.inl (by simp))) all0)) pd_14 rfl rfl rfl rfl (by decide) (by decide) fun v96 h97 q98 => ?_
        obtain ⟨rfl, K99, A100⟩ := q98
        show Go C Z n0 (fun v _ => v = some (.int 1)) [a8] h97 1 14 216 #[.val (.int p0), .val (.int p1), .val (.int p2), .val (.int p3), .val (.int f), .val (.int 0), .val (.int 34), .val (.int 39), .val (.int (p1 &&& 7)), .val (.int (p0 &&& 2147483647)), .val (.int (p2 &&& 2147483647)), .val (.int ((p0 &&& 2147483647) % 7)), .val (.int (((p0 &&& 2147483647) / 7) % 7)), .val (.int (((p0 &&& 2147483647) / 49) % 7)), .val (.int ((p2 &&& 2147483647) % 7)), .val (.int (((p2 &&& 2147483647) / 7) % 7)), .val (.int (((p2 &&& 2147483647) / 49) % 7)), .val (.ref a8), .unset, .unset, .unset] []
        refine g_goto o (pc := 216) at_216 (t := 391) (by decide) rfl ?_
        have q101 := (q95.keep K99 (allS (ge_new ha11 X0) all0))
        exact bl_391 hw hE hPL hcs hwd n0 o h97 q101 p0 p1 p2 p3 f 0 34 39 (p1 &&& 7) (p0 &&& 2147483647) (p2 &&& 2147483647) ((p0 &&& 2147483647) % 7) (((p0 &&& 2147483647) / 7) % 7) (((p0 &&& 2147483647) / 49) % 7) ((p2 &&& 2147483647) % 7) (((p2 &&& 2147483647) / 7) % 7) (((p2 &&& 2147483647) / 49) % 7) a8 kc10 34 34 34 40 39 41 f 34 zc fm Sc nzc Sf rf A100 (ge_new ha11 X0) lf (by decide) (by decide) (by decide) (by decide) (by decide) (by decide) lf (by decide) (by rw [hn42]; exact (kd_1a (op7_of (msk_nn p0)) (op7_of (div_nn (msk_nn p0) (by decide))) (op7_of (div_nn (msk_nn p0) (by decide))) (op7_of (msk_nn p2)) (op7_of (div_nn (msk_nn p2) (by decide))) (op7_of (div_nn (msk_nn p2) (by decide))) pf))
    · refine g_aload o (pc := 165) at_165 rfl rfl ?_
      refine g_iload o (pc := 167) at_167 rfl ?_
      refine g_bipush o (pc := 169) at_169 (v := 40) rfl ?_
      refine g_bipush o (pc := 171) at_171 (v := 58) rfl ?_
      refine g_bipush o (pc := 173) at_173 (v := 93) rfl ?_
      refine g_bipush o (pc := 175) at_175 (v := 125) rfl ?_
      refine g_iload o (pc := 177) at_177 rfl ?_
      refine g_iload o (pc := 179) at_179 rfl ?_
      refine g_iload o (pc := 181) at_181 rfl ?_
      have q102 := (q31.wr W36 (ge_new ha11 X0))
      refine g_static o (pc := 183) [(.ref a8), (.int 34), (.int 40), (.int 58), (.int 93), (.int 125), (.int f), (.int 39), (.int 34)] [] at_183 (wd_9 hw) (wd_10 hw) (wd_2 hw) (wd_11 hw) (by decide) (Met.back o (W := 0) (rm_put C.l Z a0 hw n0 h35 q102 a8 kc10 (symF ((p0 &&& 2147483647) % 7) f) (symF (((p0 &&& 2147483647) / 7) % 7) f) (symF (((p0 &&& 2147483647) / 49) % 7) f) 34 40 58 93 125 f 39 34 V38 (ge_new ha11 X0) (by decide) (by decide) (by decide) (by decide) (by decide) lf (by decide) (by decide)) (wd_11 hw) (wd_2 hw) (by decide) (by decide)) (fun _ _ _ q => q) (Or.inr fun _ _ q => Mv.keep q.2.1 (allS (Or.inr (Or.inl (by simp))) all0)) pd_14 rfl rfl rfl rfl (by decide) (by decide) fun v103 h104 q105 => ?_
      obtain ⟨rfl, K106, A107⟩ := q105
      show Go C Z n0 (fun v _ => v = some (.int 1)) [a8] h104 1 14 186 #[.val (.int p0), .val (.int p1), .val (.int p2), .val (.int p3), .val (.int f), .val (.int 0), .val (.int 34), .val (.int 39), .val (.int (p1 &&& 7)), .val (.int (p0 &&& 2147483647)), .val (.int (p2 &&& 2147483647)), .val (.int ((p0 &&& 2147483647) % 7)), .val (.int (((p0 &&& 2147483647) / 7) % 7)), .val (.int (((p0 &&& 2147483647) / 49) % 7)), .val (.int ((p2 &&& 2147483647) % 7)), .val (.int (((p2 &&& 2147483647) / 7) % 7)), .val (.int (((p2 &&& 2147483647) / 49) % 7)), .val (.ref a8), .unset, .unset, .unset] []
      refine g_goto o (pc := 186) at_186 (t := 391) (by decide) rfl ?_
      have q108 := (q102.keep K106 (allS (ge_new ha11 X0) all0))
      exact bl_391 hw hE hPL hcs hwd n0 o h104 q108 p0 p1 p2 p3 f 0 34 39 (p1 &&& 7) (p0 &&& 2147483647) (p2 &&& 2147483647) ((p0 &&& 2147483647) % 7) (((p0 &&& 2147483647) / 7) % 7) (((p0 &&& 2147483647) / 49) % 7) ((p2 &&& 2147483647) % 7) (((p2 &&& 2147483647) / 7) % 7) (((p2 &&& 2147483647) / 49) % 7) a8 kc10 34 40 58 93 125 f 39 34 zc fm Sc nzc Sf rf A107 (ge_new ha11 X0) lf (by decide) (by decide) (by decide) (by decide) (by decide) lf (by decide) (by decide) (by rw [hn40]; exact (kd_0a (op7_of (msk_nn p0)) (op7_of (div_nn (msk_nn p0) (by decide))) (op7_of (div_nn (msk_nn p0) (by decide))) (op7_of (msk_nn p2)) (op7_of (div_nn (msk_nn p2) (by decide))) (op7_of (div_nn (msk_nn p2) (by decide))) pf))
  · refine g_iconst o (pc := 14) at_14 (v := 1) rfl ?_
    refine g_goto o (pc := 15) at_15 (t := 19) (by decide) rfl ?_
    refine g_istore o (pc := 19) at_19 (L' := #[.val (.int p0), .val (.int p1), .val (.int p2), .val (.int p3), .val (.int f), .val (.int 1), .unset, .unset, .unset, .unset, .unset, .unset, .unset, .unset, .unset, .unset, .unset, .unset, .unset, .unset, .unset]) rfl ?_
    refine g_iload o (pc := 21) at_21 rfl ?_
    refine g_ifC o (pc := 23) at_23 (t := 31) (by decide) rfl c_eq (fun hy109 => absurd hy109 (by decide)) (fun _ => ?_)
    refine g_bipush o (pc := 26) at_26 (v := 39) rfl ?_
    refine g_goto o (pc := 28) at_28 (t := 33) (by decide) rfl ?_
    refine g_istore o (pc := 33) at_33 (L' := #[.val (.int p0), .val (.int p1), .val (.int p2), .val (.int p3), .val (.int f), .val (.int 1), .val (.int 39), .unset, .unset, .unset, .unset, .unset, .unset, .unset, .unset, .unset, .unset, .unset, .unset, .unset, .unset]) rfl ?_
    refine g_iload o (pc := 35) at_35 rfl ?_
    refine g_ifC o (pc := 37) at_37 (t := 45) (by decide) rfl c_eq (fun hy110 => absurd hy110 (by decide)) (fun _ => ?_)
    refine g_bipush o (pc := 40) at_40 (v := 34) rfl ?_
    refine g_goto o (pc := 42) at_42 (t := 47) (by decide) rfl ?_
    refine g_istore o (pc := 47) at_47 (L' := #[.val (.int p0), .val (.int p1), .val (.int p2), .val (.int p3), .val (.int f), .val (.int 1), .val (.int 39), .val (.int 34), .unset, .unset, .unset, .unset, .unset, .unset, .unset, .unset, .unset, .unset, .unset, .unset, .unset]) rfl ?_
    refine g_iload_n o (pc := 49) at_49 rfl ?_
    refine g_bipush o (pc := 50) at_50 (v := 7) rfl ?_
    refine g_iand o (pc := 52) at_52 (v := (p1 &&& 7)) rfl ?_
    refine g_istore o (pc := 53) at_53 (L' := #[.val (.int p0), .val (.int p1), .val (.int p2), .val (.int p3), .val (.int f), .val (.int 1), .val (.int 39), .val (.int 34), .val (.int (p1 &&& 7)), .unset, .unset, .unset, .unset, .unset, .unset, .unset, .unset, .unset, .unset, .unset, .unset]) rfl ?_
    refine g_iload_n o (pc := 55) at_55 rfl ?_
    refine g_ldcI o (pc := 56) at_56 (wd_4 hw) ?_
    refine g_iand o (pc := 58) at_58 (v := (p0 &&& 2147483647)) rfl ?_
    refine g_istore o (pc := 59) at_59 (L' := #[.val (.int p0), .val (.int p1), .val (.int p2), .val (.int p3), .val (.int f), .val (.int 1), .val (.int 39), .val (.int 34), .val (.int (p1 &&& 7)), .val (.int (p0 &&& 2147483647)), .unset, .unset, .unset, .unset, .unset, .unset, .unset, .unset, .unset, .unset, .unset]) rfl ?_
    refine g_iload_n o (pc := 61) at_61 rfl ?_
    refine g_ldcI o (pc := 62) at_62 (wd_4 hw) ?_
    refine g_iand o (pc := 64) at_64 (v := (p2 &&& 2147483647)) rfl ?_
    refine g_istore o (pc := 65) at_65 (L' := #[.val (.int p0), .val (.int p1), .val (.int p2), .val (.int p3), .val (.int f), .val (.int 1), .val (.int 39), .val (.int 34), .val (.int (p1 &&& 7)), .val (.int (p0 &&& 2147483647)), .val (.int (p2 &&& 2147483647)), .unset, .unset, .unset, .unset, .unset, .unset, .unset, .unset, .unset, .unset]) rfl ?_
    refine g_iload o (pc := 67) at_67 rfl ?_
    refine g_bipush o (pc := 69) at_69 (v := 7) rfl ?_
    refine g_irem o (pc := 71) at_71 (by decide) (v := ((p0 &&& 2147483647) % 7)) rfl ?_
    refine g_istore o (pc := 72) at_72 (L' := #[.val (.int p0), .val (.int p1), .val (.int p2), .val (.int p3), .val (.int f), .val (.int 1), .val (.int 39), .val (.int 34), .val (.int (p1 &&& 7)), .val (.int (p0 &&& 2147483647)), .val (.int (p2 &&& 2147483647)), .val (.int ((p0 &&& 2147483647) % 7)), .unset, .unset, .unset, .unset, .unset, .unset, .unset, .unset, .unset]) rfl ?_
    refine g_iload o (pc := 74) at_74 rfl ?_
    refine g_bipush o (pc := 76) at_76 (v := 7) rfl ?_
    refine g_idiv o (pc := 78) at_78 (by decide) (v := ((p0 &&& 2147483647) / 7)) rfl ?_
    refine g_bipush o (pc := 79) at_79 (v := 7) rfl ?_
    refine g_irem o (pc := 81) at_81 (by decide) (v := (((p0 &&& 2147483647) / 7) % 7)) rfl ?_
    refine g_istore o (pc := 82) at_82 (L' := #[.val (.int p0), .val (.int p1), .val (.int p2), .val (.int p3), .val (.int f), .val (.int 1), .val (.int 39), .val (.int 34), .val (.int (p1 &&& 7)), .val (.int (p0 &&& 2147483647)), .val (.int (p2 &&& 2147483647)), .val (.int ((p0 &&& 2147483647) % 7)), .val (.int (((p0 &&& 2147483647) / 7) % 7)), .unset, .unset, .unset, .unset, .unset, .unset, .unset, .unset]) rfl ?_
    refine g_iload o (pc := 84) at_84 rfl ?_
    refine g_bipush o (pc := 86) at_86 (v := 49) rfl ?_
    refine g_idiv o (pc := 88) at_88 (by decide) (v := ((p0 &&& 2147483647) / 49)) rfl ?_
    refine g_bipush o (pc := 89) at_89 (v := 7) rfl ?_
    refine g_irem o (pc := 91) at_91 (by decide) (v := (((p0 &&& 2147483647) / 49) % 7)) rfl ?_
    refine g_istore o (pc := 92) at_92 (L' := #[.val (.int p0), .val (.int p1), .val (.int p2), .val (.int p3), .val (.int f), .val (.int 1), .val (.int 39), .val (.int 34), .val (.int (p1 &&& 7)), .val (.int (p0 &&& 2147483647)), .val (.int (p2 &&& 2147483647)), .val (.int ((p0 &&& 2147483647) % 7)), .val (.int (((p0 &&& 2147483647) / 7) % 7)), .val (.int (((p0 &&& 2147483647) / 49) % 7)), .unset, .unset, .unset, .unset, .unset, .unset, .unset]) rfl ?_
    refine g_iload o (pc := 94) at_94 rfl ?_
    refine g_bipush o (pc := 96) at_96 (v := 7) rfl ?_
    refine g_irem o (pc := 98) at_98 (by decide) (v := ((p2 &&& 2147483647) % 7)) rfl ?_
    refine g_istore o (pc := 99) at_99 (L' := #[.val (.int p0), .val (.int p1), .val (.int p2), .val (.int p3), .val (.int f), .val (.int 1), .val (.int 39), .val (.int 34), .val (.int (p1 &&& 7)), .val (.int (p0 &&& 2147483647)), .val (.int (p2 &&& 2147483647)), .val (.int ((p0 &&& 2147483647) % 7)), .val (.int (((p0 &&& 2147483647) / 7) % 7)), .val (.int (((p0 &&& 2147483647) / 49) % 7)), .val (.int ((p2 &&& 2147483647) % 7)), .unset, .unset, .unset, .unset, .unset, .unset]) rfl ?_
    refine g_iload o (pc := 101) at_101 rfl ?_
    refine g_bipush o (pc := 103) at_103 (v := 7) rfl ?_
    refine g_idiv o (pc := 105) at_105 (by decide) (v := ((p2 &&& 2147483647) / 7)) rfl ?_
    refine g_bipush o (pc := 106) at_106 (v := 7) rfl ?_
    refine g_irem o (pc := 108) at_108 (by decide) (v := (((p2 &&& 2147483647) / 7) % 7)) rfl ?_
    refine g_istore o (pc := 109) at_109 (L' := #[.val (.int p0), .val (.int p1), .val (.int p2), .val (.int p3), .val (.int f), .val (.int 1), .val (.int 39), .val (.int 34), .val (.int (p1 &&& 7)), .val (.int (p0 &&& 2147483647)), .val (.int (p2 &&& 2147483647)), .val (.int ((p0 &&& 2147483647) % 7)), .val (.int (((p0 &&& 2147483647) / 7) % 7)), .val (.int (((p0 &&& 2147483647) / 49) % 7)), .val (.int ((p2 &&& 2147483647) % 7)), .val (.int (((p2 &&& 2147483647) / 7) % 7)), .unset, .unset, .unset, .unset, .unset]) rfl ?_
    refine g_iload o (pc := 111) at_111 rfl ?_
    refine g_bipush o (pc := 113) at_113 (v := 49) rfl ?_
    refine g_idiv o (pc := 115) at_115 (by decide) (v := ((p2 &&& 2147483647) / 49)) rfl ?_
    refine g_bipush o (pc := 116) at_116 (v := 7) rfl ?_
    refine g_irem o (pc := 118) at_118 (by decide) (v := (((p2 &&& 2147483647) / 49) % 7)) rfl ?_
    refine g_istore o (pc := 119) at_119 (L' := #[.val (.int p0), .val (.int p1), .val (.int p2), .val (.int p3), .val (.int f), .val (.int 1), .val (.int 39), .val (.int 34), .val (.int (p1 &&& 7)), .val (.int (p0 &&& 2147483647)), .val (.int (p2 &&& 2147483647)), .val (.int ((p0 &&& 2147483647) % 7)), .val (.int (((p0 &&& 2147483647) / 7) % 7)), .val (.int (((p0 &&& 2147483647) / 49) % 7)), .val (.int ((p2 &&& 2147483647) % 7)), .val (.int (((p2 &&& 2147483647) / 7) % 7)), .val (.int (((p2 &&& 2147483647) / 49) % 7)), .unset, .unset, .unset, .unset]) rfl ?_
    refine g_bipush o (pc := 121) at_121 (v := 14) rfl ?_
    refine g_newarr o (pc := 123) at_123 (dv := .int 0) rfl rfl (wd_5 hw) (by decide) (m := 14) (by decide) (by decide) (by decide) (by decide) (M' := fun a => a :: []) (fun _ _ q => (List.mem_cons.mp q).elim Or.inr Or.inl) fun a111 h112 kc113 ha114 E115 V116 => ?_
    have V117 : Arv Z h112 a111 kc113 .char 14 [.int 0, .int 0, .int 0, .int 0, .int 0, .int 0, .int 0, .int 0, .int 0, .int 0, .int 0, .int 0, .int 0, .int 0] (.int 0) := V116
    refine g_astore o (pc := 125) at_125 rfl (L' := #[.val (.int p0), .val (.int p1), .val (.int p2), .val (.int p3), .val (.int f), .val (.int 1), .val (.int 39), .val (.int 34), .val (.int (p1 &&& 7)), .val (.int (p0 &&& 2147483647)), .val (.int (p2 &&& 2147483647)), .val (.int ((p0 &&& 2147483647) % 7)), .val (.int (((p0 &&& 2147483647) / 7) % 7)), .val (.int (((p0 &&& 2147483647) / 49) % 7)), .val (.int ((p2 &&& 2147483647) % 7)), .val (.int (((p2 &&& 2147483647) / 7) % 7)), .val (.int (((p2 &&& 2147483647) / 49) % 7)), .val (.ref a111), .unset, .unset, .unset]) rfl ?_
    refine g_aload o (pc := 127) at_127 rfl rfl ?_
    refine g_iconst o (pc := 129) at_129 (v := 0) rfl ?_
    refine g_iload o (pc := 130) at_130 rfl ?_
    refine g_iload o (pc := 132) at_132 rfl ?_
    have q118 := (X0.ext E115)
    refine g_static o (pc := 134) [(.int ((p0 &&& 2147483647) % 7)), (.int f)] [(.int 0), (.ref a111)] at_134 (wd_6 hw) (wd_7 hw) (wd_2 hw) (wd_8 hw) (by decide) (Met.back o (W := 2) (rm_sym C.l Z a0 hw n0 h112 q118 ((p0 &&& 2147483647) % 7) f lf) (wd_8 hw) (wd_2 hw) (by decide) (by decide)) (fun _ _ _ q => q) (Or.inr fun _ _ q => by rw [q.2]; exact Mv.refl) pd_11 rfl rfl rfl rfl (by decide) (by decide) fun v119 h120 q121 => ?_
    obtain ⟨rfl, hh⟩ := q121
    obtain rfl := hh.symm
    show Go C Z n0 (fun v _ => v = some (.int 1)) [a111] h112 1 14 137 #[.val (.int p0), .val (.int p1), .val (.int p2), .val (.int p3), .val (.int f), .val (.int 1), .val (.int 39), .val (.int 34), .val (.int (p1 &&& 7)), .val (.int (p0 &&& 2147483647)), .val (.int (p2 &&& 2147483647)), .val (.int ((p0 &&& 2147483647) % 7)), .val (.int (((p0 &&& 2147483647) / 7) % 7)), .val (.int (((p0 &&& 2147483647) / 49) % 7)), .val (.int ((p2 &&& 2147483647) % 7)), .val (.int (((p2 &&& 2147483647) / 7) % 7)), .val (.int (((p2 &&& 2147483647) / 49) % 7)), .val (.ref a111), .unset, .unset, .unset] [(.int (symF ((p0 &&& 2147483647) % 7) f)), (.int 0), (.ref a111)]
    refine g_castore o (pc := 137) at_137 V117 rfl (by decide) (i := 0) rfl (Nat.le_of_ble_eq_true rfl) (y := (symF ((p0 &&& 2147483647) % 7) f)) (i2c_lat (sym_lat lf)) (ge_new ha114 X0) (Or.inr (Or.inl (by simp))) fun h122 W123 V124 => ?_
    have V125 : Arv Z h122 a111 kc113 .char 14 [.int (symF ((p0 &&& 2147483647) % 7) f), .int 0, .int 0, .int 0, .int 0, .int 0, .int 0, .int 0, .int 0, .int 0, .int 0, .int 0, .int 0, .int 0] (.int 0) := V124
    refine g_aload o (pc := 138) at_138 rfl rfl ?_
    refine g_iconst o (pc := 140) at_140 (v := 1) rfl ?_
    refine g_iload o (pc := 141) at_141 rfl ?_
    refine g_iload o (pc := 143) at_143 rfl ?_
    have q126 := (q118.wr W123 (ge_new ha114 X0))
    refine g_static o (pc := 145) [(.int (((p0 &&& 2147483647) / 7) % 7)), (.int f)] [(.int 1), (.ref a111)] at_145 (wd_6 hw) (wd_7 hw) (wd_2 hw) (wd_8 hw) (by decide) (Met.back o (W := 2) (rm_sym C.l Z a0 hw n0 h122 q126 (((p0 &&& 2147483647) / 7) % 7) f lf) (wd_8 hw) (wd_2 hw) (by decide) (by decide)) (fun _ _ _ q => q) (Or.inr fun _ _ q => by rw [q.2]; exact Mv.refl) pd_11 rfl rfl rfl rfl (by decide) (by decide) fun v127 h128 q129 => ?_
    obtain ⟨rfl, hh⟩ := q129
    obtain rfl := hh.symm
    show Go C Z n0 (fun v _ => v = some (.int 1)) [a111] h122 1 14 148 #[.val (.int p0), .val (.int p1), .val (.int p2), .val (.int p3), .val (.int f), .val (.int 1), .val (.int 39), .val (.int 34), .val (.int (p1 &&& 7)), .val (.int (p0 &&& 2147483647)), .val (.int (p2 &&& 2147483647)), .val (.int ((p0 &&& 2147483647) % 7)), .val (.int (((p0 &&& 2147483647) / 7) % 7)), .val (.int (((p0 &&& 2147483647) / 49) % 7)), .val (.int ((p2 &&& 2147483647) % 7)), .val (.int (((p2 &&& 2147483647) / 7) % 7)), .val (.int (((p2 &&& 2147483647) / 49) % 7)), .val (.ref a111), .unset, .unset, .unset] [(.int (symF (((p0 &&& 2147483647) / 7) % 7) f)), (.int 1), (.ref a111)]
    refine g_castore o (pc := 148) at_148 V125 rfl (by decide) (i := 1) rfl (Nat.le_of_ble_eq_true rfl) (y := (symF (((p0 &&& 2147483647) / 7) % 7) f)) (i2c_lat (sym_lat lf)) (ge_new ha114 X0) (Or.inr (Or.inl (by simp))) fun h130 W131 V132 => ?_
    have V133 : Arv Z h130 a111 kc113 .char 14 [.int (symF ((p0 &&& 2147483647) % 7) f), .int (symF (((p0 &&& 2147483647) / 7) % 7) f), .int 0, .int 0, .int 0, .int 0, .int 0, .int 0, .int 0, .int 0, .int 0, .int 0, .int 0, .int 0] (.int 0) := V132
    refine g_aload o (pc := 149) at_149 rfl rfl ?_
    refine g_iconst o (pc := 151) at_151 (v := 2) rfl ?_
    refine g_iload o (pc := 152) at_152 rfl ?_
    refine g_iload o (pc := 154) at_154 rfl ?_
    have q134 := (q126.wr W131 (ge_new ha114 X0))
    refine g_static o (pc := 156) [(.int (((p0 &&& 2147483647) / 49) % 7)), (.int f)] [(.int 2), (.ref a111)] at_156 (wd_6 hw) (wd_7 hw) (wd_2 hw) (wd_8 hw) (by decide) (Met.back o (W := 2) (rm_sym C.l Z a0 hw n0 h130 q134 (((p0 &&& 2147483647) / 49) % 7) f lf) (wd_8 hw) (wd_2 hw) (by decide) (by decide)) (fun _ _ _ q => q) (Or.inr fun _ _ q => by rw [q.2]; exact Mv.refl) pd_11 rfl rfl rfl rfl (by decide) (by decide) fun v135 h136 q137 => ?_
    obtain ⟨rfl, hh⟩ := q137
    obtain rfl := hh.symm
    show Go C Z n0 (fun v _ => v = some (.int 1)) [a111] h130 1 14 159 #[.val (.int p0), .val (.int p1), .val (.int p2), .val (.int p3), .val (.int f), .val (.int 1), .val (.int 39), .val (.int 34), .val (.int (p1 &&& 7)), .val (.int (p0 &&& 2147483647)), .val (.int (p2 &&& 2147483647)), .val (.int ((p0 &&& 2147483647) % 7)), .val (.int (((p0 &&& 2147483647) / 7) % 7)), .val (.int (((p0 &&& 2147483647) / 49) % 7)), .val (.int ((p2 &&& 2147483647) % 7)), .val (.int (((p2 &&& 2147483647) / 7) % 7)), .val (.int (((p2 &&& 2147483647) / 49) % 7)), .val (.ref a111), .unset, .unset, .unset] [(.int (symF (((p0 &&& 2147483647) / 49) % 7) f)), (.int 2), (.ref a111)]
    refine g_castore o (pc := 159) at_159 V133 rfl (by decide) (i := 2) rfl (Nat.le_of_ble_eq_true rfl) (y := (symF (((p0 &&& 2147483647) / 49) % 7) f)) (i2c_lat (sym_lat lf)) (ge_new ha114 X0) (Or.inr (Or.inl (by simp))) fun h138 W139 V140 => ?_
    have V141 : Arv Z h138 a111 kc113 .char 14 [.int (symF ((p0 &&& 2147483647) % 7) f), .int (symF (((p0 &&& 2147483647) / 7) % 7) f), .int (symF (((p0 &&& 2147483647) / 49) % 7) f), .int 0, .int 0, .int 0, .int 0, .int 0, .int 0, .int 0, .int 0, .int 0, .int 0, .int 0] (.int 0) := V140
    refine g_iload o (pc := 160) at_160 rfl ?_
    refine g_ifCN o (pc := 162) at_162 (t := 189) (by decide) rfl c_ne (fun hy142 => ?_) (fun hn143 => ?_)
    · refine g_iload o (pc := 189) at_189 rfl ?_
      refine g_iconst o (pc := 191) at_191 (v := 1) rfl ?_
      refine g_icmpN o (pc := 192) at_192 (t := 219) (by decide) rfl c_ne (fun hy144 => ?_) (fun hn145 => ?_)
      · refine g_iload o (pc := 219) at_219 rfl ?_
        refine g_iconst o (pc := 221) at_221 (v := 2) rfl ?_
        refine g_icmpN o (pc := 222) at_222 (t := 249) (by decide) rfl c_ne (fun hy146 => ?_) (fun hn147 => ?_)
        · refine g_iload o (pc := 249) at_249 rfl ?_
          refine g_iconst o (pc := 251) at_251 (v := 3) rfl ?_
          refine g_icmpN o (pc := 252) at_252 (t := 279) (by decide) rfl c_ne (fun hy148 => ?_) (fun hn149 => ?_)
          · refine g_iload o (pc := 279) at_279 rfl ?_
            refine g_iconst o (pc := 281) at_281 (v := 4) rfl ?_
            refine g_icmpN o (pc := 282) at_282 (t := 309) (by decide) rfl c_ne (fun hy150 => ?_) (fun hn151 => ?_)
            · refine g_iload o (pc := 309) at_309 rfl ?_
              refine g_iconst o (pc := 311) at_311 (v := 5) rfl ?_
              refine g_icmpN o (pc := 312) at_312 (t := 339) (by decide) rfl c_ne (fun hy152 => ?_) (fun hn153 => ?_)
              · refine g_iload o (pc := 339) at_339 rfl ?_
                refine g_bipush o (pc := 341) at_341 (v := 6) rfl ?_
                refine g_icmpN o (pc := 343) at_343 (t := 370) (by decide) rfl c_ne (fun hy154 => ?_) (fun hn155 => ?_)
                · refine g_aload o (pc := 370) at_370 rfl rfl ?_
                  refine g_iload o (pc := 372) at_372 rfl ?_
                  refine g_iload o (pc := 374) at_374 rfl ?_
                  refine g_iload o (pc := 376) at_376 rfl ?_
                  refine g_iload o (pc := 378) at_378 rfl ?_
                  refine g_iload o (pc := 380) at_380 rfl ?_
                  refine g_iload o (pc := 382) at_382 rfl ?_
                  refine g_iload o (pc := 384) at_384 rfl ?_
                  refine g_iload o (pc := 386) at_386 rfl ?_
                  have q156 := (q134.wr W139 (ge_new ha114 X0))
                  refine g_static o (pc := 388) [(.ref a111), (.int f), (.int f), (.int f), (.int f), (.int f), (.int f), (.int f), (.int f)] [] at_388 (wd_9 hw) (wd_10 hw) (wd_2 hw) (wd_11 hw) (by decide) (Met.back o (W := 0) (rm_put C.l Z a0 hw n0 h138 q156 a111 kc113 (symF ((p0 &&& 2147483647) % 7) f) (symF (((p0 &&& 2147483647) / 7) % 7) f) (symF (((p0 &&& 2147483647) / 49) % 7) f) f f f f f f f f V141 (ge_new ha114 X0) lf lf lf lf lf lf lf lf) (wd_11 hw) (wd_2 hw) (by decide) (by decide)) (fun _ _ _ q => q) (Or.inr fun _ _ q => Mv.keep q.2.1 (allS (Or.inr (Or.inl (by simp))) all0)) pd_14 rfl rfl rfl rfl (by decide) (by decide) fun v157 h158 q159 => ?_
                  obtain ⟨rfl, K160, A161⟩ := q159
                  show Go C Z n0 (fun v _ => v = some (.int 1)) [a111] h158 1 14 391 #[.val (.int p0), .val (.int p1), .val (.int p2), .val (.int p3), .val (.int f), .val (.int 1), .val (.int 39), .val (.int 34), .val (.int (p1 &&& 7)), .val (.int (p0 &&& 2147483647)), .val (.int (p2 &&& 2147483647)), .val (.int ((p0 &&& 2147483647) % 7)), .val (.int (((p0 &&& 2147483647) / 7) % 7)), .val (.int (((p0 &&& 2147483647) / 49) % 7)), .val (.int ((p2 &&& 2147483647) % 7)), .val (.int (((p2 &&& 2147483647) / 7) % 7)), .val (.int (((p2 &&& 2147483647) / 49) % 7)), .val (.ref a111), .unset, .unset, .unset] []
                  have q162 := (q156.keep K160 (allS (ge_new ha114 X0) all0))
                  exact bl_391 hw hE hPL hcs hwd n0 o h158 q162 p0 p1 p2 p3 f 1 39 34 (p1 &&& 7) (p0 &&& 2147483647) (p2 &&& 2147483647) ((p0 &&& 2147483647) % 7) (((p0 &&& 2147483647) / 7) % 7) (((p0 &&& 2147483647) / 49) % 7) ((p2 &&& 2147483647) % 7) (((p2 &&& 2147483647) / 7) % 7) (((p2 &&& 2147483647) / 49) % 7) a111 kc113 f f f f f f f f zc fm Sc nzc Sf rf A161 (ge_new ha114 X0) lf lf lf lf lf lf lf lf lf (((kd_7 (op7_of (msk_nn p0)) (op7_of (div_nn (msk_nn p0) (by decide))) (op7_of (div_nn (msk_nn p0) (by decide))) (op7_of (msk_nn p2)) (op7_of (div_nn (msk_nn p2) (by decide))) (op7_of (div_nn (msk_nn p2) (by decide))) pf)).trans (by rw [refG, refG, if_neg (by decide), if_neg (by decide), if_neg hy154, if_neg (fun z => z.elim hy146 hy152)]))
                · refine g_aload o (pc := 346) at_346 rfl rfl ?_
                  refine g_iload o (pc := 348) at_348 rfl ?_
                  refine g_bipush o (pc := 350) at_350 (v := 58) rfl ?_
                  refine g_bipush o (pc := 352) at_352 (v := 41) rfl ?_
                  refine g_bipush o (pc := 354) at_354 (v := 40) rfl ?_
                  refine g_iload o (pc := 356) at_356 rfl ?_
                  refine g_bipush o (pc := 358) at_358 (v := 58) rfl ?_
                  refine g_bipush o (pc := 360) at_360 (v := 41) rfl ?_
                  refine g_iload o (pc := 362) at_362 rfl ?_
                  have q163 := (q134.wr W139 (ge_new ha114 X0))
                  refine g_static o (pc := 364) [(.ref a111), (.int f), (.int 58), (.int 41), (.int 40), (.int f), (.int 58), (.int 41), (.int f)] [] at_364 (wd_9 hw) (wd_10 hw) (wd_2 hw) (wd_11 hw) (by decide) (Met.back o (W := 0) (rm_put C.l Z a0 hw n0 h138 q163 a111 kc113 (symF ((p0 &&& 2147483647) % 7) f) (symF (((p0 &&& 2147483647) / 7) % 7) f) (symF (((p0 &&& 2147483647) / 49) % 7) f) f 58 41 40 f 58 41 f V141 (ge_new ha114 X0) lf (by decide) (by decide) (by decide) lf (by decide) (by decide) lf) (wd_11 hw) (wd_2 hw) (by decide) (by decide)) (fun _ _ _ q => q) (Or.inr fun _ _ q => Mv.keep q.2.1 (allS (Or.inr (Or.inl (by simp))) all0)) pd_14 rfl rfl rfl rfl (by decide) (by decide) fun v164 h165 q166 => ?_
                  obtain ⟨rfl, K167, A168⟩ := q166
                  show Go C Z n0 (fun v _ => v = some (.int 1)) [a111] h165 1 14 367 #[.val (.int p0), .val (.int p1), .val (.int p2), .val (.int p3), .val (.int f), .val (.int 1), .val (.int 39), .val (.int 34), .val (.int (p1 &&& 7)), .val (.int (p0 &&& 2147483647)), .val (.int (p2 &&& 2147483647)), .val (.int ((p0 &&& 2147483647) % 7)), .val (.int (((p0 &&& 2147483647) / 7) % 7)), .val (.int (((p0 &&& 2147483647) / 49) % 7)), .val (.int ((p2 &&& 2147483647) % 7)), .val (.int (((p2 &&& 2147483647) / 7) % 7)), .val (.int (((p2 &&& 2147483647) / 49) % 7)), .val (.ref a111), .unset, .unset, .unset] []
                  refine g_goto o (pc := 367) at_367 (t := 391) (by decide) rfl ?_
                  have q169 := (q163.keep K167 (allS (ge_new ha114 X0) all0))
                  exact bl_391 hw hE hPL hcs hwd n0 o h165 q169 p0 p1 p2 p3 f 1 39 34 (p1 &&& 7) (p0 &&& 2147483647) (p2 &&& 2147483647) ((p0 &&& 2147483647) % 7) (((p0 &&& 2147483647) / 7) % 7) (((p0 &&& 2147483647) / 49) % 7) ((p2 &&& 2147483647) % 7) (((p2 &&& 2147483647) / 7) % 7) (((p2 &&& 2147483647) / 49) % 7) a111 kc113 f 58 41 40 f 58 41 f zc fm Sc nzc Sf rf A168 (ge_new ha114 X0) lf lf (by decide) (by decide) (by decide) lf (by decide) (by decide) lf (by rw [hn155]; exact (kd_6 (op7_of (msk_nn p0)) (op7_of (div_nn (msk_nn p0) (by decide))) (op7_of (div_nn (msk_nn p0) (by decide))) (op7_of (msk_nn p2)) (op7_of (div_nn (msk_nn p2) (by decide))) (op7_of (div_nn (msk_nn p2) (by decide))) pf))
              · refine g_aload o (pc := 315) at_315 rfl rfl ?_
                refine g_bipush o (pc := 317) at_317 (v := 40) rfl ?_
                refine g_bipush o (pc := 319) at_319 (v := 58) rfl ?_
                refine g_bipush o (pc := 321) at_321 (v := 40) rfl ?_
                refine g_bipush o (pc := 323) at_323 (v := 58) rfl ?_
                refine g_iload o (pc := 325) at_325 rfl ?_
                refine g_iload o (pc := 327) at_327 rfl ?_
                refine g_bipush o (pc := 329) at_329 (v := 58) rfl ?_
                refine g_bipush o (pc := 331) at_331 (v := 41) rfl ?_
                have q170 := (q134.wr W139 (ge_new ha114 X0))
                refine g_static o (pc := 333) [(.ref a111), (.int 40), (.int 58), (.int 40), (.int 58), (.int f), (.int f), (.int 58), (.int 41)] [] at_333 (wd_9 hw) (wd_10 hw) (wd_2 hw) (wd_11 hw) (by decide) (Met.back o (W := 0) (rm_put C.l Z a0 hw n0 h138 q170 a111 kc113 (symF ((p0 &&& 2147483647) % 7) f) (symF (((p0 &&& 2147483647) / 7) % 7) f) (symF (((p0 &&& 2147483647) / 49) % 7) f) 40 58 40 58 f f 58 41 V141 (ge_new ha114 X0) (by decide) (by decide) (by decide) (by decide) lf lf (by decide) (by decide)) (wd_11 hw) (wd_2 hw) (by decide) (by decide)) (fun _ _ _ q => q) (Or.inr fun _ _ q => Mv.keep q.2.1 (allS (Or.inr (Or.inl (by simp))) all0)) pd_14 rfl rfl rfl rfl (by decide) (by decide) fun v171 h172 q173 => ?_
                obtain ⟨rfl, K174, A175⟩ := q173
                show Go C Z n0 (fun v _ => v = some (.int 1)) [a111] h172 1 14 336 #[.val (.int p0), .val (.int p1), .val (.int p2), .val (.int p3), .val (.int f), .val (.int 1), .val (.int 39), .val (.int 34), .val (.int (p1 &&& 7)), .val (.int (p0 &&& 2147483647)), .val (.int (p2 &&& 2147483647)), .val (.int ((p0 &&& 2147483647) % 7)), .val (.int (((p0 &&& 2147483647) / 7) % 7)), .val (.int (((p0 &&& 2147483647) / 49) % 7)), .val (.int ((p2 &&& 2147483647) % 7)), .val (.int (((p2 &&& 2147483647) / 7) % 7)), .val (.int (((p2 &&& 2147483647) / 49) % 7)), .val (.ref a111), .unset, .unset, .unset] []
                refine g_goto o (pc := 336) at_336 (t := 391) (by decide) rfl ?_
                have q176 := (q170.keep K174 (allS (ge_new ha114 X0) all0))
                exact bl_391 hw hE hPL hcs hwd n0 o h172 q176 p0 p1 p2 p3 f 1 39 34 (p1 &&& 7) (p0 &&& 2147483647) (p2 &&& 2147483647) ((p0 &&& 2147483647) % 7) (((p0 &&& 2147483647) / 7) % 7) (((p0 &&& 2147483647) / 49) % 7) ((p2 &&& 2147483647) % 7) (((p2 &&& 2147483647) / 7) % 7) (((p2 &&& 2147483647) / 49) % 7) a111 kc113 40 58 40 58 f f 58 41 zc fm Sc nzc Sf rf A175 (ge_new ha114 X0) lf (by decide) (by decide) (by decide) (by decide) lf lf (by decide) (by decide) (by rw [hn153]; exact (kd_5 (op7_of (msk_nn p0)) (op7_of (div_nn (msk_nn p0) (by decide))) (op7_of (div_nn (msk_nn p0) (by decide))) (op7_of (msk_nn p2)) (op7_of (div_nn (msk_nn p2) (by decide))) (op7_of (div_nn (msk_nn p2) (by decide))) pf))
            · refine g_aload o (pc := 285) at_285 rfl rfl ?_
              refine g_bipush o (pc := 287) at_287 (v := 40) rfl ?_
              refine g_bipush o (pc := 289) at_289 (v := 58) rfl ?_
              refine g_bipush o (pc := 291) at_291 (v := 40) rfl ?_
              refine g_bipush o (pc := 293) at_293 (v := 58) rfl ?_
              refine g_bipush o (pc := 295) at_295 (v := 58) rfl ?_
              refine g_bipush o (pc := 297) at_297 (v := 41) rfl ?_
              refine g_bipush o (pc := 299) at_299 (v := 58) rfl ?_
              refine g_bipush o (pc := 301) at_301 (v := 41) rfl ?_
              have q177 := (q134.wr W139 (ge_new ha114 X0))
              refine g_static o (pc := 303) [(.ref a111), (.int 40), (.int 58), (.int 40), (.int 58), (.int 58), (.int 41), (.int 58), (.int 41)] [] at_303 (wd_9 hw) (wd_10 hw) (wd_2 hw) (wd_11 hw) (by decide) (Met.back o (W := 0) (rm_put C.l Z a0 hw n0 h138 q177 a111 kc113 (symF ((p0 &&& 2147483647) % 7) f) (symF (((p0 &&& 2147483647) / 7) % 7) f) (symF (((p0 &&& 2147483647) / 49) % 7) f) 40 58 40 58 58 41 58 41 V141 (ge_new ha114 X0) (by decide) (by decide) (by decide) (by decide) (by decide) (by decide) (by decide) (by decide)) (wd_11 hw) (wd_2 hw) (by decide) (by decide)) (fun _ _ _ q => q) (Or.inr fun _ _ q => Mv.keep q.2.1 (allS (Or.inr (Or.inl (by simp))) all0)) pd_14 rfl rfl rfl rfl (by decide) (by decide) fun v178 h179 q180 => ?_
              obtain ⟨rfl, K181, A182⟩ := q180
              show Go C Z n0 (fun v _ => v = some (.int 1)) [a111] h179 1 14 306 #[.val (.int p0), .val (.int p1), .val (.int p2), .val (.int p3), .val (.int f), .val (.int 1), .val (.int 39), .val (.int 34), .val (.int (p1 &&& 7)), .val (.int (p0 &&& 2147483647)), .val (.int (p2 &&& 2147483647)), .val (.int ((p0 &&& 2147483647) % 7)), .val (.int (((p0 &&& 2147483647) / 7) % 7)), .val (.int (((p0 &&& 2147483647) / 49) % 7)), .val (.int ((p2 &&& 2147483647) % 7)), .val (.int (((p2 &&& 2147483647) / 7) % 7)), .val (.int (((p2 &&& 2147483647) / 49) % 7)), .val (.ref a111), .unset, .unset, .unset] []
              refine g_goto o (pc := 306) at_306 (t := 391) (by decide) rfl ?_
              have q183 := (q177.keep K181 (allS (ge_new ha114 X0) all0))
              exact bl_391 hw hE hPL hcs hwd n0 o h179 q183 p0 p1 p2 p3 f 1 39 34 (p1 &&& 7) (p0 &&& 2147483647) (p2 &&& 2147483647) ((p0 &&& 2147483647) % 7) (((p0 &&& 2147483647) / 7) % 7) (((p0 &&& 2147483647) / 49) % 7) ((p2 &&& 2147483647) % 7) (((p2 &&& 2147483647) / 7) % 7) (((p2 &&& 2147483647) / 49) % 7) a111 kc113 40 58 40 58 58 41 58 41 zc fm Sc nzc Sf rf A182 (ge_new ha114 X0) lf (by decide) (by decide) (by decide) (by decide) (by decide) (by decide) (by decide) (by decide) (by rw [hn151]; exact (kd_4 (op7_of (msk_nn p0)) (op7_of (div_nn (msk_nn p0) (by decide))) (op7_of (div_nn (msk_nn p0) (by decide))) (op7_of (msk_nn p2)) (op7_of (div_nn (msk_nn p2) (by decide))) (op7_of (div_nn (msk_nn p2) (by decide))) pf))
          · refine g_aload o (pc := 255) at_255 rfl rfl ?_
            refine g_bipush o (pc := 257) at_257 (v := 40) rfl ?_
            refine g_bipush o (pc := 259) at_259 (v := 58) rfl ?_
            refine g_bipush o (pc := 261) at_261 (v := 40) rfl ?_
            refine g_bipush o (pc := 263) at_263 (v := 91) rfl ?_
            refine g_bipush o (pc := 265) at_265 (v := 58) rfl ?_
            refine g_bipush o (pc := 267) at_267 (v := 41) rfl ?_
            refine g_iload o (pc := 269) at_269 rfl ?_
            refine g_iload o (pc := 271) at_271 rfl ?_
            have q184 := (q134.wr W139 (ge_new ha114 X0))
            refine g_static o (pc := 273) [(.ref a111), (.int 40), (.int 58), (.int 40), (.int 91), (.int 58), (.int 41), (.int f), (.int f)] [] at_273 (wd_9 hw) (wd_10 hw) (wd_2 hw) (wd_11 hw) (by decide) (Met.back o (W := 0) (rm_put C.l Z a0 hw n0 h138 q184 a111 kc113 (symF ((p0 &&& 2147483647) % 7) f) (symF (((p0 &&& 2147483647) / 7) % 7) f) (symF (((p0 &&& 2147483647) / 49) % 7) f) 40 58 40 91 58 41 f f V141 (ge_new ha114 X0) (by decide) (by decide) (by decide) (by decide) (by decide) (by decide) lf lf) (wd_11 hw) (wd_2 hw) (by decide) (by decide)) (fun _ _ _ q => q) (Or.inr fun _ _ q => Mv.keep q.2.1 (allS (Or.inr (Or.inl (by simp))) all0)) pd_14 rfl rfl rfl rfl (by decide) (by decide) fun v185 h186 q187 => ?_
            obtain ⟨rfl, K188, A189⟩ := q187
            show Go C Z n0 (fun v _ => v = some (.int 1)) [a111] h186 1 14 276 #[.val (.int p0), .val (.int p1), .val (.int p2), .val (.int p3), .val (.int f), .val (.int 1), .val (.int 39), .val (.int 34), .val (.int (p1 &&& 7)), .val (.int (p0 &&& 2147483647)), .val (.int (p2 &&& 2147483647)), .val (.int ((p0 &&& 2147483647) % 7)), .val (.int (((p0 &&& 2147483647) / 7) % 7)), .val (.int (((p0 &&& 2147483647) / 49) % 7)), .val (.int ((p2 &&& 2147483647) % 7)), .val (.int (((p2 &&& 2147483647) / 7) % 7)), .val (.int (((p2 &&& 2147483647) / 49) % 7)), .val (.ref a111), .unset, .unset, .unset] []
            refine g_goto o (pc := 276) at_276 (t := 391) (by decide) rfl ?_
            have q190 := (q184.keep K188 (allS (ge_new ha114 X0) all0))
            exact bl_391 hw hE hPL hcs hwd n0 o h186 q190 p0 p1 p2 p3 f 1 39 34 (p1 &&& 7) (p0 &&& 2147483647) (p2 &&& 2147483647) ((p0 &&& 2147483647) % 7) (((p0 &&& 2147483647) / 7) % 7) (((p0 &&& 2147483647) / 49) % 7) ((p2 &&& 2147483647) % 7) (((p2 &&& 2147483647) / 7) % 7) (((p2 &&& 2147483647) / 49) % 7) a111 kc113 40 58 40 91 58 41 f f zc fm Sc nzc Sf rf A189 (ge_new ha114 X0) lf (by decide) (by decide) (by decide) (by decide) (by decide) (by decide) lf lf (by rw [hn149]; exact (kd_3 (op7_of (msk_nn p0)) (op7_of (div_nn (msk_nn p0) (by decide))) (op7_of (div_nn (msk_nn p0) (by decide))) (op7_of (msk_nn p2)) (op7_of (div_nn (msk_nn p2) (by decide))) (op7_of (div_nn (msk_nn p2) (by decide))) pf))
        · refine g_aload o (pc := 225) at_225 rfl rfl ?_
          refine g_iload o (pc := 227) at_227 rfl ?_
          refine g_bipush o (pc := 229) at_229 (v := 40) rfl ?_
          refine g_bipush o (pc := 231) at_231 (v := 91) rfl ?_
          refine g_iload o (pc := 233) at_233 rfl ?_
          refine g_iload o (pc := 235) at_235 rfl ?_
          refine g_iload o (pc := 237) at_237 rfl ?_
          refine g_iload o (pc := 239) at_239 rfl ?_
          refine g_iload o (pc := 241) at_241 rfl ?_
          have q191 := (q134.wr W139 (ge_new ha114 X0))
          refine g_static o (pc := 243) [(.ref a111), (.int 39), (.int 40), (.int 91), (.int 39), (.int 39), (.int f), (.int f), (.int f)] [] at_243 (wd_9 hw) (wd_10 hw) (wd_2 hw) (wd_11 hw) (by decide) (Met.back o (W := 0) (rm_put C.l Z a0 hw n0 h138 q191 a111 kc113 (symF ((p0 &&& 2147483647) % 7) f) (symF (((p0 &&& 2147483647) / 7) % 7) f) (symF (((p0 &&& 2147483647) / 49) % 7) f) 39 40 91 39 39 f f f V141 (ge_new ha114 X0) (by decide) (by decide) (by decide) (by decide) (by decide) lf lf lf) (wd_11 hw) (wd_2 hw) (by decide) (by decide)) (fun _ _ _ q => q) (Or.inr fun _ _ q => Mv.keep q.2.1 (allS (Or.inr (Or.inl (by simp))) all0)) pd_14 rfl rfl rfl rfl (by decide) (by decide) fun v192 h193 q194 => ?_
          obtain ⟨rfl, K195, A196⟩ := q194
          show Go C Z n0 (fun v _ => v = some (.int 1)) [a111] h193 1 14 246 #[.val (.int p0), .val (.int p1), .val (.int p2), .val (.int p3), .val (.int f), .val (.int 1), .val (.int 39), .val (.int 34), .val (.int (p1 &&& 7)), .val (.int (p0 &&& 2147483647)), .val (.int (p2 &&& 2147483647)), .val (.int ((p0 &&& 2147483647) % 7)), .val (.int (((p0 &&& 2147483647) / 7) % 7)), .val (.int (((p0 &&& 2147483647) / 49) % 7)), .val (.int ((p2 &&& 2147483647) % 7)), .val (.int (((p2 &&& 2147483647) / 7) % 7)), .val (.int (((p2 &&& 2147483647) / 49) % 7)), .val (.ref a111), .unset, .unset, .unset] []
          refine g_goto o (pc := 246) at_246 (t := 391) (by decide) rfl ?_
          have q197 := (q191.keep K195 (allS (ge_new ha114 X0) all0))
          exact bl_391 hw hE hPL hcs hwd n0 o h193 q197 p0 p1 p2 p3 f 1 39 34 (p1 &&& 7) (p0 &&& 2147483647) (p2 &&& 2147483647) ((p0 &&& 2147483647) % 7) (((p0 &&& 2147483647) / 7) % 7) (((p0 &&& 2147483647) / 49) % 7) ((p2 &&& 2147483647) % 7) (((p2 &&& 2147483647) / 7) % 7) (((p2 &&& 2147483647) / 49) % 7) a111 kc113 39 40 91 39 39 f f f zc fm Sc nzc Sf rf A196 (ge_new ha114 X0) lf (by decide) (by decide) (by decide) (by decide) (by decide) lf lf lf (by rw [hn147]; exact (kd_2b (op7_of (msk_nn p0)) (op7_of (div_nn (msk_nn p0) (by decide))) (op7_of (div_nn (msk_nn p0) (by decide))) (op7_of (msk_nn p2)) (op7_of (div_nn (msk_nn p2) (by decide))) (op7_of (div_nn (msk_nn p2) (by decide))) pf))
      · refine g_aload o (pc := 195) at_195 rfl rfl ?_
        refine g_iload o (pc := 197) at_197 rfl ?_
        refine g_iload o (pc := 199) at_199 rfl ?_
        refine g_iload o (pc := 201) at_201 rfl ?_
        refine g_bipush o (pc := 203) at_203 (v := 40) rfl ?_
        refine g_iload o (pc := 205) at_205 rfl ?_
        refine g_bipush o (pc := 207) at_207 (v := 41) rfl ?_
        refine g_iload o (pc := 209) at_209 rfl ?_
        refine g_iload o (pc := 211) at_211 rfl ?_
        have q198 := (q134.wr W139 (ge_new ha114 X0))
        refine g_static o (pc := 213) [(.ref a111), (.int 39), (.int 39), (.int 39), (.int 40), (.int 34), (.int 41), (.int f), (.int 39)] [] at_213 (wd_9 hw) (wd_10 hw) (wd_2 hw) (wd_11 hw) (by decide) (Met.back o (W := 0) (rm_put C.l Z a0 hw n0 h138 q198 a111 kc113 (symF ((p0 &&& 2147483647) % 7) f) (symF (((p0 &&& 2147483647) / 7) % 7) f) (symF (((p0 &&& 2147483647) / 49) % 7) f) 39 39 39 40 34 41 f 39 V141 (ge_new ha114 X0) (by decide) (by decide) (by decide) (by decide) (by decide) (by decide) lf (by decide)) (wd_11 hw) (wd_2 hw) (by decide) (by decide)) (fun _ _ _ q => q) (Or.inr fun _ _ q => Mv.keep q.2.1 (allS (Or.inr (Or.inl (by simp))) all0)) pd_14 rfl rfl rfl rfl (by decide) (by decide) fun v199 h200 q201 => ?_
        obtain ⟨rfl, K202, A203⟩ := q201
        show Go C Z n0 (fun v _ => v = some (.int 1)) [a111] h200 1 14 216 #[.val (.int p0), .val (.int p1), .val (.int p2), .val (.int p3), .val (.int f), .val (.int 1), .val (.int 39), .val (.int 34), .val (.int (p1 &&& 7)), .val (.int (p0 &&& 2147483647)), .val (.int (p2 &&& 2147483647)), .val (.int ((p0 &&& 2147483647) % 7)), .val (.int (((p0 &&& 2147483647) / 7) % 7)), .val (.int (((p0 &&& 2147483647) / 49) % 7)), .val (.int ((p2 &&& 2147483647) % 7)), .val (.int (((p2 &&& 2147483647) / 7) % 7)), .val (.int (((p2 &&& 2147483647) / 49) % 7)), .val (.ref a111), .unset, .unset, .unset] []
        refine g_goto o (pc := 216) at_216 (t := 391) (by decide) rfl ?_
        have q204 := (q198.keep K202 (allS (ge_new ha114 X0) all0))
        exact bl_391 hw hE hPL hcs hwd n0 o h200 q204 p0 p1 p2 p3 f 1 39 34 (p1 &&& 7) (p0 &&& 2147483647) (p2 &&& 2147483647) ((p0 &&& 2147483647) % 7) (((p0 &&& 2147483647) / 7) % 7) (((p0 &&& 2147483647) / 49) % 7) ((p2 &&& 2147483647) % 7) (((p2 &&& 2147483647) / 7) % 7) (((p2 &&& 2147483647) / 49) % 7) a111 kc113 39 39 39 40 34 41 f 39 zc fm Sc nzc Sf rf A203 (ge_new ha114 X0) lf (by decide) (by decide) (by decide) (by decide) (by decide) (by decide) lf (by decide) (by rw [hn145]; exact (kd_1b (op7_of (msk_nn p0)) (op7_of (div_nn (msk_nn p0) (by decide))) (op7_of (div_nn (msk_nn p0) (by decide))) (op7_of (msk_nn p2)) (op7_of (div_nn (msk_nn p2) (by decide))) (op7_of (div_nn (msk_nn p2) (by decide))) pf))
    · refine g_aload o (pc := 165) at_165 rfl rfl ?_
      refine g_iload o (pc := 167) at_167 rfl ?_
      refine g_bipush o (pc := 169) at_169 (v := 40) rfl ?_
      refine g_bipush o (pc := 171) at_171 (v := 58) rfl ?_
      refine g_bipush o (pc := 173) at_173 (v := 93) rfl ?_
      refine g_bipush o (pc := 175) at_175 (v := 125) rfl ?_
      refine g_iload o (pc := 177) at_177 rfl ?_
      refine g_iload o (pc := 179) at_179 rfl ?_
      refine g_iload o (pc := 181) at_181 rfl ?_
      have q205 := (q134.wr W139 (ge_new ha114 X0))
      refine g_static o (pc := 183) [(.ref a111), (.int 39), (.int 40), (.int 58), (.int 93), (.int 125), (.int f), (.int 34), (.int 39)] [] at_183 (wd_9 hw) (wd_10 hw) (wd_2 hw) (wd_11 hw) (by decide) (Met.back o (W := 0) (rm_put C.l Z a0 hw n0 h138 q205 a111 kc113 (symF ((p0 &&& 2147483647) % 7) f) (symF (((p0 &&& 2147483647) / 7) % 7) f) (symF (((p0 &&& 2147483647) / 49) % 7) f) 39 40 58 93 125 f 34 39 V141 (ge_new ha114 X0) (by decide) (by decide) (by decide) (by decide) (by decide) lf (by decide) (by decide)) (wd_11 hw) (wd_2 hw) (by decide) (by decide)) (fun _ _ _ q => q) (Or.inr fun _ _ q => Mv.keep q.2.1 (allS (Or.inr (Or.inl (by simp))) all0)) pd_14 rfl rfl rfl rfl (by decide) (by decide) fun v206 h207 q208 => ?_
      obtain ⟨rfl, K209, A210⟩ := q208
      show Go C Z n0 (fun v _ => v = some (.int 1)) [a111] h207 1 14 186 #[.val (.int p0), .val (.int p1), .val (.int p2), .val (.int p3), .val (.int f), .val (.int 1), .val (.int 39), .val (.int 34), .val (.int (p1 &&& 7)), .val (.int (p0 &&& 2147483647)), .val (.int (p2 &&& 2147483647)), .val (.int ((p0 &&& 2147483647) % 7)), .val (.int (((p0 &&& 2147483647) / 7) % 7)), .val (.int (((p0 &&& 2147483647) / 49) % 7)), .val (.int ((p2 &&& 2147483647) % 7)), .val (.int (((p2 &&& 2147483647) / 7) % 7)), .val (.int (((p2 &&& 2147483647) / 49) % 7)), .val (.ref a111), .unset, .unset, .unset] []
      refine g_goto o (pc := 186) at_186 (t := 391) (by decide) rfl ?_
      have q211 := (q205.keep K209 (allS (ge_new ha114 X0) all0))
      exact bl_391 hw hE hPL hcs hwd n0 o h207 q211 p0 p1 p2 p3 f 1 39 34 (p1 &&& 7) (p0 &&& 2147483647) (p2 &&& 2147483647) ((p0 &&& 2147483647) % 7) (((p0 &&& 2147483647) / 7) % 7) (((p0 &&& 2147483647) / 49) % 7) ((p2 &&& 2147483647) % 7) (((p2 &&& 2147483647) / 7) % 7) (((p2 &&& 2147483647) / 49) % 7) a111 kc113 39 40 58 93 125 f 34 39 zc fm Sc nzc Sf rf A210 (ge_new ha114 X0) lf (by decide) (by decide) (by decide) (by decide) (by decide) lf (by decide) (by decide) (by rw [hn143]; exact (kd_0b (op7_of (msk_nn p0)) (op7_of (div_nn (msk_nn p0) (by decide))) (op7_of (div_nn (msk_nn p0) (by decide))) (op7_of (msk_nn p2)) (op7_of (div_nn (msk_nn p2) (by decide))) (op7_of (div_nn (msk_nn p2) (by decide))) pf))
set_option maxRecDepth 65536 in
set_option maxHeartbeats 40000000 in
theorem comes_1 {Post : Tables → Env → Array Value → State → Outcome → State → Prop} (hpost : ∀ tb e args s v u, (limb_1_1.after args s (.returned v) u = true ∧ limb_1_2.after args s (.returned v) u = true ∧ True) → ReturnedEndW s (.returned v) u (Jvm.fieldLocs frame_1_writes args s ++ Jvm.arrayLocs frame_1_arrays args s ++ Jvm.staticLocs frame_1_statics s) 24 4288 → Post tb e args s (.returned v) u) :
    ArmFor flags0 classFile x code maxLocals ret World_1 tables_1 room_1 Calls_1 rest_1 Pre_1 Post := by
  intro l hfl _ _ p e ha hc hk s m args below hf hA hF happ hP
  obtain ⟨hcalls, hrest, hpre⟩ := hP
  obtain ⟨-, -, -, hnamed, -, -, -, hat⟩ := (Spec.applies_iff hf).mp happ
  obtain ⟨hg, hn⟩ := and_e (Cond.before_iff.mp (show (Jvm.Cond.and given_1 narrow_1).before args s = true from hpre))
  obtain ⟨h1, g0⟩ := and_e hg
  obtain ⟨f0, g1⟩ := and_e g0
  obtain ⟨f1, g2⟩ := and_e g1
  obtain ⟨f2, g3⟩ := and_e g2
  have f3 := g3
  obtain ⟨w0, w1, w2, w3, rfl⟩ : ∃ w0 w1 w2 w3 : Value, args = #[w0, w1, w2, w3] := by
    have hs : args.size = 4 := by simpa [Cond.value, given_1] using h1
    obtain ⟨L⟩ := args
    match L, hs with
    | [w0, w1, w2, w3], _ => exact ⟨w0, w1, w2, w3, rfl⟩
  have hw := fun d (hd : d ∈ tables_1) => atoms_spec (ws := Jvm.Cond.code x code maxLocals ret :: tables_1) hat d (List.mem_cons_of_mem _ hd)
  obtain ⟨hsets, hown0⟩ := atoms_of _ (rest_1_c_eq ▸ (show rest_1_c.before _ s = true from hrest))
  have hfit : Fit s := fun {y c} hc i hi => by
    obtain ⟨ha, rfl⟩ := Array.getElem?_eq_some_iff.mp hc
    have q := List.all_eq_true.mp ((Array.all_eq_true_iff_forall_mem.mp hF) _ (Array.getElem_mem ha)) i (List.mem_range.mpr hi)
    simpa [Array.getElem?_eq_getElem hi] using q
  obtain ⟨i0, e0⟩ := is_v f0
  obtain rfl : w0 = (.int i0) := Option.some.inj e0
  obtain ⟨i1, e1⟩ := is_v f1
  obtain rfl : w1 = (.int i1) := Option.some.inj e1
  obtain ⟨i2, e2⟩ := is_v f2
  obtain rfl : w2 = (.int i2) := Option.some.inj e2
  obtain ⟨i3, e3⟩ := is_v f3
  obtain rfl : w3 = (.int i3) := Option.some.inj e3
  have n5 := not_v (Cond.before_iff.mp (hsets _ (List.mem_of_getElem? (i := 2) rfl)))
  obtain ⟨zc, ezc⟩ := is_v (Cond.before_iff.mp (hsets _ (List.mem_of_getElem? (i := 1) rfl)))
  have Sc : Sta s s.heap "java/lang/String" "COMPACT_STRINGS" "Z" (.int zc) := Sta.start ezc (Or.inl (hsets _ (List.mem_of_getElem? (i := 0) rfl)))
  have nzc : ¬ (zc = (0 : Int32)) := gotF (Cond.eq_ints ezc (Term.int_eval (0))) n5
  obtain ⟨fm, efm, rf⟩ := isR_v (Cond.before_iff.mp (hsets _ (List.mem_of_getElem? (i := 8) rfl)))
  have Sf : Sta s s.heap "jdk/internal/util/Preconditions" "SIOOBE_FORMATTER" "Ljava/util/function/BiFunction;" fm := Sta.start efm (Or.inl (hsets _ (List.mem_of_getElem? (i := 7) rfl)))
  have hCH : CHv s consts_1 s.vm s.heap := CHv.start (ew_ hw) (fun p hp => hcalls.1 p hp) (hsets _ (List.mem_of_getElem? (i := 2) rfl)) (wd_30 hw) (wd_13 hw)
  obtain ⟨n, o, h1, h2, h3, _, L, rfl, ⟨rfl, N⟩, hqw, hqn⟩ := rm_law l s _ hw tables_1 s.heap.size s.heap (Old.start s) i0 i1 i2 i3 zc fm Sc nzc Sf rf hCH p e ha hc hk s m _ below hf ((Spec.applies_iff_loose hf).mp happ).1 ⟨rfl, State.Warmed39.refl s, rfl, rfl⟩ trivial
  obtain ⟨kk, nn, hq, hkk, hnn⟩ := hqw rfl
  refine ⟨n, _, h1, h2, h3, hpost _ _ _ _ _ _ ⟨Cond.after_iff.mpr rfl, Cond.after_iff.mpr (eq_i res_at (Term.int_eval (1)) rfl), trivial⟩ ⟨hq.1, hq.2.1, hq.2.2.1, (hq.2.2.2.sift fun y hy => Or.inr (N y hy)).mono (Nat.le_trans hkk (by decide)) (Nat.le_trans hnn (by decide))⟩⟩
theorem main_1_1 : Claimed_1_1 := comes_1 fun _ _ _ _ _ _ h hF => ⟨h.1, hF⟩
theorem main_1_2 : Claimed_1_2 := comes_1 fun _ _ _ _ _ _ h hF => ⟨h.2.1, hF⟩
end Jvm.Pilot.@@N@@
namespace Jvm.Pilot.@@N@@
open Jvm Jvm.ClassFile Sem Op Lib Jvm.Free Jvm.Stand Jvm.Pilot.@@N@@.Jvm.D
/-! MADE BY PROGRAM (witnessworld.py) out of the Statement's table words and the real class files: 21 classes; the members and pool entries that the words name. The judged class is class 1, her method 1. -/
namespace start1
open Jvm.ClassFile
def u (s : String) : CpInfo := .utf8 (stringToUtf16 s)
/-- a pool by its gaps: so many unusable entries, then the entry; so many at the end -/
def gap : Nat → List CpInfo → List CpInfo
  | 0, r => r
  | n + 1, r => .unusable :: gap n r
def poolList (es : List (Nat × CpInfo)) (last : Nat) : List CpInfo := es.foldr (fun e r => gap e.1 (e.2 :: r)) (gap last [])
def pool (es : List (Nat × CpInfo)) (last : Nat) : Array CpInfo := ⟨poolList es last⟩
def fileOf (pool : Array CpInfo) (this : Nat) (attrs : Array Attribute := #[]) (ms : Array MethodInfo := #[]) (fl : Nat := 33) (sup : Nat := 0) (ifs : Array Nat := #[]) (fds : Array FieldInfo := #[]) : ClassFile where
  minorVersion := 0
  majorVersion := 65
  constantPool := pool
  accessFlags := fl
  thisClass := this
  superClass := sup
  interfaces := ifs
  fields := fds
  methods := ms
  attributes := attrs
def plain (name : String) (sup : Option ClassId) : Class where
  name := name
  kind := .ordinary
  loader := none
  accessFlags := 33
  super := sup
  interfaces := #[]
  cf := none
  fields := #[]
  methods := #[]
  instanceTypes := #[]
  staticTypes := #[]
  resolved := #[]
  callSites := []
  init := .initialized
  statics := none
  mirror := none

def pool0 : Array CpInfo := pool [(5, u "<init>"), (0, u "()V"), (1, .class_ 10), (1, u "java/lang/Object")] 113

def k0c0 : Code := { maxStack := 0, maxLocals := 1, code := object_method_1_code, exceptionTable := #[], attributes := #[] }
def k0m0 : Method := { name := "<init>", desc := "()V", sig := { parameters := [], returnType := none }, accessFlags := 1, code := some k0c0 }
/-- java/lang/Object -/
def k0 : Class := { plain "java/lang/Object" none with
  accessFlags := 33
  interfaces := #[]
  cf := some (fileOf pool0 8 #[] #[{ accessFlags := 1, nameIndex := 5, descriptorIndex := 6, attributes := #[] }] 33 0 #[] #[])
  fields := #[]
  methods := #[k0m0]
  instanceTypes := #[]
  staticTypes := #[]
  resolved := Array.replicate 124 none
  statics := none }

def pool1 : Array CpInfo := pool [(2, .class_ 4), (1, u "java/lang/Object"), (0, u "<init>"), (0, u "()V"), (0, .methodref 8 9), (0, .class_ 10), (0, .nameAndType 11 12), (0, u "com/example/enact/enact/compiler/XPathTextNestingPinLaw"), (0, u "filler"), (0, u "(I)C"), (0, .integer 2147483647), (0, .methodref 8 15), (0, .nameAndType 16 17), (0, u "sym"), (0, u "(IC)C"), (0, .methodref 8 19), (0, .nameAndType 20 21), (0, u "put8"), (0, u "([CCCCCCCCC)V"), (0, .class_ 23), (0, u "java/lang/String"), (0, .methodref 22 25), (0, .nameAndType 5 26), (0, u "([C)V"), (0, .methodref 28 29), (0, .class_ 30), (0, .nameAndType 31 32), (0, u "com/example/enact/enact/compiler/XPathText"), (0, u "nesting"), (0, u "(Ljava/lang/String;)I"), (0, .methodref 8 34), (0, .nameAndType 35 36), (0, u "next"), (0, u "(II)I"), (0, .methodref 38 39), (0, .class_ 40), (0, .nameAndType 41 36), (0, u "java/lang/Math"), (0, u "max"), (2, u "law"), (0, u "(IIII)Z")] 5

def k1m0 : Method := { name := "<init>", desc := "()V", sig := { parameters := [], returnType := none }, accessFlags := 2, code := none }
def k1c1 : Code := { maxStack := 9, maxLocals := 21, code := code, exceptionTable := #[], attributes := #[] }
def k1m1 : Method := { name := "law", desc := "(IIII)Z", sig := { parameters := [.int, .int, .int, .int], returnType := some .boolean }, accessFlags := 9, code := some k1c1 }
def k1c2 : Code := { maxStack := 2, maxLocals := 2, code := method_3_code, exceptionTable := #[], attributes := #[] }
def k1m2 : Method := { name := "filler", desc := "(I)C", sig := { parameters := [.int], returnType := some .char }, accessFlags := 10, code := some k1c2 }
def k1c3 : Code := { maxStack := 2, maxLocals := 2, code := method_4_code, exceptionTable := #[], attributes := #[] }
def k1m3 : Method := { name := "sym", desc := "(IC)C", sig := { parameters := [.int, .char], returnType := some .char }, accessFlags := 10, code := some k1c3 }
def k1c4 : Code := { maxStack := 2, maxLocals := 2, code := method_5_code, exceptionTable := #[], attributes := #[] }
def k1m4 : Method := { name := "next", desc := "(II)I", sig := { parameters := [.int, .int], returnType := some .int }, accessFlags := 10, code := some k1c4 }
def k1c5 : Code := { maxStack := 3, maxLocals := 9, code := method_6_code, exceptionTable := #[], attributes := #[] }
def k1m5 : Method := { name := "put8", desc := "([CCCCCCCCC)V", sig := { parameters := [(.array .char), .char, .char, .char, .char, .char, .char, .char, .char], returnType := none }, accessFlags := 10, code := some k1c5 }
/-- com/example/enact/enact/compiler/XPathTextNestingPinLaw -/
def k1 : Class := { plain "com/example/enact/enact/compiler/XPathTextNestingPinLaw" (some 0) with
  accessFlags := 49
  interfaces := #[]
  cf := some (fileOf pool1 8 #[] #[{ accessFlags := 2, nameIndex := 5, descriptorIndex := 6, attributes := #[] }, { accessFlags := 9, nameIndex := 44, descriptorIndex := 45, attributes := #[] }, { accessFlags := 10, nameIndex := 11, descriptorIndex := 12, attributes := #[] }, { accessFlags := 10, nameIndex := 16, descriptorIndex := 17, attributes := #[] }, { accessFlags := 10, nameIndex := 35, descriptorIndex := 36, attributes := #[] }, { accessFlags := 10, nameIndex := 20, descriptorIndex := 21, attributes := #[] }] 49 2 #[] #[])
  fields := #[]
  methods := #[k1m0, k1m1, k1m2, k1m3, k1m4, k1m5]
  instanceTypes := #[]
  staticTypes := #[]
  resolved := Array.replicate 51 none
  statics := none }

def pool2 : Array CpInfo := pool [(1, .class_ 2), (0, u "java/io/Serializable"), (0, .class_ 4), (0, u "java/lang/Object")] 2

/-- java/io/Serializable -/
def k2 : Class := { plain "java/io/Serializable" (some 0) with
  accessFlags := 1537
  interfaces := #[]
  cf := some (fileOf pool2 1 #[] #[] 1537 3 #[] #[])
  fields := #[]
  methods := #[]
  instanceTypes := #[]
  staticTypes := #[]
  resolved := Array.replicate 7 none
  statics := none }

def pool3 : Array CpInfo := pool [(1, .class_ 2), (0, u "java/lang/Comparable"), (0, .class_ 4), (0, u "java/lang/Object")] 7

/-- java/lang/Comparable -/
def k3 : Class := { plain "java/lang/Comparable" (some 0) with
  accessFlags := 1537
  interfaces := #[]
  cf := some (fileOf pool3 1 #[] #[] 1537 3 #[] #[])
  fields := #[]
  methods := #[]
  instanceTypes := #[]
  staticTypes := #[]
  resolved := Array.replicate 12 none
  statics := none }

def pool4 : Array CpInfo := pool [(2, .class_ 4), (1, u "java/lang/CharSequence"), (42, .class_ 48), (0, u "java/lang/CharSequence$1CodePointIterator"), (10, .class_ 60), (0, u "java/lang/CharSequence$1CharIterator"), (5, .class_ 67), (0, u "java/lang/Object")] 63

/-- java/lang/CharSequence -/
def k4 : Class := { plain "java/lang/CharSequence" (some 0) with
  accessFlags := 1537
  interfaces := #[]
  cf := some (fileOf pool4 2 #[.nestMembers #[47, 59]] #[] 1537 66 #[] #[])
  fields := #[]
  methods := #[]
  instanceTypes := #[]
  staticTypes := #[]
  resolved := Array.replicate 131 none
  statics := none }

def pool5 : Array CpInfo := pool [(1, .class_ 2), (0, u "java/lang/constant/Constable"), (0, .class_ 4), (0, u "java/lang/Object")] 6

/-- java/lang/constant/Constable -/
def k5 : Class := { plain "java/lang/constant/Constable" (some 0) with
  accessFlags := 1537
  interfaces := #[]
  cf := some (fileOf pool5 1 #[] #[] 1537 3 #[] #[])
  fields := #[]
  methods := #[]
  instanceTypes := #[]
  staticTypes := #[]
  resolved := Array.replicate 11 none
  statics := none }

def pool6 : Array CpInfo := pool [(1, .class_ 2), (0, u "java/lang/constant/ConstantDesc"), (0, .class_ 4), (0, u "java/lang/Object")] 32

/-- java/lang/constant/ConstantDesc -/
def k6 : Class := { plain "java/lang/constant/ConstantDesc" (some 0) with
  accessFlags := 1537
  interfaces := #[]
  cf := some (fileOf pool6 1 #[] #[] 1537 3 #[] #[])
  fields := #[]
  methods := #[]
  instanceTypes := #[]
  staticTypes := #[]
  resolved := Array.replicate 37 none
  statics := none }

def pool7 : Array CpInfo := pool [(1, .methodref 2 3), (0, .class_ 4), (0, .nameAndType 5 6), (0, u "java/lang/Object"), (0, u "<init>"), (0, u "()V"), (2, .fieldref 10 11), (0, .class_ 12), (0, .nameAndType 13 14), (0, u "java/lang/String"), (0, u "value"), (0, u "[B"), (0, .fieldref 10 16), (0, .nameAndType 17 18), (0, u "coder"), (0, u "B"), (2, u "hash"), (0, u "I"), (2, u "hashIsZero"), (0, u "Z"), (0, .methodref 10 28), (0, .nameAndType 5 29), (0, u "([CIILjava/lang/Void;)V"), (8, .fieldref 10 39), (0, .nameAndType 40 26), (0, u "COMPACT_STRINGS"), (1, .class_ 44), (1, u "java/lang/StringUTF16"), (0, u "compress"), (1, .methodref 42 48), (0, .nameAndType 49 50), (0, u "coderFromArrayLen"), (0, u "([BI)B"), (56, .class_ 109), (1, u "java/lang/StringLatin1"), (32, u "()Z"), (34, .methodref 42 178), (0, .nameAndType 45 179), (0, u "([CII)[B"), (154, u "()I"), (0, .methodref 10 336), (0, .nameAndType 17 337), (0, u "()B"), (25, u "([BI)C"), (12, u "([BI[BII)I"), (14, u "(II)V"), (35, u "(I)C"), (64, .methodref 10 493), (0, .nameAndType 494 142), (0, u "isLatin1"), (0, .methodref 107 496), (0, .nameAndType 497 363), (0, u "charAt"), (3, u "checkIndex"), (3, .methodref 10 506), (0, .nameAndType 507 334), (0, u "length"), (51, .class_ 561), (1, u "jdk/internal/util/ArraysSupport"), (0, u "mismatch"), (12, .class_ 576), (0, u "java/lang/CharSequence"), (22, u "CASE_INSENSITIVE_ORDER"), (0, u "Ljava/util/Comparator;"), (6, .methodref 559 608), (0, .nameAndType 562 376), (17, u "startsWith"), (0, u "(Ljava/lang/String;I)Z"), (5, .methodref 10 634), (0, .nameAndType 635 636), (0, u "indexOf"), (0, u "(II)I"), (0, .methodref 107 638), (0, .nameAndType 635 639), (0, u "([BIII)I"), (125, u "(I)I"), (244, u "([C)V"), (42, .fieldref 1054 1055), (0, .class_ 1056), (0, .nameAndType 1057 1058), (0, u "jdk/internal/util/Preconditions"), (0, u "SIOOBE_FORMATTER"), (0, u "Ljava/util/function/BiFunction;"), (0, .methodref 1054 1060), (0, .nameAndType 501 1061), (0, u "(IILjava/util/function/BiFunction;)I"), (39, u "serialPersistentFields"), (0, u "[Ljava/io/ObjectStreamField;"), (0, .class_ 1104), (0, u "java/lang/String$CaseInsensitiveComparator"), (1, .class_ 1107), (0, u "java/io/Serializable"), (0, .class_ 1109), (0, u "java/lang/Comparable"), (0, .class_ 1111), (0, u "java/lang/constant/Constable"), (0, .class_ 1113), (0, u "java/lang/constant/ConstantDesc"), (2, u "serialVersionUID"), (0, u "J"), (3, u "REPL"), (0, u "C"), (2, u "LATIN1"), (1, u "UTF16")] 323

def k7m0 : Method := { name := "<init>", desc := "()V", sig := { parameters := [], returnType := none }, accessFlags := 1, code := none }
def k7c1 : Code := { maxStack := 5, maxLocals := 2, code := jdk_42_method_3_code, exceptionTable := #[], attributes := #[] }
def k7m1 : Method := { name := "<init>", desc := "([C)V", sig := { parameters := [(.array .char)], returnType := none }, accessFlags := 1, code := some k7c1 }
def k7c2 : Code := { maxStack := 2, maxLocals := 1, code := jdk_42_method_54_code, exceptionTable := #[], attributes := #[] }
def k7m2 : Method := { name := "length", desc := "()I", sig := { parameters := [], returnType := some .int }, accessFlags := 1, code := some k7c2 }
def k7c3 : Code := { maxStack := 2, maxLocals := 2, code := jdk_42_method_56_code, exceptionTable := #[], attributes := #[] }
def k7m3 : Method := { name := "charAt", desc := "(I)C", sig := { parameters := [.int], returnType := some .char }, accessFlags := 1, code := some k7c3 }
def k7c4 : Code := { maxStack := 5, maxLocals := 8, code := jdk_42_method_75_code, exceptionTable := #[], attributes := #[] }
def k7m4 : Method := { name := "startsWith", desc := "(Ljava/lang/String;I)Z", sig := { parameters := [(.object "java/lang/String"), .int], returnType := some .boolean }, accessFlags := 1, code := some k7c4 }
def k7c5 : Code := { maxStack := 3, maxLocals := 2, code := jdk_42_method_79_code, exceptionTable := #[], attributes := #[] }
def k7m5 : Method := { name := "indexOf", desc := "(I)I", sig := { parameters := [.int], returnType := some .int }, accessFlags := 1, code := some k7c5 }
def k7c6 : Code := { maxStack := 4, maxLocals := 3, code := jdk_42_method_80_code, exceptionTable := #[], attributes := #[] }
def k7m6 : Method := { name := "indexOf", desc := "(II)I", sig := { parameters := [.int, .int], returnType := some .int }, accessFlags := 1, code := some k7c6 }
def k7c7 : Code := { maxStack := 4, maxLocals := 6, code := jdk_42_method_149_code, exceptionTable := #[], attributes := #[] }
def k7m7 : Method := { name := "<init>", desc := "([CIILjava/lang/Void;)V", sig := { parameters := [(.array .char), .int, .int, (.object "java/lang/Void")], returnType := none }, accessFlags := 2, code := some k7c7 }
def k7c8 : Code := { maxStack := 1, maxLocals := 1, code := jdk_42_method_152_code, exceptionTable := #[], attributes := #[] }
def k7m8 : Method := { name := "coder", desc := "()B", sig := { parameters := [], returnType := some .byte }, accessFlags := 0, code := some k7c8 }
def k7c9 : Code := { maxStack := 1, maxLocals := 1, code := jdk_42_method_154_code, exceptionTable := #[], attributes := #[] }
def k7m9 : Method := { name := "isLatin1", desc := "()Z", sig := { parameters := [], returnType := some .boolean }, accessFlags := 0, code := some k7c9 }
def k7c10 : Code := { maxStack := 3, maxLocals := 2, code := jdk_42_method_155_code, exceptionTable := #[], attributes := #[] }
def k7m10 : Method := { name := "checkIndex", desc := "(II)V", sig := { parameters := [.int, .int], returnType := none }, accessFlags := 8, code := some k7c10 }
/-- java/lang/String -/
def k7 : Class := { plain "java/lang/String" (some 0) with
  accessFlags := 49
  interfaces := #[2, 3, 4, 5, 6]
  cf := some (fileOf pool7 10 #[.nestMembers #[1103]] #[{ accessFlags := 1, nameIndex := 5, descriptorIndex := 6, attributes := #[] }, { accessFlags := 1, nameIndex := 5, descriptorIndex := 1010, attributes := #[] }, { accessFlags := 1, nameIndex := 507, descriptorIndex := 334, attributes := #[] }, { accessFlags := 1, nameIndex := 497, descriptorIndex := 427, attributes := #[] }, { accessFlags := 1, nameIndex := 626, descriptorIndex := 627, attributes := #[] }, { accessFlags := 1, nameIndex := 635, descriptorIndex := 765, attributes := #[] }, { accessFlags := 1, nameIndex := 635, descriptorIndex := 636, attributes := #[] }, { accessFlags := 2, nameIndex := 5, descriptorIndex := 29, attributes := #[] }, { accessFlags := 0, nameIndex := 17, descriptorIndex := 337, attributes := #[] }, { accessFlags := 0, nameIndex := 494, descriptorIndex := 142, attributes := #[] }, { accessFlags := 8, nameIndex := 501, descriptorIndex := 391, attributes := #[] }] 49 2 #[1106, 1108, 575, 1110, 1112] #[{ accessFlags := 18, nameIndex := 13, descriptorIndex := 14, attributes := #[] }, { accessFlags := 18, nameIndex := 17, descriptorIndex := 18, attributes := #[] }, { accessFlags := 2, nameIndex := 21, descriptorIndex := 22, attributes := #[] }, { accessFlags := 2, nameIndex := 25, descriptorIndex := 26, attributes := #[] }, { accessFlags := 26, nameIndex := 1116, descriptorIndex := 1117, attributes := #[] }, { accessFlags := 24, nameIndex := 40, descriptorIndex := 26, attributes := #[] }, { accessFlags := 26, nameIndex := 1101, descriptorIndex := 1102, attributes := #[] }, { accessFlags := 26, nameIndex := 1121, descriptorIndex := 1122, attributes := #[] }, { accessFlags := 25, nameIndex := 599, descriptorIndex := 600, attributes := #[] }, { accessFlags := 24, nameIndex := 1125, descriptorIndex := 18, attributes := #[] }, { accessFlags := 24, nameIndex := 1127, descriptorIndex := 18, attributes := #[] }])
  fields := #[{ name := "value", type := (.array .byte), accessFlags := 18, slot := 0, constantValue := 0 }, { name := "coder", type := .byte, accessFlags := 18, slot := 1, constantValue := 0 }, { name := "hash", type := .int, accessFlags := 2, slot := 2, constantValue := 0 }, { name := "hashIsZero", type := .boolean, accessFlags := 2, slot := 3, constantValue := 0 }, { name := "serialVersionUID", type := .long, accessFlags := 26, slot := 0, constantValue := 0 }, { name := "COMPACT_STRINGS", type := .boolean, accessFlags := 24, slot := 1, constantValue := 0 }, { name := "serialPersistentFields", type := (.array (.object "java/io/ObjectStreamField")), accessFlags := 26, slot := 2, constantValue := 0 }, { name := "REPL", type := .char, accessFlags := 26, slot := 3, constantValue := 0 }, { name := "CASE_INSENSITIVE_ORDER", type := (.object "java/util/Comparator"), accessFlags := 25, slot := 4, constantValue := 0 }, { name := "LATIN1", type := .byte, accessFlags := 24, slot := 5, constantValue := 0 }, { name := "UTF16", type := .byte, accessFlags := 24, slot := 6, constantValue := 0 }]
  methods := #[k7m0, k7m1, k7m2, k7m3, k7m4, k7m5, k7m6, k7m7, k7m8, k7m9, k7m10]
  instanceTypes := #[(.array .byte), .byte, .int, .boolean]
  staticTypes := #[.long, .boolean, (.array (.object "java/io/ObjectStreamField")), .char, (.object "java/util/Comparator"), .byte, .byte]
  resolved := Array.replicate 1451 none
  statics := some 0 }

def pool8 : Array CpInfo := pool [(6, .class_ 8), (1, u "java/lang/Object"), (0, u "<init>"), (0, u "()V"), (1, .class_ 14), (1, u "java/lang/StringUTF16"), (31, u "$assertionsDisabled"), (0, u "Z"), (13, u "HI_BYTE_SHIFT"), (0, u "I"), (2, u "LO_BYTE_SHIFT"), (49, .methodref 12 116), (0, .nameAndType 117 118), (0, u "compress"), (0, u "([CI[BII)I"), (3, u "([CII)[B"), (138, u "coderFromArrayLen"), (0, u "([BI)B"), (106, .class_ 371), (1, u "java/lang/StringUTF16$LinesSpliterator"), (58, u "MAX_LENGTH"), (196, .class_ 628), (0, u "java/lang/StringUTF16$CodePointsSpliterator"), (0, .class_ 630), (0, u "java/lang/StringUTF16$CharsSpliterator")] 4

def k8m0 : Method := { name := "<init>", desc := "()V", sig := { parameters := [], returnType := none }, accessFlags := 0, code := none }
def k8c1 : Code := { maxStack := 2, maxLocals := 2, code := jdk_52_method_15_code, exceptionTable := #[], attributes := #[] }
def k8m1 : Method := { name := "coderFromArrayLen", desc := "([BI)B", sig := { parameters := [(.array .byte), .int], returnType := some .byte }, accessFlags := 8, code := some k8c1 }
def k8c2 : Code := { maxStack := 5, maxLocals := 6, code := jdk_52_method_16_code, exceptionTable := #[], attributes := #[] }
def k8m2 : Method := { name := "compress", desc := "([CII)[B", sig := { parameters := [(.array .char), .int, .int], returnType := some (.array .byte) }, accessFlags := 9, code := some k8c2 }
def k8c3 : Code := { maxStack := 3, maxLocals := 7, code := jdk_52_method_21_code, exceptionTable := #[], attributes := #[] }
def k8m3 : Method := { name := "compress", desc := "([CI[BII)I", sig := { parameters := [(.array .char), .int, (.array .byte), .int, .int], returnType := some .int }, accessFlags := 9, code := some k8c3 }
/-- java/lang/StringUTF16 -/
def k8 : Class := { plain "java/lang/StringUTF16" (some 0) with
  accessFlags := 48
  interfaces := #[]
  cf := some (fileOf pool8 12 #[.nestMembers #[627, 629, 369]] #[{ accessFlags := 0, nameIndex := 9, descriptorIndex := 10, attributes := #[] }, { accessFlags := 8, nameIndex := 261, descriptorIndex := 262, attributes := #[] }, { accessFlags := 9, nameIndex := 117, descriptorIndex := 122, attributes := #[] }, { accessFlags := 9, nameIndex := 117, descriptorIndex := 118, attributes := #[] }] 48 6 #[] #[{ accessFlags := 26, nameIndex := 61, descriptorIndex := 62, attributes := #[] }, { accessFlags := 26, nameIndex := 65, descriptorIndex := 62, attributes := #[] }, { accessFlags := 24, nameIndex := 430, descriptorIndex := 62, attributes := #[] }, { accessFlags := 4120, nameIndex := 46, descriptorIndex := 47, attributes := #[] }])
  fields := #[{ name := "HI_BYTE_SHIFT", type := .int, accessFlags := 26, slot := 0, constantValue := 0 }, { name := "LO_BYTE_SHIFT", type := .int, accessFlags := 26, slot := 1, constantValue := 0 }, { name := "MAX_LENGTH", type := .int, accessFlags := 24, slot := 2, constantValue := 0 }, { name := "$assertionsDisabled", type := .boolean, accessFlags := 4120, slot := 3, constantValue := 0 }]
  methods := #[k8m0, k8m1, k8m2, k8m3]
  instanceTypes := #[]
  staticTypes := #[.int, .int, .int, .boolean]
  resolved := Array.replicate 635 none
  statics := none }

def pool9 : Array CpInfo := pool [(2, .class_ 4), (1, u "java/lang/Object"), (0, u "<init>"), (0, u "()V"), (0, .methodref 8 9), (0, .class_ 10), (0, .nameAndType 11 12), (0, u "java/lang/String"), (0, u "length"), (0, u "()I"), (0, .methodref 8 14), (0, .nameAndType 15 16), (0, u "charAt"), (0, u "(I)C"), (0, .methodref 18 19), (0, .class_ 20), (0, .nameAndType 21 22), (0, u "com/example/enact/enact/compiler/XPathText"), (0, u "afterLiteralOrComment"), (0, u "(Ljava/lang/String;I)I"), (0, .string 24), (0, u "([{"), (0, .methodref 8 26), (0, .nameAndType 27 28), (0, u "indexOf"), (0, u "(I)I"), (0, .methodref 30 31), (0, .class_ 32), (0, .nameAndType 33 34), (0, u "java/lang/Math"), (0, u "max"), (0, u "(II)I"), (0, .string 36), (0, u ")]}"), (0, .methodref 18 38), (0, .nameAndType 39 22), (0, u "endOfLiteral"), (0, .string 41), (0, u "(:"), (0, .methodref 8 43), (0, .nameAndType 44 45), (0, u "startsWith"), (0, u "(Ljava/lang/String;I)Z"), (0, .methodref 18 47), (0, .nameAndType 48 22), (0, u "endOfComment"), (0, .string 50), (0, u ":)"), (0, u "OPENING"), (0, u "Ljava/lang/String;"), (1, u "CLOSING"), (2, u "nesting"), (0, u "(Ljava/lang/String;)I")] 3

def k9m0 : Method := { name := "<init>", desc := "()V", sig := { parameters := [], returnType := none }, accessFlags := 2, code := none }
def k9c1 : Code := { maxStack := 2, maxLocals := 6, code := prog_2_method_2_code, exceptionTable := #[], attributes := #[] }
def k9m1 : Method := { name := "nesting", desc := "(Ljava/lang/String;)I", sig := { parameters := [(.object "java/lang/String")], returnType := some .int }, accessFlags := 8, code := some k9c1 }
def k9c2 : Code := { maxStack := 3, maxLocals := 4, code := prog_2_method_3_code, exceptionTable := #[], attributes := #[] }
def k9m2 : Method := { name := "afterLiteralOrComment", desc := "(Ljava/lang/String;I)I", sig := { parameters := [(.object "java/lang/String"), .int], returnType := some .int }, accessFlags := 8, code := some k9c2 }
def k9c3 : Code := { maxStack := 3, maxLocals := 5, code := prog_2_method_4_code, exceptionTable := #[], attributes := #[] }
def k9m3 : Method := { name := "endOfLiteral", desc := "(Ljava/lang/String;I)I", sig := { parameters := [(.object "java/lang/String"), .int], returnType := some .int }, accessFlags := 10, code := some k9c3 }
def k9c4 : Code := { maxStack := 3, maxLocals := 4, code := prog_2_method_5_code, exceptionTable := #[], attributes := #[] }
def k9m4 : Method := { name := "endOfComment", desc := "(Ljava/lang/String;I)I", sig := { parameters := [(.object "java/lang/String"), .int], returnType := some .int }, accessFlags := 10, code := some k9c4 }
/-- com/example/enact/enact/compiler/XPathText -/
def k9 : Class := { plain "com/example/enact/enact/compiler/XPathText" (some 0) with
  accessFlags := 32
  interfaces := #[]
  cf := some (fileOf pool9 18 #[] #[{ accessFlags := 2, nameIndex := 5, descriptorIndex := 6, attributes := #[] }, { accessFlags := 8, nameIndex := 57, descriptorIndex := 58, attributes := #[] }, { accessFlags := 8, nameIndex := 21, descriptorIndex := 22, attributes := #[] }, { accessFlags := 10, nameIndex := 39, descriptorIndex := 22, attributes := #[] }, { accessFlags := 10, nameIndex := 48, descriptorIndex := 22, attributes := #[] }] 32 2 #[] #[{ accessFlags := 26, nameIndex := 51, descriptorIndex := 52, attributes := #[] }, { accessFlags := 26, nameIndex := 54, descriptorIndex := 52, attributes := #[] }])
  fields := #[{ name := "OPENING", type := (.object "java/lang/String"), accessFlags := 26, slot := 0, constantValue := 0 }, { name := "CLOSING", type := (.object "java/lang/String"), accessFlags := 26, slot := 1, constantValue := 0 }]
  methods := #[k9m0, k9m1, k9m2, k9m3, k9m4]
  instanceTypes := #[]
  staticTypes := #[(.object "java/lang/String"), (.object "java/lang/String")]
  resolved := Array.replicate 62 none
  statics := none }

def pool10 : Array CpInfo := pool [(1, .class_ 2), (0, u "java/lang/String"), (1, .class_ 6), (1, u "java/lang/Object"), (0, u "<init>"), (0, u "()V"), (0, .methodref 1 10), (0, .nameAndType 11 12), (0, u "checkIndex"), (0, u "(II)V"), (1, .class_ 16), (1, u "java/lang/StringLatin1"), (21, .methodref 39 40), (0, .class_ 41), (0, .nameAndType 42 43), (0, u "java/lang/Math"), (0, u "min"), (0, u "(II)I"), (9, u "([BI)C"), (34, .methodref 14 89), (0, .nameAndType 90 91), (0, u "canEncode"), (0, u "(I)Z"), (0, .methodref 39 93), (0, .nameAndType 94 43), (0, u "max"), (0, .methodref 14 96), (0, .nameAndType 97 98), (0, u "indexOfChar"), (0, u "([BIII)I"), (2, u "indexOf"), (19, u "$assertionsDisabled"), (0, u "Z"), (98, .class_ 223), (1, u "java/lang/StringLatin1$LinesSpliterator"), (28, u "charAt"), (137, .class_ 391), (0, u "java/lang/StringLatin1$CharsSpliterator")] 3

def k10m0 : Method := { name := "<init>", desc := "()V", sig := { parameters := [], returnType := none }, accessFlags := 0, code := none }
def k10c1 : Code := { maxStack := 2, maxLocals := 2, code := jdk_43_method_2_code, exceptionTable := #[], attributes := #[] }
def k10m1 : Method := { name := "charAt", desc := "([BI)C", sig := { parameters := [(.array .byte), .int], returnType := some .char }, accessFlags := 9, code := some k10c1 }
def k10c2 : Code := { maxStack := 2, maxLocals := 1, code := jdk_43_method_4_code, exceptionTable := #[], attributes := #[] }
def k10m2 : Method := { name := "canEncode", desc := "(I)Z", sig := { parameters := [.int], returnType := some .boolean }, accessFlags := 9, code := some k10c2 }
def k10c3 : Code := { maxStack := 4, maxLocals := 4, code := jdk_43_method_22_code, exceptionTable := #[], attributes := #[] }
def k10m3 : Method := { name := "indexOf", desc := "([BIII)I", sig := { parameters := [(.array .byte), .int, .int, .int], returnType := some .int }, accessFlags := 9, code := some k10c3 }
def k10c4 : Code := { maxStack := 2, maxLocals := 6, code := jdk_43_method_23_code, exceptionTable := #[], attributes := #[] }
def k10m4 : Method := { name := "indexOfChar", desc := "([BIII)I", sig := { parameters := [(.array .byte), .int, .int, .int], returnType := some .int }, accessFlags := 10, code := some k10c4 }
/-- java/lang/StringLatin1 -/
def k10 : Class := { plain "java/lang/StringLatin1" (some 0) with
  accessFlags := 48
  interfaces := #[]
  cf := some (fileOf pool10 14 #[.nestMembers #[390, 221]] #[{ accessFlags := 0, nameIndex := 7, descriptorIndex := 8, attributes := #[] }, { accessFlags := 9, nameIndex := 252, descriptorIndex := 53, attributes := #[] }, { accessFlags := 9, nameIndex := 90, descriptorIndex := 91, attributes := #[] }, { accessFlags := 9, nameIndex := 101, descriptorIndex := 98, attributes := #[] }, { accessFlags := 10, nameIndex := 97, descriptorIndex := 98, attributes := #[] }] 48 4 #[] #[{ accessFlags := 4120, nameIndex := 121, descriptorIndex := 122, attributes := #[] }])
  fields := #[{ name := "$assertionsDisabled", type := .boolean, accessFlags := 4120, slot := 0, constantValue := 0 }]
  methods := #[k10m0, k10m1, k10m2, k10m3, k10m4]
  instanceTypes := #[]
  staticTypes := #[.boolean]
  resolved := Array.replicate 395 none
  statics := none }

def pool11 : Array CpInfo := pool [(2, .class_ 4), (1, u "java/lang/Object"), (0, u "<init>"), (0, u "()V"), (17, .class_ 26), (1, u "jdk/internal/util/Preconditions"), (6, u "checkIndex"), (21, .class_ 56), (0, u "jdk/internal/util/Preconditions$4"), (57, .class_ 115), (0, u "jdk/internal/util/Preconditions$1"), (7, u "SIOOBE_FORMATTER"), (0, u "Ljava/util/function/BiFunction;"), (0, .class_ 126), (0, u "jdk/internal/util/Preconditions$2"), (3, u "AIOOBE_FORMATTER"), (0, .class_ 132), (0, u "jdk/internal/util/Preconditions$3"), (3, u "IOOBE_FORMATTER"), (41, u "(IILjava/util/function/BiFunction;)I")] 15

def k11m0 : Method := { name := "<init>", desc := "()V", sig := { parameters := [], returnType := none }, accessFlags := 1, code := none }
def k11c1 : Code := { maxStack := 3, maxLocals := 3, code := jdk_41_method_11_code, exceptionTable := #[], attributes := #[] }
def k11m1 : Method := { name := "checkIndex", desc := "(IILjava/util/function/BiFunction;)I", sig := { parameters := [.int, .int, (.object "java/util/function/BiFunction")], returnType := some .int }, accessFlags := 9, code := some k11c1 }
/-- jdk/internal/util/Preconditions -/
def k11 : Class := { plain "jdk/internal/util/Preconditions" (some 0) with
  accessFlags := 33
  interfaces := #[]
  cf := some (fileOf pool11 24 #[.nestMembers #[55, 131, 125, 114]] #[{ accessFlags := 1, nameIndex := 5, descriptorIndex := 6, attributes := #[] }, { accessFlags := 9, nameIndex := 33, descriptorIndex := 178, attributes := #[] }] 33 2 #[] #[{ accessFlags := 25, nameIndex := 123, descriptorIndex := 124, attributes := #[] }, { accessFlags := 25, nameIndex := 130, descriptorIndex := 124, attributes := #[] }, { accessFlags := 25, nameIndex := 136, descriptorIndex := 124, attributes := #[] }])
  fields := #[{ name := "SIOOBE_FORMATTER", type := (.object "java/util/function/BiFunction"), accessFlags := 25, slot := 0, constantValue := 0 }, { name := "AIOOBE_FORMATTER", type := (.object "java/util/function/BiFunction"), accessFlags := 25, slot := 1, constantValue := 0 }, { name := "IOOBE_FORMATTER", type := (.object "java/util/function/BiFunction"), accessFlags := 25, slot := 2, constantValue := 0 }]
  methods := #[k11m0, k11m1]
  instanceTypes := #[]
  staticTypes := #[(.object "java/util/function/BiFunction"), (.object "java/util/function/BiFunction"), (.object "java/util/function/BiFunction")]
  resolved := Array.replicate 194 none
  statics := some 1 }

def pool12 : Array CpInfo := pool [(9, u "<init>"), (6, .class_ 18), (1, u "java/lang/Object"), (0, u "()V"), (1, .class_ 23), (1, u "jdk/internal/util/ArraysSupport"), (0, u "LOG2_ARRAY_LONG_INDEX_SCALE"), (0, u "I"), (2, u "U"), (0, u "Ljdk/internal/misc/Unsafe;"), (8, u "BIG_ENDIAN"), (0, u "Z"), (8, u "LOG2_BYTE_BIT_SIZE"), (4, u "LOG2_ARRAY_INT_INDEX_SCALE"), (54, u "JLA"), (0, u "Ljdk/internal/access/JavaLangAccess;"), (11, u "LOG2_ARRAY_BOOLEAN_INDEX_SCALE"), (9, u "LOG2_ARRAY_BYTE_INDEX_SCALE"), (5, u "LOG2_ARRAY_CHAR_INDEX_SCALE"), (5, u "LOG2_ARRAY_SHORT_INDEX_SCALE"), (5, u "mismatch"), (12, u "LOG2_ARRAY_FLOAT_INDEX_SCALE"), (24, u "LOG2_ARRAY_DOUBLE_INDEX_SCALE"), (89, u "T_BOOLEAN"), (2, u "T_CHAR"), (1, u "T_FLOAT"), (1, u "T_DOUBLE"), (1, u "T_BYTE"), (1, u "T_SHORT"), (1, u "T_INT"), (1, u "T_LONG"), (1, u "SOFT_MAX_ARRAY_LENGTH"), (42, u "([BI[BII)I")] 40

def k12m0 : Method := { name := "<init>", desc := "()V", sig := { parameters := [], returnType := none }, accessFlags := 2, code := none }
def k12c1 : Code := { maxStack := 8, maxLocals := 8, code := jdk_48_method_14_code, exceptionTable := #[], attributes := #[] }
def k12m1 : Method := { name := "mismatch", desc := "([BI[BII)I", sig := { parameters := [(.array .byte), .int, (.array .byte), .int, .int], returnType := some .int }, accessFlags := 9, code := some k12c1 }
/-- jdk/internal/util/ArraysSupport -/
def k12 : Class := { plain "jdk/internal/util/ArraysSupport" (some 0) with
  accessFlags := 33
  interfaces := #[]
  cf := some (fileOf pool12 21 #[] #[{ accessFlags := 2, nameIndex := 9, descriptorIndex := 19, attributes := #[] }, { accessFlags := 9, nameIndex := 149, descriptorIndex := 337, attributes := #[] }] 33 16 #[] #[{ accessFlags := 24, nameIndex := 28, descriptorIndex := 29, attributes := #[] }, { accessFlags := 26, nameIndex := 38, descriptorIndex := 39, attributes := #[] }, { accessFlags := 25, nameIndex := 121, descriptorIndex := 25, attributes := #[] }, { accessFlags := 25, nameIndex := 131, descriptorIndex := 25, attributes := #[] }, { accessFlags := 25, nameIndex := 137, descriptorIndex := 25, attributes := #[] }, { accessFlags := 25, nameIndex := 143, descriptorIndex := 25, attributes := #[] }, { accessFlags := 25, nameIndex := 53, descriptorIndex := 25, attributes := #[] }, { accessFlags := 25, nameIndex := 24, descriptorIndex := 25, attributes := #[] }, { accessFlags := 25, nameIndex := 162, descriptorIndex := 25, attributes := #[] }, { accessFlags := 25, nameIndex := 187, descriptorIndex := 25, attributes := #[] }, { accessFlags := 26, nameIndex := 48, descriptorIndex := 25, attributes := #[] }, { accessFlags := 25, nameIndex := 277, descriptorIndex := 25, attributes := #[] }, { accessFlags := 25, nameIndex := 280, descriptorIndex := 25, attributes := #[] }, { accessFlags := 25, nameIndex := 282, descriptorIndex := 25, attributes := #[] }, { accessFlags := 25, nameIndex := 284, descriptorIndex := 25, attributes := #[] }, { accessFlags := 25, nameIndex := 286, descriptorIndex := 25, attributes := #[] }, { accessFlags := 25, nameIndex := 288, descriptorIndex := 25, attributes := #[] }, { accessFlags := 25, nameIndex := 290, descriptorIndex := 25, attributes := #[] }, { accessFlags := 25, nameIndex := 292, descriptorIndex := 25, attributes := #[] }, { accessFlags := 26, nameIndex := 108, descriptorIndex := 109, attributes := #[] }, { accessFlags := 25, nameIndex := 294, descriptorIndex := 25, attributes := #[] }])
  fields := #[{ name := "U", type := (.object "jdk/internal/misc/Unsafe"), accessFlags := 24, slot := 0, constantValue := 0 }, { name := "BIG_ENDIAN", type := .boolean, accessFlags := 26, slot := 1, constantValue := 0 }, { name := "LOG2_ARRAY_BOOLEAN_INDEX_SCALE", type := .int, accessFlags := 25, slot := 2, constantValue := 0 }, { name := "LOG2_ARRAY_BYTE_INDEX_SCALE", type := .int, accessFlags := 25, slot := 3, constantValue := 0 }, { name := "LOG2_ARRAY_CHAR_INDEX_SCALE", type := .int, accessFlags := 25, slot := 4, constantValue := 0 }, { name := "LOG2_ARRAY_SHORT_INDEX_SCALE", type := .int, accessFlags := 25, slot := 5, constantValue := 0 }, { name := "LOG2_ARRAY_INT_INDEX_SCALE", type := .int, accessFlags := 25, slot := 6, constantValue := 0 }, { name := "LOG2_ARRAY_LONG_INDEX_SCALE", type := .int, accessFlags := 25, slot := 7, constantValue := 0 }, { name := "LOG2_ARRAY_FLOAT_INDEX_SCALE", type := .int, accessFlags := 25, slot := 8, constantValue := 0 }, { name := "LOG2_ARRAY_DOUBLE_INDEX_SCALE", type := .int, accessFlags := 25, slot := 9, constantValue := 0 }, { name := "LOG2_BYTE_BIT_SIZE", type := .int, accessFlags := 26, slot := 10, constantValue := 0 }, { name := "T_BOOLEAN", type := .int, accessFlags := 25, slot := 11, constantValue := 0 }, { name := "T_CHAR", type := .int, accessFlags := 25, slot := 12, constantValue := 0 }, { name := "T_FLOAT", type := .int, accessFlags := 25, slot := 13, constantValue := 0 }, { name := "T_DOUBLE", type := .int, accessFlags := 25, slot := 14, constantValue := 0 }, { name := "T_BYTE", type := .int, accessFlags := 25, slot := 15, constantValue := 0 }, { name := "T_SHORT", type := .int, accessFlags := 25, slot := 16, constantValue := 0 }, { name := "T_INT", type := .int, accessFlags := 25, slot := 17, constantValue := 0 }, { name := "T_LONG", type := .int, accessFlags := 25, slot := 18, constantValue := 0 }, { name := "JLA", type := (.object "jdk/internal/access/JavaLangAccess"), accessFlags := 26, slot := 19, constantValue := 0 }, { name := "SOFT_MAX_ARRAY_LENGTH", type := .int, accessFlags := 25, slot := 20, constantValue := 0 }]
  methods := #[k12m0, k12m1]
  instanceTypes := #[]
  staticTypes := #[(.object "jdk/internal/misc/Unsafe"), .boolean, .int, .int, .int, .int, .int, .int, .int, .int, .int, .int, .int, .int, .int, .int, .int, .int, .int, (.object "jdk/internal/access/JavaLangAccess"), .int]
  resolved := Array.replicate 378 none
  statics := none }

def pool13 : Array CpInfo := pool [(1, .class_ 2), (0, u "java/lang/Math"), (1, .class_ 6), (1, u "java/lang/Object"), (0, u "<init>"), (0, u "()V"), (89, .class_ 100), (1, u "java/lang/Math$RandomNumberGeneratorHolder"), (71, u "negativeZeroFloatBits"), (0, u "J"), (2, u "negativeZeroDoubleBits"), (21, u "max"), (2, u "min"), (43, u "$assertionsDisabled"), (0, u "Z"), (88, u "(II)I"), (2, u "twoToTheDoubleScaleDown"), (0, u "D"), (4, u "twoToTheDoubleScaleUp"), (9, u "E"), (3, u "PI"), (2, u "TAU"), (2, u "DEGREES_TO_RADIANS"), (0, u "RADIANS_TO_DEGREES")] 94

def k13m0 : Method := { name := "<init>", desc := "()V", sig := { parameters := [], returnType := none }, accessFlags := 2, code := none }
def k13c1 : Code := { maxStack := 2, maxLocals := 2, code := jdk_29_method_65_code, exceptionTable := #[], attributes := #[] }
def k13m1 : Method := { name := "max", desc := "(II)I", sig := { parameters := [.int, .int], returnType := some .int }, accessFlags := 9, code := some k13c1 }
def k13c2 : Code := { maxStack := 2, maxLocals := 2, code := jdk_29_method_69_code, exceptionTable := #[], attributes := #[] }
def k13m2 : Method := { name := "min", desc := "(II)I", sig := { parameters := [.int, .int], returnType := some .int }, accessFlags := 9, code := some k13c2 }
/-- java/lang/Math -/
def k13 : Class := { plain "java/lang/Math" (some 0) with
  accessFlags := 49
  interfaces := #[]
  cf := some (fileOf pool13 1 #[.nestMembers #[98]] #[{ accessFlags := 2, nameIndex := 7, descriptorIndex := 8, attributes := #[] }, { accessFlags := 9, nameIndex := 198, descriptorIndex := 335, attributes := #[] }, { accessFlags := 9, nameIndex := 201, descriptorIndex := 335, attributes := #[] }] 49 4 #[] #[{ accessFlags := 25, nameIndex := 354, descriptorIndex := 339, attributes := #[] }, { accessFlags := 25, nameIndex := 358, descriptorIndex := 339, attributes := #[] }, { accessFlags := 25, nameIndex := 361, descriptorIndex := 339, attributes := #[] }, { accessFlags := 26, nameIndex := 364, descriptorIndex := 339, attributes := #[] }, { accessFlags := 26, nameIndex := 365, descriptorIndex := 339, attributes := #[] }, { accessFlags := 26, nameIndex := 172, descriptorIndex := 173, attributes := #[] }, { accessFlags := 26, nameIndex := 176, descriptorIndex := 173, attributes := #[] }, { accessFlags := 8, nameIndex := 344, descriptorIndex := 339, attributes := #[] }, { accessFlags := 8, nameIndex := 338, descriptorIndex := 339, attributes := #[] }, { accessFlags := 4120, nameIndex := 245, descriptorIndex := 246, attributes := #[] }])
  fields := #[{ name := "E", type := .double, accessFlags := 25, slot := 0, constantValue := 0 }, { name := "PI", type := .double, accessFlags := 25, slot := 1, constantValue := 0 }, { name := "TAU", type := .double, accessFlags := 25, slot := 2, constantValue := 0 }, { name := "DEGREES_TO_RADIANS", type := .double, accessFlags := 26, slot := 3, constantValue := 0 }, { name := "RADIANS_TO_DEGREES", type := .double, accessFlags := 26, slot := 4, constantValue := 0 }, { name := "negativeZeroFloatBits", type := .long, accessFlags := 26, slot := 5, constantValue := 0 }, { name := "negativeZeroDoubleBits", type := .long, accessFlags := 26, slot := 6, constantValue := 0 }, { name := "twoToTheDoubleScaleUp", type := .double, accessFlags := 8, slot := 7, constantValue := 0 }, { name := "twoToTheDoubleScaleDown", type := .double, accessFlags := 8, slot := 8, constantValue := 0 }, { name := "$assertionsDisabled", type := .boolean, accessFlags := 4120, slot := 9, constantValue := 0 }]
  methods := #[k13m0, k13m1, k13m2]
  instanceTypes := #[]
  staticTypes := #[.double, .double, .double, .double, .double, .long, .long, .double, .double, .boolean]
  resolved := Array.replicate 460 none
  statics := none }

def pool14 : Array CpInfo := pool [(1, u "java/lang/Cloneable"), (0, .class_ 1), (0, u "java/lang/Object"), (0, .class_ 3)] 3

/-- java/lang/Cloneable -/
def k14 : Class := { plain "java/lang/Cloneable" (some 0) with
  accessFlags := 1537
  interfaces := #[]
  cf := some (fileOf pool14 2 #[] #[] 1537 4 #[] #[])
  fields := #[]
  methods := #[]
  instanceTypes := #[]
  staticTypes := #[]
  resolved := Array.replicate 8 none
  statics := none }

/-- the primitive byte -/
def k15 : Class := { plain "byte" none with kind := .primitive 'B', accessFlags := 0x411 }
/-- [B -/
def k16 : Class := { plain "[B" (some 0) with kind := .array 15 .byte, interfaces := #[14, 2], accessFlags := 1041 }

/-- the primitive char -/
def k17 : Class := { plain "char" none with kind := .primitive 'C', accessFlags := 0x411 }
/-- [C -/
def k18 : Class := { plain "[C" (some 0) with kind := .array 17 .char, interfaces := #[14, 2], accessFlags := 1041 }

/-- the primitive int -/
def k19 : Class := { plain "int" none with kind := .primitive 'I', accessFlags := 0x411 }
/-- [I -/
def k20 : Class := { plain "[I" (some 0) with kind := .array 19 .int, interfaces := #[14, 2], accessFlags := 1041 }

def heap : Heap := #[{ cls := 7, slots := #[.long 0, .int 1, .null, .int 0, .null, .int 0, .int 0], vm := .statics 7 },
  { cls := 11, slots := #[.null, .null, .null], vm := .statics 11 }]
def classes : Array Class := #[k0, k1, k2, k3, k4, k5, k6, k7, k8, k9, k10, k11, k12, k13, k14, k15, k16, k17, k18, k19, k20]
def interned : List (Array UInt16 × Addr) := []
def slotsUsed : Nat := 10
def theMethod : MethodId := ⟨1, 1⟩
def args0 : Array Value := #[.int 5, .int 6, .int 7, .int 8]
def aboutOver (below : List Frame) : State where
  vm := { classes := classes, interned := interned.toArray }
  heap := heap
  slotsUsed := slotsUsed
  threads := #[{ frames := .invoking theMethod args0 :: below }]
def below0 : List Frame := [.native { method := ⟨0, 0⟩, args := #[] }]
def about1 : State := aboutOver below0
def p0 : Program := .bare "" "" ""
def e0 : Env := launch0.env 0 0 0
theorem w_frames : about1.frames = Frame.invoking theMethod args0 :: below0 := rfl
set_option maxRecDepth 65536 in
theorem w_args : argsFit about1.vm theMethod args0 = true := by decide +kernel
set_option maxRecDepth 65536 in
theorem w_heap : heapFits about1 = true := by decide +kernel
set_option maxRecDepth 65536 in
theorem w_runnable : about1.curStatus? = some .runnable := by decide +kernel
set_option maxRecDepth 65536 in
theorem w_alone : about1.alone = true := by decide +kernel
set_option maxRecDepth 65536 in
theorem w_named : about1.methodNamed? x = some theMethod := by decide +kernel
set_option maxRecDepth 65536 in
theorem w_hears : about1.hears theMethod below0 = true := by decide +kernel
set_option maxRecDepth 65536 in
theorem w_ripe : about1.ripe theMethod args0 below0 = true := by decide +kernel
theorem w_running : about1.status = .running := rfl
set_option maxRecDepth 65536 in
theorem w_room : about1.hasRoom e0.platform room_1 = true :=
  launch0.hasRoom_least _ room_1 (by decide +kernel) (by decide +kernel) (by decide +kernel) (by decide +kernel) (by decide +kernel) (by decide +kernel)
theorem allAtoms_all (ts : List Jvm.Cond) (a : Array Jvm.Value) (st : Jvm.State) : (allAtoms ts).before a st = ts.all (fun c => c.before a st) := by
  induction ts with
  | nil => rfl
  | cons c t ih =>
    show (Jvm.Cond.and c (allAtoms t)).before a st = _
    rw [Jvm.Cond.before_and, ih, List.all_cons]
def words1 : List Jvm.Cond := Jvm.Cond.code x code maxLocals ret :: tables_1
/-- a 'code' word, met by the world's own term for the bytes: nothing is compared byte by byte -/
theorem code_word {y : MethodName} {bytes : ByteArray} {mx : Nat} {rt : Option FieldType} {a : Array Value} {s : State} {m : MethodId} {meth : Method} {c : Code} (h1 : s.methodNamed? y = some m) (h2 : s.vm.method? m = some meth) (h3 : meth.code = some c) (h4 : c.code = bytes)
    (h5 : (c.maxLocals == mx && c.exceptionTable.isEmpty && decide (c.maxStack ≤ mostOperands) && decide (meth.sig.returnType = rt) && !meth.locks && decide (parseMethodDescriptor y.desc = some meth.sig)) = true) : (Jvm.Cond.code y bytes mx rt).before a s = true := by
  simp only [Bool.and_eq_true, beq_iff_eq, Bool.not_eq_true', decide_eq_true_eq] at h5
  obtain ⟨⟨⟨⟨⟨g1, g2⟩, g3⟩, g4⟩, g5⟩, g6⟩ := h5
  simp [Cond.before, Cond.holds, Cond.value, h1, h2, h3, h4, g1, g2, g3, g4, g5, g6]
def isCode : Jvm.Cond → Bool
  | .code _ _ _ _ => true
  | _ => false
theorem all_split {L : List Jvm.Cond} {P : Jvm.Cond → Bool} (h1 : L.all (fun c => isCode c || P c) = true) (h2 : ∀ c ∈ L.filter isCode, P c = true) : L.all P = true := by
  refine List.all_eq_true.mpr fun c hc => ?_
  have h := List.all_eq_true.mp h1 c hc
  rcases Bool.eq_false_or_eq_true (isCode c) with hi | hi
  · exact h2 c (List.mem_filter.mpr ⟨hc, hi⟩)
  · simpa [hi] using h
set_option maxRecDepth 65536 in
theorem w_c0 : (Jvm.Cond.code x code maxLocals ret).before args0 about1 = true := code_word (m := ⟨1, 1⟩) (meth := k1m1) (c := k1c1) (by decide +kernel) rfl rfl rfl (by decide +kernel)
set_option maxRecDepth 65536 in
theorem w_c1 : (Jvm.Cond.code ({ cls := "com/example/enact/enact/compiler/XPathTextNestingPinLaw", name := "filler", desc := "(I)C" } : Jvm.MethodName) method_3_code (2 : Nat) (Option.some Jvm.ClassFile.FieldType.char)).before args0 about1 = true := code_word (m := ⟨1, 2⟩) (meth := k1m2) (c := k1c2) (by decide +kernel) rfl rfl rfl (by decide +kernel)
set_option maxRecDepth 65536 in
theorem w_c2 : (Jvm.Cond.code ({ cls := "com/example/enact/enact/compiler/XPathTextNestingPinLaw", name := "sym", desc := "(IC)C" } : Jvm.MethodName) method_4_code (2 : Nat) (Option.some Jvm.ClassFile.FieldType.char)).before args0 about1 = true := code_word (m := ⟨1, 3⟩) (meth := k1m3) (c := k1c3) (by decide +kernel) rfl rfl rfl (by decide +kernel)
set_option maxRecDepth 65536 in
theorem w_c3 : (Jvm.Cond.code ({ cls := "com/example/enact/enact/compiler/XPathTextNestingPinLaw", name := "put8", desc := "([CCCCCCCCC)V" } : Jvm.MethodName) method_6_code (9 : Nat) (Option.none : Option Jvm.ClassFile.FieldType)).before args0 about1 = true := code_word (m := ⟨1, 5⟩) (meth := k1m5) (c := k1c5) (by decide +kernel) rfl rfl rfl (by decide +kernel)
set_option maxRecDepth 65536 in
theorem w_c4 : (Jvm.Cond.code ({ cls := "java/lang/String", name := "<init>", desc := "([C)V" } : Jvm.MethodName) jdk_42_method_3_code (2 : Nat) (Option.none : Option Jvm.ClassFile.FieldType)).before args0 about1 = true := code_word (m := ⟨7, 1⟩) (meth := k7m1) (c := k7c1) (by decide +kernel) rfl rfl rfl (by decide +kernel)
set_option maxRecDepth 65536 in
theorem w_c5 : (Jvm.Cond.code ({ cls := "java/lang/String", name := "<init>", desc := "([CIILjava/lang/Void;)V" } : Jvm.MethodName) jdk_42_method_149_code (6 : Nat) (Option.none : Option Jvm.ClassFile.FieldType)).before args0 about1 = true := code_word (m := ⟨7, 7⟩) (meth := k7m7) (c := k7c7) (by decide +kernel) rfl rfl rfl (by decide +kernel)
set_option maxRecDepth 65536 in
theorem w_c6 : (Jvm.Cond.code ({ cls := "java/lang/Object", name := "<init>", desc := "()V" } : Jvm.MethodName) object_method_1_code (1 : Nat) (Option.none : Option Jvm.ClassFile.FieldType)).before args0 about1 = true := code_word (m := ⟨0, 0⟩) (meth := k0m0) (c := k0c0) (by decide +kernel) rfl rfl rfl (by decide +kernel)
set_option maxRecDepth 65536 in
theorem w_c7 : (Jvm.Cond.code ({ cls := "java/lang/StringUTF16", name := "compress", desc := "([CII)[B" } : Jvm.MethodName) jdk_52_method_16_code (6 : Nat) (Option.some (Jvm.ClassFile.FieldType.array Jvm.ClassFile.FieldType.byte))).before args0 about1 = true := code_word (m := ⟨8, 2⟩) (meth := k8m2) (c := k8c2) (by decide +kernel) rfl rfl rfl (by decide +kernel)
set_option maxRecDepth 65536 in
theorem w_c8 : (Jvm.Cond.code ({ cls := "java/lang/StringUTF16", name := "compress", desc := "([CI[BII)I" } : Jvm.MethodName) jdk_52_method_21_code (7 : Nat) (Option.some Jvm.ClassFile.FieldType.int)).before args0 about1 = true := code_word (m := ⟨8, 3⟩) (meth := k8m3) (c := k8c3) (by decide +kernel) rfl rfl rfl (by decide +kernel)
set_option maxRecDepth 65536 in
theorem w_c9 : (Jvm.Cond.code ({ cls := "java/lang/StringUTF16", name := "coderFromArrayLen", desc := "([BI)B" } : Jvm.MethodName) jdk_52_method_15_code (2 : Nat) (Option.some Jvm.ClassFile.FieldType.byte)).before args0 about1 = true := code_word (m := ⟨8, 1⟩) (meth := k8m1) (c := k8c1) (by decide +kernel) rfl rfl rfl (by decide +kernel)
set_option maxRecDepth 65536 in
theorem w_c10 : (Jvm.Cond.code ({ cls := "com/example/enact/enact/compiler/XPathText", name := "nesting", desc := "(Ljava/lang/String;)I" } : Jvm.MethodName) prog_2_method_2_code (6 : Nat) (Option.some Jvm.ClassFile.FieldType.int)).before args0 about1 = true := code_word (m := ⟨9, 1⟩) (meth := k9m1) (c := k9c1) (by decide +kernel) rfl rfl rfl (by decide +kernel)
set_option maxRecDepth 65536 in
theorem w_c11 : (Jvm.Cond.code ({ cls := "java/lang/String", name := "length", desc := "()I" } : Jvm.MethodName) jdk_42_method_54_code (1 : Nat) (Option.some Jvm.ClassFile.FieldType.int)).before args0 about1 = true := code_word (m := ⟨7, 2⟩) (meth := k7m2) (c := k7c2) (by decide +kernel) rfl rfl rfl (by decide +kernel)
set_option maxRecDepth 65536 in
theorem w_c12 : (Jvm.Cond.code ({ cls := "java/lang/String", name := "coder", desc := "()B" } : Jvm.MethodName) jdk_42_method_152_code (1 : Nat) (Option.some Jvm.ClassFile.FieldType.byte)).before args0 about1 = true := code_word (m := ⟨7, 8⟩) (meth := k7m8) (c := k7c8) (by decide +kernel) rfl rfl rfl (by decide +kernel)
set_option maxRecDepth 65536 in
theorem w_c13 : (Jvm.Cond.code ({ cls := "java/lang/String", name := "charAt", desc := "(I)C" } : Jvm.MethodName) jdk_42_method_56_code (2 : Nat) (Option.some Jvm.ClassFile.FieldType.char)).before args0 about1 = true := code_word (m := ⟨7, 3⟩) (meth := k7m3) (c := k7c3) (by decide +kernel) rfl rfl rfl (by decide +kernel)
set_option maxRecDepth 65536 in
theorem w_c14 : (Jvm.Cond.code ({ cls := "java/lang/String", name := "isLatin1", desc := "()Z" } : Jvm.MethodName) jdk_42_method_154_code (1 : Nat) (Option.some Jvm.ClassFile.FieldType.boolean)).before args0 about1 = true := code_word (m := ⟨7, 9⟩) (meth := k7m9) (c := k7c9) (by decide +kernel) rfl rfl rfl (by decide +kernel)
set_option maxRecDepth 65536 in
theorem w_c15 : (Jvm.Cond.code ({ cls := "java/lang/StringLatin1", name := "charAt", desc := "([BI)C" } : Jvm.MethodName) jdk_43_method_2_code (2 : Nat) (Option.some Jvm.ClassFile.FieldType.char)).before args0 about1 = true := code_word (m := ⟨10, 1⟩) (meth := k10m1) (c := k10c1) (by decide +kernel) rfl rfl rfl (by decide +kernel)
set_option maxRecDepth 65536 in
theorem w_c16 : (Jvm.Cond.code ({ cls := "java/lang/String", name := "checkIndex", desc := "(II)V" } : Jvm.MethodName) jdk_42_method_155_code (2 : Nat) (Option.none : Option Jvm.ClassFile.FieldType)).before args0 about1 = true := code_word (m := ⟨7, 10⟩) (meth := k7m10) (c := k7c10) (by decide +kernel) rfl rfl rfl (by decide +kernel)
set_option maxRecDepth 65536 in
theorem w_c17 : (Jvm.Cond.code ({ cls := "jdk/internal/util/Preconditions", name := "checkIndex", desc := "(IILjava/util/function/BiFunction;)I" } : Jvm.MethodName) jdk_41_method_11_code (3 : Nat) (Option.some Jvm.ClassFile.FieldType.int)).before args0 about1 = true := code_word (m := ⟨11, 1⟩) (meth := k11m1) (c := k11c1) (by decide +kernel) rfl rfl rfl (by decide +kernel)
set_option maxRecDepth 65536 in
theorem w_c18 : (Jvm.Cond.code ({ cls := "com/example/enact/enact/compiler/XPathText", name := "afterLiteralOrComment", desc := "(Ljava/lang/String;I)I" } : Jvm.MethodName) prog_2_method_3_code (4 : Nat) (Option.some Jvm.ClassFile.FieldType.int)).before args0 about1 = true := code_word (m := ⟨9, 2⟩) (meth := k9m2) (c := k9c2) (by decide +kernel) rfl rfl rfl (by decide +kernel)
set_option maxRecDepth 65536 in
theorem w_c19 : (Jvm.Cond.code ({ cls := "java/lang/String", name := "startsWith", desc := "(Ljava/lang/String;I)Z" } : Jvm.MethodName) jdk_42_method_75_code (8 : Nat) (Option.some Jvm.ClassFile.FieldType.boolean)).before args0 about1 = true := code_word (m := ⟨7, 4⟩) (meth := k7m4) (c := k7c4) (by decide +kernel) rfl rfl rfl (by decide +kernel)
set_option maxRecDepth 65536 in
theorem w_c20 : (Jvm.Cond.code ({ cls := "jdk/internal/util/ArraysSupport", name := "mismatch", desc := "([BI[BII)I" } : Jvm.MethodName) jdk_48_method_14_code (8 : Nat) (Option.some Jvm.ClassFile.FieldType.int)).before args0 about1 = true := code_word (m := ⟨12, 1⟩) (meth := k12m1) (c := k12c1) (by decide +kernel) rfl rfl rfl (by decide +kernel)
set_option maxRecDepth 65536 in
theorem w_c21 : (Jvm.Cond.code ({ cls := "java/lang/String", name := "indexOf", desc := "(I)I" } : Jvm.MethodName) jdk_42_method_79_code (2 : Nat) (Option.some Jvm.ClassFile.FieldType.int)).before args0 about1 = true := code_word (m := ⟨7, 5⟩) (meth := k7m5) (c := k7c5) (by decide +kernel) rfl rfl rfl (by decide +kernel)
set_option maxRecDepth 65536 in
theorem w_c22 : (Jvm.Cond.code ({ cls := "java/lang/String", name := "indexOf", desc := "(II)I" } : Jvm.MethodName) jdk_42_method_80_code (3 : Nat) (Option.some Jvm.ClassFile.FieldType.int)).before args0 about1 = true := code_word (m := ⟨7, 6⟩) (meth := k7m6) (c := k7c6) (by decide +kernel) rfl rfl rfl (by decide +kernel)
set_option maxRecDepth 65536 in
theorem w_c23 : (Jvm.Cond.code ({ cls := "java/lang/StringLatin1", name := "indexOf", desc := "([BIII)I" } : Jvm.MethodName) jdk_43_method_22_code (4 : Nat) (Option.some Jvm.ClassFile.FieldType.int)).before args0 about1 = true := code_word (m := ⟨10, 3⟩) (meth := k10m3) (c := k10c3) (by decide +kernel) rfl rfl rfl (by decide +kernel)
set_option maxRecDepth 65536 in
theorem w_c24 : (Jvm.Cond.code ({ cls := "java/lang/StringLatin1", name := "canEncode", desc := "(I)Z" } : Jvm.MethodName) jdk_43_method_4_code (1 : Nat) (Option.some Jvm.ClassFile.FieldType.boolean)).before args0 about1 = true := code_word (m := ⟨10, 2⟩) (meth := k10m2) (c := k10c2) (by decide +kernel) rfl rfl rfl (by decide +kernel)
set_option maxRecDepth 65536 in
theorem w_c25 : (Jvm.Cond.code ({ cls := "java/lang/Math", name := "max", desc := "(II)I" } : Jvm.MethodName) jdk_29_method_65_code (2 : Nat) (Option.some Jvm.ClassFile.FieldType.int)).before args0 about1 = true := code_word (m := ⟨13, 1⟩) (meth := k13m1) (c := k13c1) (by decide +kernel) rfl rfl rfl (by decide +kernel)
set_option maxRecDepth 65536 in
theorem w_c26 : (Jvm.Cond.code ({ cls := "java/lang/Math", name := "min", desc := "(II)I" } : Jvm.MethodName) jdk_29_method_69_code (2 : Nat) (Option.some Jvm.ClassFile.FieldType.int)).before args0 about1 = true := code_word (m := ⟨13, 2⟩) (meth := k13m2) (c := k13c2) (by decide +kernel) rfl rfl rfl (by decide +kernel)
set_option maxRecDepth 65536 in
theorem w_c27 : (Jvm.Cond.code ({ cls := "java/lang/StringLatin1", name := "indexOfChar", desc := "([BIII)I" } : Jvm.MethodName) jdk_43_method_23_code (6 : Nat) (Option.some Jvm.ClassFile.FieldType.int)).before args0 about1 = true := code_word (m := ⟨10, 4⟩) (meth := k10m4) (c := k10c4) (by decide +kernel) rfl rfl rfl (by decide +kernel)
set_option maxRecDepth 65536 in
theorem w_c28 : (Jvm.Cond.code ({ cls := "com/example/enact/enact/compiler/XPathText", name := "endOfComment", desc := "(Ljava/lang/String;I)I" } : Jvm.MethodName) prog_2_method_5_code (4 : Nat) (Option.some Jvm.ClassFile.FieldType.int)).before args0 about1 = true := code_word (m := ⟨9, 4⟩) (meth := k9m4) (c := k9c4) (by decide +kernel) rfl rfl rfl (by decide +kernel)
set_option maxRecDepth 65536 in
theorem w_c29 : (Jvm.Cond.code ({ cls := "com/example/enact/enact/compiler/XPathTextNestingPinLaw", name := "next", desc := "(II)I" } : Jvm.MethodName) method_5_code (2 : Nat) (Option.some Jvm.ClassFile.FieldType.int)).before args0 about1 = true := code_word (m := ⟨1, 4⟩) (meth := k1m4) (c := k1c4) (by decide +kernel) rfl rfl rfl (by decide +kernel)
set_option maxRecDepth 65536 in
theorem w_c30 : (Jvm.Cond.code ({ cls := "com/example/enact/enact/compiler/XPathText", name := "endOfLiteral", desc := "(Ljava/lang/String;I)I" } : Jvm.MethodName) prog_2_method_4_code (5 : Nat) (Option.some Jvm.ClassFile.FieldType.int)).before args0 about1 = true := code_word (m := ⟨9, 3⟩) (meth := k9m3) (c := k9c3) (by decide +kernel) rfl rfl rfl (by decide +kernel)
def codes1 : List Jvm.Cond := [Jvm.Cond.code x code maxLocals ret, Jvm.Cond.code ({ cls := "com/example/enact/enact/compiler/XPathTextNestingPinLaw", name := "filler", desc := "(I)C" } : Jvm.MethodName) method_3_code (2 : Nat) (Option.some Jvm.ClassFile.FieldType.char), Jvm.Cond.code ({ cls := "com/example/enact/enact/compiler/XPathTextNestingPinLaw", name := "sym", desc := "(IC)C" } : Jvm.MethodName) method_4_code (2 : Nat) (Option.some Jvm.ClassFile.FieldType.char), Jvm.Cond.code ({ cls := "com/example/enact/enact/compiler/XPathTextNestingPinLaw", name := "put8", desc := "([CCCCCCCCC)V" } : Jvm.MethodName) method_6_code (9 : Nat) (Option.none : Option Jvm.ClassFile.FieldType), Jvm.Cond.code ({ cls := "java/lang/String", name := "<init>", desc := "([C)V" } : Jvm.MethodName) jdk_42_method_3_code (2 : Nat) (Option.none : Option Jvm.ClassFile.FieldType), Jvm.Cond.code ({ cls := "java/lang/String", name := "<init>", desc := "([CIILjava/lang/Void;)V" } : Jvm.MethodName) jdk_42_method_149_code (6 : Nat) (Option.none : Option Jvm.ClassFile.FieldType), Jvm.Cond.code ({ cls := "java/lang/Object", name := "<init>", desc := "()V" } : Jvm.MethodName) object_method_1_code (1 : Nat) (Option.none : Option Jvm.ClassFile.FieldType), Jvm.Cond.code ({ cls := "java/lang/StringUTF16", name := "compress", desc := "([CII)[B" } : Jvm.MethodName) jdk_52_method_16_code (6 : Nat) (Option.some (Jvm.ClassFile.FieldType.array Jvm.ClassFile.FieldType.byte)), Jvm.Cond.code ({ cls := "java/lang/StringUTF16", name := "compress", desc := "([CI[BII)I" } : Jvm.MethodName) jdk_52_method_21_code (7 : Nat) (Option.some Jvm.ClassFile.FieldType.int), Jvm.Cond.code ({ cls := "java/lang/StringUTF16", name := "coderFromArrayLen", desc := "([BI)B" } : Jvm.MethodName) jdk_52_method_15_code (2 : Nat) (Option.some Jvm.ClassFile.FieldType.byte), Jvm.Cond.code ({ cls := "com/example/enact/enact/compiler/XPathText", name := "nesting", desc := "(Ljava/lang/String;)I" } : Jvm.MethodName) prog_2_method_2_code (6 : Nat) (Option.some Jvm.ClassFile.FieldType.int), Jvm.Cond.code ({ cls := "java/lang/String", name := "length", desc := "()I" } : Jvm.MethodName) jdk_42_method_54_code (1 : Nat) (Option.some Jvm.ClassFile.FieldType.int), Jvm.Cond.code ({ cls := "java/lang/String", name := "coder", desc := "()B" } : Jvm.MethodName) jdk_42_method_152_code (1 : Nat) (Option.some Jvm.ClassFile.FieldType.byte), Jvm.Cond.code ({ cls := "java/lang/String", name := "charAt", desc := "(I)C" } : Jvm.MethodName) jdk_42_method_56_code (2 : Nat) (Option.some Jvm.ClassFile.FieldType.char), Jvm.Cond.code ({ cls := "java/lang/String", name := "isLatin1", desc := "()Z" } : Jvm.MethodName) jdk_42_method_154_code (1 : Nat) (Option.some Jvm.ClassFile.FieldType.boolean), Jvm.Cond.code ({ cls := "java/lang/StringLatin1", name := "charAt", desc := "([BI)C" } : Jvm.MethodName) jdk_43_method_2_code (2 : Nat) (Option.some Jvm.ClassFile.FieldType.char), Jvm.Cond.code ({ cls := "java/lang/String", name := "checkIndex", desc := "(II)V" } : Jvm.MethodName) jdk_42_method_155_code (2 : Nat) (Option.none : Option Jvm.ClassFile.FieldType), Jvm.Cond.code ({ cls := "jdk/internal/util/Preconditions", name := "checkIndex", desc := "(IILjava/util/function/BiFunction;)I" } : Jvm.MethodName) jdk_41_method_11_code (3 : Nat) (Option.some Jvm.ClassFile.FieldType.int), Jvm.Cond.code ({ cls := "com/example/enact/enact/compiler/XPathText", name := "afterLiteralOrComment", desc := "(Ljava/lang/String;I)I" } : Jvm.MethodName) prog_2_method_3_code (4 : Nat) (Option.some Jvm.ClassFile.FieldType.int), Jvm.Cond.code ({ cls := "java/lang/String", name := "startsWith", desc := "(Ljava/lang/String;I)Z" } : Jvm.MethodName) jdk_42_method_75_code (8 : Nat) (Option.some Jvm.ClassFile.FieldType.boolean), Jvm.Cond.code ({ cls := "jdk/internal/util/ArraysSupport", name := "mismatch", desc := "([BI[BII)I" } : Jvm.MethodName) jdk_48_method_14_code (8 : Nat) (Option.some Jvm.ClassFile.FieldType.int), Jvm.Cond.code ({ cls := "java/lang/String", name := "indexOf", desc := "(I)I" } : Jvm.MethodName) jdk_42_method_79_code (2 : Nat) (Option.some Jvm.ClassFile.FieldType.int), Jvm.Cond.code ({ cls := "java/lang/String", name := "indexOf", desc := "(II)I" } : Jvm.MethodName) jdk_42_method_80_code (3 : Nat) (Option.some Jvm.ClassFile.FieldType.int), Jvm.Cond.code ({ cls := "java/lang/StringLatin1", name := "indexOf", desc := "([BIII)I" } : Jvm.MethodName) jdk_43_method_22_code (4 : Nat) (Option.some Jvm.ClassFile.FieldType.int), Jvm.Cond.code ({ cls := "java/lang/StringLatin1", name := "canEncode", desc := "(I)Z" } : Jvm.MethodName) jdk_43_method_4_code (1 : Nat) (Option.some Jvm.ClassFile.FieldType.boolean), Jvm.Cond.code ({ cls := "java/lang/Math", name := "max", desc := "(II)I" } : Jvm.MethodName) jdk_29_method_65_code (2 : Nat) (Option.some Jvm.ClassFile.FieldType.int), Jvm.Cond.code ({ cls := "java/lang/Math", name := "min", desc := "(II)I" } : Jvm.MethodName) jdk_29_method_69_code (2 : Nat) (Option.some Jvm.ClassFile.FieldType.int), Jvm.Cond.code ({ cls := "java/lang/StringLatin1", name := "indexOfChar", desc := "([BIII)I" } : Jvm.MethodName) jdk_43_method_23_code (6 : Nat) (Option.some Jvm.ClassFile.FieldType.int), Jvm.Cond.code ({ cls := "com/example/enact/enact/compiler/XPathText", name := "endOfComment", desc := "(Ljava/lang/String;I)I" } : Jvm.MethodName) prog_2_method_5_code (4 : Nat) (Option.some Jvm.ClassFile.FieldType.int), Jvm.Cond.code ({ cls := "com/example/enact/enact/compiler/XPathTextNestingPinLaw", name := "next", desc := "(II)I" } : Jvm.MethodName) method_5_code (2 : Nat) (Option.some Jvm.ClassFile.FieldType.int), Jvm.Cond.code ({ cls := "com/example/enact/enact/compiler/XPathText", name := "endOfLiteral", desc := "(Ljava/lang/String;I)I" } : Jvm.MethodName) prog_2_method_4_code (5 : Nat) (Option.some Jvm.ClassFile.FieldType.int)]
set_option maxRecDepth 65536 in
theorem codes_eq : words1.filter isCode = codes1 := rfl
theorem w_codes : ∀ c ∈ words1.filter isCode, c.before args0 about1 = true := by
  rw [codes_eq]
  intro c hc
  simp only [codes1, List.mem_cons, List.not_mem_nil, or_false] at hc
  rcases hc with rfl | rfl | rfl | rfl | rfl | rfl | rfl | rfl | rfl | rfl | rfl | rfl | rfl | rfl | rfl | rfl | rfl | rfl | rfl | rfl | rfl | rfl | rfl | rfl | rfl | rfl | rfl | rfl | rfl | rfl | rfl
  · exact w_c0
  · exact w_c1
  · exact w_c2
  · exact w_c3
  · exact w_c4
  · exact w_c5
  · exact w_c6
  · exact w_c7
  · exact w_c8
  · exact w_c9
  · exact w_c10
  · exact w_c11
  · exact w_c12
  · exact w_c13
  · exact w_c14
  · exact w_c15
  · exact w_c16
  · exact w_c17
  · exact w_c18
  · exact w_c19
  · exact w_c20
  · exact w_c21
  · exact w_c22
  · exact w_c23
  · exact w_c24
  · exact w_c25
  · exact w_c26
  · exact w_c27
  · exact w_c28
  · exact w_c29
  · exact w_c30
set_option maxRecDepth 65536 in
theorem w_t1 : (words1.take 24).all (fun c => isCode c || c.before args0 about1) = true := by decide +kernel
set_option maxRecDepth 65536 in
theorem w_t2 : ((words1.drop 24).take 24).all (fun c => isCode c || c.before args0 about1) = true := by decide +kernel
set_option maxRecDepth 65536 in
theorem w_t3 : (((words1.drop 24).drop 24).take 24).all (fun c => isCode c || c.before args0 about1) = true := by decide +kernel
set_option maxRecDepth 65536 in
theorem w_t4 : ((((words1.drop 24).drop 24).drop 24).take 24).all (fun c => isCode c || c.before args0 about1) = true := by decide +kernel
set_option maxRecDepth 65536 in
theorem w_t5 : (((((words1.drop 24).drop 24).drop 24).drop 24).take 24).all (fun c => isCode c || c.before args0 about1) = true := by decide +kernel
set_option maxRecDepth 65536 in
theorem w_t6 : (((((words1.drop 24).drop 24).drop 24).drop 24).drop 24).all (fun c => isCode c || c.before args0 about1) = true := by decide +kernel
theorem w_tables : (allAtoms (Jvm.Cond.code x code maxLocals ret :: tables_1)).before args0 about1 = true := by
  rw [allAtoms_all]
  show words1.all (fun c => c.before args0 about1) = true
  refine all_split ?_ w_codes
  rw [← List.take_append_drop 24 words1, List.all_append, w_t1, ← List.take_append_drop 24 (words1.drop 24), List.all_append, w_t2, ← List.take_append_drop 24 ((words1.drop 24).drop 24), List.all_append, w_t3, ← List.take_append_drop 24 (((words1.drop 24).drop 24).drop 24), List.all_append, w_t4, ← List.take_append_drop 24 ((((words1.drop 24).drop 24).drop 24).drop 24), List.all_append, w_t5, w_t6]
  rfl
set_option maxRecDepth 65536 in
theorem w_rest : rest_1_c.before args0 about1 = true := by decide +kernel
set_option maxRecDepth 65536 in
theorem w_case : (Jvm.Cond.and given_1 narrow_1).before args0 about1 = true := by decide +kernel
set_option maxRecDepth 65536 in
theorem w_consts : constsHeld consts_1 about1 := Jvm.Lit.constsHeldB_iff.mp (by decide +kernel)
theorem w_applies : (headSpec (Jvm.Cond.code x code maxLocals ret :: tables_1) room_1).applies x e0.platform about1 = true :=
  (Spec.applies_iff w_frames).mpr ⟨w_running, w_runnable, w_alone, w_named, w_hears, w_ripe, w_room, w_tables⟩
theorem atStart : AtStart classFile x code maxLocals ret World_1 tables_1 room_1 Calls_1 rest_1 Pre_1 launch0 p0 e0 about1 theMethod args0 below0 :=
  ⟨lists_1, trivial, launch0.admits_env _ _ _, launch0.least_env, fairChoices_fair.cas, fairChoices_fair.clock, w_frames, w_args, w_heap, w_applies, ⟨w_consts, trivial⟩, w_rest, w_case⟩
end start1
theorem witness_1 : WitnessClaimed_1 := ⟨start1.p0, start1.e0, start1.about1, start1.theMethod, start1.args0, start1.below0, start1.atStart⟩
end Jvm.Pilot.@@N@@
