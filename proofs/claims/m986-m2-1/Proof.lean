import JvmDerived
import JvmDerived.Pilot.@@N@@Statement
import JvmDerived.Pilot.@@N@@Code
set_option linter.unusedVariables false
set_option linter.unusedSimpArgs false
/- laws to paste: Road.backV, Road.lenW, Road.chN, Road.codOf (cut by pick.py; bodies as the Statement names them) -/
namespace Jvm.Pilot.@@N@@
namespace StrChars
open Jvm Sem ClassFile Op Lib Jvm.Stand Jvm.Free.XT Jvm.Free.ALB Jvm.Free.JM Jvm.Free
open Jvm.Lib.Cold (StaticIs)
/-- a char array whose places are chars -/
def Ch (a : Addr) (A : Cell) (U : State) : Prop := Arr .char a A U ∧ Typed .char A
theorem Ch.mv {a : Addr} {A : Cell} {U U' : State} (h : Ch a A U) (hal : U.vm.Alike U'.vm) (hh : U'.heap = U.heap) : Ch a A U' := ⟨h.1.mv hal hh, h.2⟩
theorem Ch.keep {a : Addr} {A : Cell} {U U' : State} (h : Ch a A U) (hal : U.vm.Alike U'.vm) (hk : U'.heap[a]? = some A) : Ch a A U' := ⟨h.1.keep hal hk, h.2⟩
/-- what place i of a char[]'s cell holds -/
def cv (A : Cell) (i : Nat) : Int32 := match A.slots[i]? with | some (.int x) => x | _ => 0
theorem Ch.get {a : Addr} {A : Cell} {U : State} (h : Ch a A U) {i : Nat} (hi : i < A.slots.size) : A.slots[i]? = some (.int (cv A i)) := by
  have e := Array.getElem?_eq_getElem hi
  have f := h.2 i _ e
  unfold cv; rw [e]
  generalize A.slots[i] = v at f
  cases v <;> simp [fits] at f ⊢
/-- the byte that i2b leaves of a char -/
def lo8 (x : Int32) : Int32 := x.toInt8.toInt32
theorem fits_lo8 (y : Int32) : fits .byte (.int (lo8 y)) = true := by
  have h1 := y.toInt8.le_toInt
  have h2 := y.toInt8.toInt_lt
  simp only [lo8, fits, Bool.and_eq_true, decide_eq_true_eq, Int32.le_iff_toInt_le, Int8.toInt_toInt32, show (-128 : Int32).toInt = -128 from by decide, show (127 : Int32).toInt = 127 from by decide]
  omega
/-- A' is A but that each place j of lo .. hi - 1 holds f j -/
def Laid (A A' : Cell) (lo hi : Nat) (f : Nat → Value) : Prop := A'.cls = A.cls ∧ A'.vm = A.vm ∧ A'.slots.size = A.slots.size ∧ ∀ i, A'.slots[i]? = if lo ≤ i ∧ i < hi then some (f i) else A.slots[i]?
theorem Laid.zero (A : Cell) (lo : Nat) (f : Nat → Value) : Laid A A lo (lo + 0) f := ⟨rfl, rfl, rfl, fun i => by rw [if_neg (by omega)]⟩
theorem Laid.step {A Ak : Cell} {lo k : Nat} {f : Nat → Value} {v : Value} (h : Laid A Ak lo k f) (hlo : lo ≤ k) (hk : k < Ak.slots.size) (hv : v = f k) : Laid A (Ak.setSlot k v) lo (k + 1) f := by
  refine ⟨h.1, h.2.1, by simpa [Cell.setSlot] using h.2.2.1, fun i => ?_⟩
  by_cases e : k = i
  · subst e; rw [Cell.slots_setSlot_self v hk, if_pos (by omega), hv]
  · rw [Cell.slots_setSlot_ne v e, h.2.2.2 i]
    by_cases q : lo ≤ i ∧ i < k
    · rw [if_pos q, if_pos (by omega)]
    · rw [if_neg q, if_neg (by omega)]
def U16 : String := "java/lang/StringUTF16"
namespace Cmp5
def yN : MethodName := ⟨"java/lang/StringUTF16", "compress", "([CI[BII)I"⟩
abbrev yB : ByteArray := jdk_52_method_21_code
theorem d0 : decode yB 0 = .ok (.iconst 0, 1) := by decide +kernel
theorem d1 : decode yB 1 = .ok (.istore 5, 2) := by decide +kernel
theorem d3 : decode yB 3 = .ok (.iload 5, 2) := by decide +kernel
theorem d5 : decode yB 5 = .ok (.iload 4, 2) := by decide +kernel
theorem d7 : decode yB 7 = .ok (.if_icmp (.ge) 37, 3) := by decide +kernel
theorem d10 : decode yB 10 = .ok (.aload_n 0, 1) := by decide +kernel
theorem d11 : decode yB 11 = .ok (.iload_n 1, 1) := by decide +kernel
theorem d12 : decode yB 12 = .ok (.caload, 1) := by decide +kernel
theorem d13 : decode yB 13 = .ok (.istore 6, 2) := by decide +kernel
theorem d15 : decode yB 15 = .ok (.iload 6, 2) := by decide +kernel
theorem d17 : decode yB 17 = .ok (.sipush 255, 3) := by decide +kernel
theorem d20 : decode yB 20 = .ok (.if_icmp (.le) 6, 3) := by decide +kernel
theorem d26 : decode yB 26 = .ok (.aload_n 2, 1) := by decide +kernel
theorem d27 : decode yB 27 = .ok (.iload_n 3, 1) := by decide +kernel
theorem d28 : decode yB 28 = .ok (.iload 6, 2) := by decide +kernel
theorem d30 : decode yB 30 = .ok (.i2b, 1) := by decide +kernel
theorem d31 : decode yB 31 = .ok (.bastore, 1) := by decide +kernel
theorem d32 : decode yB 32 = .ok (.iinc 1 1, 3) := by decide +kernel
theorem d35 : decode yB 35 = .ok (.iinc 3 1, 3) := by decide +kernel
theorem d38 : decode yB 38 = .ok (.iinc 5 1, 3) := by decide +kernel
theorem d41 : decode yB 41 = .ok (.goto (-38), 3) := by decide +kernel
theorem d44 : decode yB 44 = .ok (.iload 4, 2) := by decide +kernel
theorem d46 : decode yB 46 = .ok (.ireturn, 1) := by decide +kernel
def site : List Cond := []
def tab : Cond := tabOf yN yB 7 (some .int) site
def P (b : Addr) (A : Cell) (d : Addr) (B : Cell) (o q len : Nat) (args : Array Value) (s : State) : Prop := args = #[.ref b, .int (Int32.ofNat o), .ref d, .int (Int32.ofNat q), .int (Int32.ofNat len)] ∧ Ch b A s ∧ Arr .byte d B s ∧ b ≠ d ∧ o + len ≤ A.slots.size ∧ q + len ≤ B.slots.size ∧ ∀ i, i < len → ¬ 255 < cv A (o + i)
def E (b : Addr) (A : Cell) (d : Addr) (B : Cell) (o q len : Nat) (r : Option Value) (s u : State) : Prop := r = some (.int (Int32.ofNat len)) ∧ ∃ B', Put d B' s u ∧ Laid B B' q (q + len) (fun j => Value.int (lo8 (cv A (o + (j - q)))))
/-- no char of the range above 255: len; the places written hold each char's low byte -/
theorem law (l : Launch) (b : Addr) (A : Cell) (d : Addr) (B : Cell) (o q len : Nat) : Law l yN 5 5 0 0 yB 7 (some .int) site (P b A d B o q len) (E b A d B o q len) (copyLocs d q len) 0 0 := by
  refine Law.of_walk (plainFor_of_name (by decide +kernel)) (by decide +kernel) (by decide +kernel) (by decide) (fun _ _ h => by rw [h.1]; rfl) (fun _ U U' hal hh h => ⟨h.1, h.2.1.mv hal hh, h.2.2.1.mv hal hh, h.2.2.2⟩) (fun r U U' V V' h1 hal h2 h => ⟨h.1, h.2.elim fun B' q => ⟨B', q.1.mv h1 h2, q.2⟩⟩) ?_
  intro p e s m args below meth c s₁ X0 hexec hbytes hml hret hlk hnm hown hh0 W hP
  obtain ⟨rfl, hA, hB, hne, l1, l2, hp⟩ := hP
  have c1 : Steps p.tables e below (s₁.setTop (entryFrame m #[.ref b, .int (Int32.ofNat o), .ref d, .int (Int32.ofNat q), .int (Int32.ofNat len)] 7)) (s₁.setTop (mkF m 0 #[.val (.ref b), .val (.int (Int32.ofNat o)), .val (.ref d), .val (.int (Int32.ofNat q)), .val (.int (Int32.ofNat len)), .unset, .unset] [])) := entry rfl
  have hA0 := hA.1.mv X0.warmed.alike hh0
  have hB0 := hB.mv X0.warmed.alike hh0
  have a31 := hA.1.2.2.2
  have c2 : Steps p.tables e below (s₁.setTop (entryFrame m #[.ref b, .int (Int32.ofNat o), .ref d, .int (Int32.ofNat q), .int (Int32.ofNat len)] 7)) (s₁.setTop (mkF m 3 #[.val (.ref b), .val (.int (Int32.ofNat o)), .val (.ref d), .val (.int (Int32.ofNat q)), .val (.int (Int32.ofNat len)), .val (.int 0), .unset] [])) := c1.trans (by
    refine iconstV X0.here hexec rfl 0 (hb hbytes d0) (by decide) ?_
    refine XS.istore X0.here hexec rfl (hb hbytes d1) rfl rfl ?_
    exact Steps.refl _)
  have loop : ∀ (r i : Nat), i + r = len → ∀ (z : Slot), (z = .unset ∨ ∃ w, z = .val w ∧ w.category = 1) → ∀ (Tl : State) (Bk : Cell), Stand p l e { frames := 0, locals := 0, cells := 0, slots := 0 } s m #[.ref b, .int (Int32.ofNat o), .ref d, .int (Int32.ofNat q), .int (Int32.ofNat len)] below meth c Tl ([] ++ copyLocs d q i) 0 0 → Put d Bk s₁ Tl → Laid B Bk q (q + i) (fun j => Value.int (lo8 (cv A (o + (j - q))))) →
      Steps p.tables e below (s₁.setTop (entryFrame m #[.ref b, .int (Int32.ofNat o), .ref d, .int (Int32.ofNat q), .int (Int32.ofNat len)] 7)) (Tl.setTop (mkF m 3 #[.val (.ref b), .val (.int (Int32.ofNat (o + i))), .val (.ref d), .val (.int (Int32.ofNat (q + i))), .val (.int (Int32.ofNat len)), .val (.int (Int32.ofNat i)), z] [])) → ∃ (T' : State) (B' : Cell) (z' : Slot), Stand p l e { frames := 0, locals := 0, cells := 0, slots := 0 } s m #[.ref b, .int (Int32.ofNat o), .ref d, .int (Int32.ofNat q), .int (Int32.ofNat len)] below meth c T' ([] ++ copyLocs d q len) 0 0 ∧ Put d B' s₁ T' ∧ Laid B B' q (q + len) (fun j => Value.int (lo8 (cv A (o + (j - q))))) ∧
      Steps p.tables e below (s₁.setTop (entryFrame m #[.ref b, .int (Int32.ofNat o), .ref d, .int (Int32.ofNat q), .int (Int32.ofNat len)] 7)) (T'.setTop (mkF m 3 #[.val (.ref b), .val (.int (Int32.ofNat (o + len))), .val (.ref d), .val (.int (Int32.ofNat (q + len))), .val (.int (Int32.ofNat len)), .val (.int (Int32.ofNat len)), z'] [])) := by
    intro r
    induction r with
    | zero =>
      intro i hi z hz Tl Bk Xl pl fl cl
      have hil : i = len := by omega
      rw [hil] at Xl fl cl
      exact ⟨Tl, Bk, z, Xl, pl, fl, cl⟩
    | succ r ih =>
      intro i hi z hz Tl Bk Xl pl fl cl
      have all := X0.warmed.alike.symm.trans Xl.warmed.alike
      have hAl := hA0.keep all (pl.other hne hA0.1)
      have hBk := hB0.like all pl.1 fl.1 fl.2.1 fl.2.2.1
      have hlt : q + i < Bk.slots.size := by rw [fl.2.2.1]; omega
      have c3 : Steps p.tables e below (s₁.setTop (entryFrame m #[.ref b, .int (Int32.ofNat o), .ref d, .int (Int32.ofNat q), .int (Int32.ofNat len)] 7)) (Tl.setTop (mkF m 12 #[.val (.ref b), .val (.int (Int32.ofNat (o + i))), .val (.ref d), .val (.int (Int32.ofNat (q + i))), .val (.int (Int32.ofNat len)), .val (.int (Int32.ofNat i)), z] [.int (Int32.ofNat (o + i)), .ref b])) := cl.trans (by
        refine XS.iload Xl.here hexec rfl (hb hbytes d3) rfl ?_
        refine XS.iload Xl.here hexec rfl (hb hbytes d5) rfl ?_
        refine XS.icmpNo Xl.here hexec rfl (hb hbytes d7) rfl (ii_ge_f (lt32 (by omega) (by omega))) ?_
        refine XS.aloadN Xl.here hexec rfl (hb hbytes d10) rfl rfl ?_
        refine XS.iloadN Xl.here hexec rfl (hb hbytes d11) rfl ?_
        exact Steps.refl _)
      have c4 : Steps p.tables e below (s₁.setTop (entryFrame m #[.ref b, .int (Int32.ofNat o), .ref d, .int (Int32.ofNat q), .int (Int32.ofNat len)] 7)) (Tl.setTop (mkF m 13 #[.val (.ref b), .val (.int (Int32.ofNat (o + i))), .val (.ref d), .val (.int (Int32.ofNat (q + i))), .val (.int (Int32.ofNat len)), .val (.int (Int32.ofNat i)), z] [.int (cv A (o + i))])) := c3.trans (by
        refine Xl.aget hexec hAl rfl (hA.get (i := o + i) (by omega)) rfl rfl (hb hbytes d12) ?_
        exact Steps.refl _)
      have c5 : Steps p.tables e below (s₁.setTop (entryFrame m #[.ref b, .int (Int32.ofNat o), .ref d, .int (Int32.ofNat q), .int (Int32.ofNat len)] 7)) (Tl.setTop (mkF m 15 #[.val (.ref b), .val (.int (Int32.ofNat (o + i))), .val (.ref d), .val (.int (Int32.ofNat (q + i))), .val (.int (Int32.ofNat len)), .val (.int (Int32.ofNat i)), .val (.int (cv A (o + i)))] [])) := c4.trans (by
        refine XS.istoreS Xl.here hexec rfl (hb hbytes d13) rfl rfl hz ?_
        exact Steps.refl _)
      have c6 : Steps p.tables e below (s₁.setTop (entryFrame m #[.ref b, .int (Int32.ofNat o), .ref d, .int (Int32.ofNat q), .int (Int32.ofNat len)] 7)) (Tl.setTop (mkF m 31 #[.val (.ref b), .val (.int (Int32.ofNat (o + i))), .val (.ref d), .val (.int (Int32.ofNat (q + i))), .val (.int (Int32.ofNat len)), .val (.int (Int32.ofNat i)), .val (.int (cv A (o + i)))] [.int (lo8 (cv A (o + i))), .int (Int32.ofNat (q + i)), .ref d])) := c5.trans (by
        refine XS.iload Xl.here hexec rfl (hb hbytes d15) rfl ?_
        refine sipushV Xl.here hexec rfl 255 (hb hbytes d17) (by decide) ?_
        refine XS.icmpYes Xl.here hexec rfl (pc0 := 20) rfl (hb hbytes d20) rfl (ii_le_t (hp i (by omega))) (by decide) rfl ?_
        refine XS.aloadN Xl.here hexec rfl (hb hbytes d26) rfl rfl ?_
        refine XS.iloadN Xl.here hexec rfl (hb hbytes d27) rfl ?_
        refine XS.iload Xl.here hexec rfl (hb hbytes d28) rfl ?_
        refine i2b Xl.here hexec rfl (hb hbytes d30) rfl ?_
        exact Steps.refl _)
      obtain ⟨T7, X7, p7, st7⟩ := Xl.aput hexec hBk rfl hlt rfl (fits_lo8 (cv A (o + i))) (g := (mkF m 31 #[.val (.ref b), .val (.int (Int32.ofNat (o + i))), .val (.ref d), .val (.int (Int32.ofNat (q + i))), .val (.int (Int32.ofNat len)), .val (.int (Int32.ofNat i)), .val (.int (cv A (o + i)))] [.int (lo8 (cv A (o + i))), .int (Int32.ofNat (q + i)), .ref d])) rfl (rest := []) rfl (hb hbytes d31)
      have c8 : Steps p.tables e below (s₁.setTop (entryFrame m #[.ref b, .int (Int32.ofNat o), .ref d, .int (Int32.ofNat q), .int (Int32.ofNat len)] 7)) (T7.setTop (mkF m 32 #[.val (.ref b), .val (.int (Int32.ofNat (o + i))), .val (.ref d), .val (.int (Int32.ofNat (q + i))), .val (.int (Int32.ofNat len)), .val (.int (Int32.ofNat i)), .val (.int (cv A (o + i)))] [])) := c6.trans (st7 _ (Steps.refl _))
      have c9 : Steps p.tables e below (s₁.setTop (entryFrame m #[.ref b, .int (Int32.ofNat o), .ref d, .int (Int32.ofNat q), .int (Int32.ofNat len)] 7)) (T7.setTop (mkF m 3 #[.val (.ref b), .val (.int (Int32.ofNat (o + i) + 1)), .val (.ref d), .val (.int (Int32.ofNat (q + i) + 1)), .val (.int (Int32.ofNat len)), .val (.int (Int32.ofNat i + 1)), .val (.int (cv A (o + i)))] [])) := c8.trans (by
        refine iincV X7.here hexec rfl 1 (hb hbytes d32) (by decide) rfl rfl ?_
        refine iincV X7.here hexec rfl 1 (hb hbytes d35) (by decide) rfl rfl ?_
        refine iincV X7.here hexec rfl 1 (hb hbytes d38) (by decide) rfl rfl ?_
        refine XS.goto X7.here hexec rfl (pc0 := 41) rfl (hb hbytes d41) (by decide) rfl ?_
        exact Steps.refl _)
      have c10 : Steps p.tables e below (s₁.setTop (entryFrame m #[.ref b, .int (Int32.ofNat o), .ref d, .int (Int32.ofNat q), .int (Int32.ofNat len)] 7)) (T7.setTop (mkF m 3 #[.val (.ref b), .val (.int (Int32.ofNat (o + (i + 1)))), .val (.ref d), .val (.int (Int32.ofNat (q + (i + 1)))), .val (.int (Int32.ofNat len)), .val (.int (Int32.ofNat (i + 1))), .val (.int (cv A (o + i)))] [])) := by
        have := c9
        rw [succ32, succ32, succ32] at this
        exact this
      exact ih (i + 1) (by omega) _ (Or.inr ⟨_, rfl, rfl⟩) T7 _ (by rw [copyLocs_step, ← List.append_assoc]; exact X7) (pl.trans p7) (fl.step (by omega) hlt (by simp)) c10
  obtain ⟨T9, B9, z9, X9, p9, f9, g9⟩ := loop len 0 (by omega) .unset (Or.inl rfl) s₁ B (by simpa [copyLocs] using X0) ⟨hB0.1, fun _ _ => rfl, rfl⟩ (Laid.zero _ _ _) c2
  have c11 : Steps p.tables e below (s₁.setTop (entryFrame m #[.ref b, .int (Int32.ofNat o), .ref d, .int (Int32.ofNat q), .int (Int32.ofNat len)] 7)) (T9.setTop (mkF m 46 #[.val (.ref b), .val (.int (Int32.ofNat (o + len))), .val (.ref d), .val (.int (Int32.ofNat (q + len))), .val (.int (Int32.ofNat len)), .val (.int (Int32.ofNat len)), z9] [.int (Int32.ofNat len)])) := g9.trans (by
    refine XS.iload X9.here hexec rfl (hb hbytes d3) rfl ?_
    refine XS.iload X9.here hexec rfl (hb hbytes d5) rfl ?_
    refine XS.icmpYes X9.here hexec rfl (pc0 := 7) rfl (hb hbytes d7) rfl (ii_ge_t (nlt32 (by omega) (Nat.le_refl _))) (by decide) rfl ?_
    refine XS.iload X9.here hexec rfl (hb hbytes d44) rfl ?_
    exact Steps.refl _)
  exact ⟨T9, some (.int (Int32.ofNat len)), _, _, _, X9, by simp, rfl, rfl, (fun h => by cases h), ⟨rfl, B9, p9.from hh0, f9⟩, fun fs hl => c11.trans (X9.ireturnOut hexec hret rfl (Or.inl rfl) (hb hbytes d46) hl)⟩
end Cmp5
namespace Cmp3
def yN : MethodName := ⟨"java/lang/StringUTF16", "compress", "([CII)[B"⟩
abbrev yB : ByteArray := jdk_52_method_16_code
theorem d0 : decode yB 0 = .ok (.iload_n 2, 1) := by decide +kernel
theorem d1 : decode yB 1 = .ok (.newarray .byte, 2) := by decide +kernel
theorem d3 : decode yB 3 = .ok (.astore_n 3, 1) := by decide +kernel
theorem d4 : decode yB 4 = .ok (.aload_n 0, 1) := by decide +kernel
theorem d5 : decode yB 5 = .ok (.iload_n 1, 1) := by decide +kernel
theorem d6 : decode yB 6 = .ok (.aload_n 3, 1) := by decide +kernel
theorem d7 : decode yB 7 = .ok (.iconst 0, 1) := by decide +kernel
theorem d8 : decode yB 8 = .ok (.iload_n 2, 1) := by decide +kernel
theorem d9 : decode yB 9 = .ok (.invokestatic 115, 3) := by decide +kernel
theorem d12 : decode yB 12 = .ok (.istore 4, 2) := by decide +kernel
theorem d14 : decode yB 14 = .ok (.iload 4, 2) := by decide +kernel
theorem d16 : decode yB 16 = .ok (.iload_n 2, 1) := by decide +kernel
theorem d17 : decode yB 17 = .ok (.if_icmp (.eq) 40, 3) := by decide +kernel
theorem d57 : decode yB 57 = .ok (.aload_n 3, 1) := by decide +kernel
theorem d58 : decode yB 58 = .ok (.areturn, 1) := by decide +kernel
def site : List Cond := [.arrayClass .byte, Cmp5.tab] ++ staticW U16 115 Cmp5.yN
def tab : Cond := tabOf yN yB 6 (some (.array .byte)) site
def P (b : Addr) (A : Cell) (o len : Nat) (args : Array Value) (s : State) : Prop := args = #[.ref b, .int (Int32.ofNat o), .int (Int32.ofNat len)] ∧ Ch b A s ∧ o + len ≤ A.slots.size ∧ len ≤ 536870912 ∧ ∀ i, i < len → ¬ 255 < cv A (o + i)
def E (b : Addr) (A : Cell) (o len : Nat) (r : Option Value) (s u : State) : Prop := NewArr .byte "[B" len (fun j => .int (lo8 (cv A (o + j)))) r s u ∧ u.heap.size = s.heap.size + 1
/-- no char of the range above 255: a new byte[] of their low bytes -/
theorem law (l : Launch) (b : Addr) (A : Cell) (o len : Nat) : Law l yN 3 3 1 18 yB 6 (some (.array .byte)) site (P b A o len) (E b A o len) [] 1 len := by
  refine Law.of_walk (plainFor_of_name (by decide +kernel)) (by decide +kernel) (by decide +kernel) (by decide) (fun _ _ h => by rw [h.1]; rfl) (fun _ U U' hal hh h => ⟨h.1, h.2.1.mv hal hh, h.2.2⟩) (fun r U U' V V' h1 hal h2 h => ⟨NewArr.mv r U U' V V' h1 hal h2 h.1, by rw [h1, h2]; exact h.2⟩) ?_
  intro p e s m args below meth c s₁ X0 hexec hbytes hml hret hlk hnm hown hh0 W hP
  obtain ⟨rfl, hA, l1, l2, hp⟩ := hP
  have a31 := hA.1.2.2.2
  have c1 : Steps p.tables e below (s₁.setTop (entryFrame m #[.ref b, .int (Int32.ofNat o), .int (Int32.ofNat len)] 6)) (s₁.setTop (mkF m 0 #[.val (.ref b), .val (.int (Int32.ofNat o)), .val (.int (Int32.ofNat len)), .unset, .unset, .unset] [])) := entry rfl
  have c2 : Steps p.tables e below (s₁.setTop (entryFrame m #[.ref b, .int (Int32.ofNat o), .int (Int32.ofNat len)] 6)) (s₁.setTop (mkF m 1 #[.val (.ref b), .val (.int (Int32.ofNat o)), .val (.int (Int32.ofNat len)), .unset, .unset, .unset] [.int (Int32.ofNat len)])) := c1.trans (by
    refine XS.iloadN X0.here hexec rfl (hb hbytes d0) rfl ?_
    exact Steps.refl _)
  obtain ⟨T3, B3, X3, ba3, bs3, bv3, bh3, bf3, st3⟩ := X0.anew hexec (atype := .byte) (wk W (.arrayClass .byte)) rfl (by show len * 1 ≤ _; omega) (by omega) (g := (mkF m 1 #[.val (.ref b), .val (.int (Int32.ofNat o)), .val (.int (Int32.ofNat len)), .unset, .unset, .unset] [.int (Int32.ofNat len)])) rfl (hb hbytes d1) (rest := []) rfl (Nat.le_refl _) (by show 0 + len ≤ len; omega)
  rw [hh0] at ba3 st3
  have kp3 : XT.Kept s T3 := (XT.Kept.of_eq hh0).push bh3
  have hA3 := hA.keep X3.warmed.alike (kp3 _ _ hA.1.1)
  have hne : b ≠ s.heap.size := hA.1.ne
  have c4 : Steps p.tables e below (s₁.setTop (entryFrame m #[.ref b, .int (Int32.ofNat o), .int (Int32.ofNat len)] 6)) (T3.setTop (mkF m 3 #[.val (.ref b), .val (.int (Int32.ofNat o)), .val (.int (Int32.ofNat len)), .unset, .unset, .unset] [.ref s.heap.size])) := c2.trans (st3 _ (Steps.refl _))
  have c5 : Steps p.tables e below (s₁.setTop (entryFrame m #[.ref b, .int (Int32.ofNat o), .int (Int32.ofNat len)] 6)) (T3.setTop (mkF m 9 #[.val (.ref b), .val (.int (Int32.ofNat o)), .val (.int (Int32.ofNat len)), .val (.ref s.heap.size), .unset, .unset] [.int (Int32.ofNat len), .int 0, .ref s.heap.size, .int (Int32.ofNat o), .ref b])) := c4.trans (by
    refine XS.astoreN X3.here hexec rfl (hb hbytes d3) rfl rfl rfl ?_
    refine XS.aloadN X3.here hexec rfl (hb hbytes d4) rfl rfl ?_
    refine XS.iloadN X3.here hexec rfl (hb hbytes d5) rfl ?_
    refine XS.aloadN X3.here hexec rfl (hb hbytes d6) rfl rfl ?_
    refine iconstV X3.here hexec rfl 0 (hb hbytes d7) (by decide) ?_
    refine XS.iloadN X3.here hexec rfl (hb hbytes d8) rfl ?_
    exact Steps.refl _)
  obtain ⟨v6, T6, X6, E6, g6⟩ := X3.callS hexec (Cmp5.law l b A s.heap.size B3 o 0 len) hown (wks W (staticW U16 115 Cmp5.yN)) (wk W Cmp5.tab) (W := 0) (Nat.le_of_ble_eq_true rfl) (Nat.le_of_ble_eq_true rfl) (Nat.le_refl _) (by show 0 + len + 0 ≤ len; omega) (g := (mkF m 9 #[.val (.ref b), .val (.int (Int32.ofNat o)), .val (.int (Int32.ofNat len)), .val (.ref s.heap.size), .unset, .unset] [.int (Int32.ofNat len), .int (Int32.ofNat 0), .ref s.heap.size, .int (Int32.ofNat o), .ref b])) rfl (by rw [hml]; rfl) c5 (argsL := [.ref b, .int (Int32.ofNat o), .ref s.heap.size, .int (Int32.ofNat 0), .int (Int32.ofNat len)]) (rest := []) rfl rfl (by show 2 * 0 + 0 ≤ _; decide) (hb hbytes d9) (⟨rfl, hA3, ba3, hne, l1, by rw [bs3]; simp, hp⟩)
  obtain ⟨rfl, B6, p6, f6⟩ := E6
  have c7 : Steps p.tables e below (s₁.setTop (entryFrame m #[.ref b, .int (Int32.ofNat o), .int (Int32.ofNat len)] 6)) (T6.setTop (mkF m 12 #[.val (.ref b), .val (.int (Int32.ofNat o)), .val (.int (Int32.ofNat len)), .val (.ref s.heap.size), .unset, .unset] [.int (Int32.ofNat len)])) := g6
  have c8 : Steps p.tables e below (s₁.setTop (entryFrame m #[.ref b, .int (Int32.ofNat o), .int (Int32.ofNat len)] 6)) (T6.setTop (mkF m 58 #[.val (.ref b), .val (.int (Int32.ofNat o)), .val (.int (Int32.ofNat len)), .val (.ref s.heap.size), .val (.int (Int32.ofNat len)), .unset] [.ref s.heap.size])) := c7.trans (by
    refine XS.istore X6.here hexec rfl (hb hbytes d12) rfl rfl ?_
    refine XS.iload X6.here hexec rfl (hb hbytes d14) rfl ?_
    refine XS.iloadN X6.here hexec rfl (hb hbytes d16) rfl ?_
    refine XS.icmpYes X6.here hexec rfl (pc0 := 17) rfl (hb hbytes d17) rfl (ii_eq_t rfl) (by decide) rfl ?_
    refine XS.aloadN X6.here hexec rfl (hb hbytes d57) rfl rfl ?_
    exact Steps.refl _)
  have X8 := X6.wide (L' := []) (cells' := 1) (slots' := len) (fun x hx hlt => by
    simp only [List.nil_append, copyLocs, List.mem_map, List.mem_range] at hx
    obtain ⟨i, -, rfl⟩ := hx
    exact absurd hlt (Nat.lt_irrefl _)) (Nat.le_refl _) (by omega)
  exact ⟨T6, some (.ref s.heap.size), _, _, _, X8, rfl, rfl, rfl, (fun h => by cases h), ⟨⟨rfl, B6, ba3.like (X3.warmed.alike.symm.trans X6.warmed.alike) p6.1 f6.1 f6.2.1 f6.2.2.1, f6.2.1.trans bv3, by rw [X6.warmed.alike.findClass, f6.1]; exact bf3, by rw [f6.2.2.1, bs3]; simp, fun j hj => by rw [f6.2.2.2 j, if_pos (by omega)]; rfl, kp3.put p6 (Nat.le_refl _)⟩, by rw [p6.2.2, bh3, hh0]; simp⟩, fun fs hl => c8.trans (X8.areturnOut hexec rfl hret rfl (hb hbytes d58) hl)⟩
end Cmp3
namespace CodL
def yN : MethodName := ⟨"java/lang/StringUTF16", "coderFromArrayLen", "([BI)B"⟩
abbrev yB : ByteArray := jdk_52_method_15_code
theorem d0 : decode yB 0 = .ok (.iload_n 1, 1) := by decide +kernel
theorem d1 : decode yB 1 = .ok (.aload_n 0, 1) := by decide +kernel
theorem d2 : decode yB 2 = .ok (.arraylength, 1) := by decide +kernel
theorem d3 : decode yB 3 = .ok (.isub, 1) := by decide +kernel
theorem d4 : decode yB 4 = .ok (.bipush 31, 2) := by decide +kernel
theorem d6 : decode yB 6 = .ok (.iushr, 1) := by decide +kernel
theorem d7 : decode yB 7 = .ok (.i2b, 1) := by decide +kernel
theorem d8 : decode yB 8 = .ok (.ireturn, 1) := by decide +kernel
def site : List Cond := []
def tab : Cond := tabOf yN yB 2 (some .byte) site
def P (d : Addr) (B : Cell) (args : Array Value) (s : State) : Prop := args = #[.ref d, .int (Int32.ofNat B.slots.size)] ∧ Arr .byte d B s
def E (r : Option Value) (s u : State) : Prop := XT.PureE (some (.int 0)) r s u
/-- an array as long as the number of chars: LATIN1 -/
theorem law (l : Launch) (d : Addr) (B : Cell) : Law l yN 2 2 0 0 yB 2 (some .byte) site (P d B) E [] 0 0 := by
  refine Law.of_walk (plainFor_of_name (by decide +kernel)) (by decide +kernel) (by decide +kernel) (by decide) (fun _ _ h => by rw [h.1]; rfl) (fun _ U U' hal hh h => ⟨h.1, h.2.mv hal hh⟩) (fun r U U' V V' h1 hal h2 h => XT.PureE.mv r U U' V V' h1 hal h2 h) ?_
  intro p e s m args below meth c s₁ X0 hexec hbytes hml hret hlk hnm hown hh0 W hP
  obtain ⟨rfl, hB⟩ := hP
  have hB0 := hB.mv X0.warmed.alike hh0
  have c1 : Steps p.tables e below (s₁.setTop (entryFrame m #[.ref d, .int (Int32.ofNat B.slots.size)] 2)) (s₁.setTop (mkF m 0 #[.val (.ref d), .val (.int (Int32.ofNat B.slots.size))] [])) := entry rfl
  have c2 : Steps p.tables e below (s₁.setTop (entryFrame m #[.ref d, .int (Int32.ofNat B.slots.size)] 2)) (s₁.setTop (mkF m 2 #[.val (.ref d), .val (.int (Int32.ofNat B.slots.size))] [.ref d, .int (Int32.ofNat B.slots.size)])) := c1.trans (by
    refine XS.iloadN X0.here hexec rfl (hb hbytes d0) rfl ?_
    refine XS.aloadN X0.here hexec rfl (hb hbytes d1) rfl rfl ?_
    exact Steps.refl _)
  have c3 : Steps p.tables e below (s₁.setTop (entryFrame m #[.ref d, .int (Int32.ofNat B.slots.size)] 2)) (s₁.setTop (mkF m 8 #[.val (.ref d), .val (.int (Int32.ofNat B.slots.size))] [.int (lo8 (ushr (Int32.ofNat B.slots.size - Int32.ofNat B.slots.size) 31))])) := c2.trans (by
    refine X0.alen hexec hB0 rfl rfl (hb hbytes d2) ?_
    refine XS.isub X0.here hexec rfl (hb hbytes d3) rfl ?_
    refine bipushV X0.here hexec rfl 31 (hb hbytes d4) (by decide) ?_
    refine iushr X0.here hexec rfl (hb hbytes d6) rfl ?_
    refine i2b X0.here hexec rfl (hb hbytes d7) rfl ?_
    exact Steps.refl _)
  have e0 : lo8 (ushr (Int32.ofNat B.slots.size - Int32.ofNat B.slots.size) 31) = 0 := by rw [Int32.sub_self]; decide
  rw [e0] at c3
  exact ⟨s₁, some (.int 0), _, _, _, X0, rfl, rfl, rfl, (fun h => by cases h), ⟨rfl, hh0⟩, fun fs hl => c3.trans (X0.ireturnOut hexec hret rfl (Or.inr (Or.inr (Or.inl rfl))) (hb hbytes d8) hl)⟩
end CodL
/-- the String at a is Latin-1 over a new byte[] (the heap's one new cell): the low bytes of the len chars of A from o on; every cell but a is kept -/
def Got (a : Addr) (D : Cell) (fV fC : Field) (A : Cell) (o len : Nat) (r : Option Value) (s u : State) : Prop := r = none ∧ ∃ D' V : Cell, Blank "java/lang/String" a D' u ∧ Same D D' [fV.slot, fC.slot] ∧ D'.slots[fV.slot]? = some (.ref s.heap.size) ∧ D'.slots[fC.slot]? = some (.int 0) ∧ Arr .byte s.heap.size V u ∧ V.vm = .none ∧ u.vm.findClass "[B" = some V.cls ∧ V.slots.size = len ∧ (∀ j, j < len → V.slots[j]? = some (.int (lo8 (cv A (o + j))))) ∧ (∀ (y : Addr) (c : Cell), y ≠ a → s.heap[y]? = some c → u.heap[y]? = some c) ∧ u.heap.size = s.heap.size + 1
theorem Got.mv {a : Addr} {D A : Cell} {fV fC : Field} {o len : Nat} : ∀ r (U U' V V' : State), U'.heap = U.heap → V.vm.Alike V'.vm → V'.heap = V.heap → Got a D fV fC A o len r U V → Got a D fV fC A o len r U' V' :=
  fun r U U' V V' h1 hal h2 ⟨e0, D', X, a1, a2, a3, a4, a5, a6, a7, a8, a9, a10, a11⟩ => ⟨e0, D', X, a1.mv hal h2, a2, by rw [h1]; exact a3, a4, by rw [h1]; exact a5.mv hal h2, a6, by rw [hal.findClass]; exact a7, a8, a9, by rw [h1, h2]; exact a10, by rw [h1, h2]; exact a11⟩
namespace New4
def yN : MethodName := ⟨"java/lang/String", "<init>", "([CIILjava/lang/Void;)V"⟩
abbrev yB : ByteArray := jdk_42_method_149_code
theorem d0 : decode yB 0 = .ok (.aload_n 0, 1) := by decide +kernel
theorem d1 : decode yB 1 = .ok (.invokespecial 1, 3) := by decide +kernel
theorem d4 : decode yB 4 = .ok (.iload_n 3, 1) := by decide +kernel
theorem d5 : decode yB 5 = .ok (.ifCond (.ne) 22, 3) := by decide +kernel
theorem d27 : decode yB 27 = .ok (.getstatic 38, 3) := by decide +kernel
theorem d30 : decode yB 30 = .ok (.ifCond (.eq) 28, 3) := by decide +kernel
theorem d33 : decode yB 33 = .ok (.aload_n 1, 1) := by decide +kernel
theorem d34 : decode yB 34 = .ok (.iload_n 2, 1) := by decide +kernel
theorem d35 : decode yB 35 = .ok (.iload_n 3, 1) := by decide +kernel
theorem d36 : decode yB 36 = .ok (.invokestatic 177, 3) := by decide +kernel
theorem d39 : decode yB 39 = .ok (.astore 5, 2) := by decide +kernel
theorem d41 : decode yB 41 = .ok (.aload_n 0, 1) := by decide +kernel
theorem d42 : decode yB 42 = .ok (.aload 5, 2) := by decide +kernel
theorem d44 : decode yB 44 = .ok (.iload_n 3, 1) := by decide +kernel
theorem d45 : decode yB 45 = .ok (.invokestatic 47, 3) := by decide +kernel
theorem d48 : decode yB 48 = .ok (.putfield 15, 3) := by decide +kernel
theorem d51 : decode yB 51 = .ok (.aload_n 0, 1) := by decide +kernel
theorem d52 : decode yB 52 = .ok (.aload 5, 2) := by decide +kernel
theorem d54 : decode yB 54 = .ok (.putfield 9, 3) := by decide +kernel
theorem d57 : decode yB 57 = .ok (.return_, 1) := by decide +kernel
def site : List Cond := [.fieldLink "java/lang/String" 38 "java/lang/String" "COMPACT_STRINGS" "Z", Cmp3.tab, CodL.tab, .laysFinal "java/lang/String" "java/lang/String" "value" "[B", .fieldLink "java/lang/String" 9 "java/lang/String" "value" "[B", .laysFinal "java/lang/String" "java/lang/String" "coder" "B", .fieldLink "java/lang/String" 15 "java/lang/String" "coder" "B"] ++ objW "java/lang/String" 1 ++ staticW "java/lang/String" 177 Cmp3.yN ++ staticW "java/lang/String" 47 CodL.yN
def tab : Cond := tabOf yN yB 6 none site
def P (a : Addr) (D : Cell) (fV fC : Field) (b : Addr) (A : Cell) (z : Int32) (o len : Nat) (args : Array Value) (s : State) : Prop := args = #[.ref a, .ref b, .int (Int32.ofNat o), .int (Int32.ofNat len), .null] ∧ Blank "java/lang/String" a D s ∧ Found "java/lang/String" "value" "[B" fV s ∧ Found "java/lang/String" "coder" "B" fC s ∧ Ch b A s ∧ StaticIs s "java/lang/String" "COMPACT_STRINGS" "Z" (.int z) ∧ ¬ z = 0 ∧ 0 < len ∧ o + len ≤ A.slots.size ∧ len ≤ 536870912 ∧ ∀ i, i < len → ¬ 255 < cv A (o + i)
def E (a : Addr) (D : Cell) (fV fC : Field) (A : Cell) (o len : Nat) (r : Option Value) (s u : State) : Prop := Got a D fV fC A o len r s u
/-- len > 0, no char of the range above 255: a Latin-1 String of their low bytes -/
theorem law (l : Launch) (a : Addr) (D : Cell) (fV fC : Field) (b : Addr) (A : Cell) (z : Int32) (o len : Nat) : Law l yN 5 4 2 35 yB 6 none site (P a D fV fC b A z o len) (E a D fV fC A o len) [⟨a, fC.slot⟩, ⟨a, fV.slot⟩] 1 len := by
  refine Law.of_walk (plainFor_of_name (by decide +kernel)) (by decide +kernel) (by decide +kernel) (by decide) (fun _ _ h => by rw [h.1]; rfl) (fun _ U U' hal hh h => ⟨h.1, h.2.1.mv hal hh, h.2.2.1.al hal, h.2.2.2.1.al hal, h.2.2.2.2.1.mv hal hh, h.2.2.2.2.2.1.there hal hh, h.2.2.2.2.2.2⟩) (fun r U U' V V' h1 hal h2 h => Got.mv r U U' V V' h1 hal h2 h) ?_
  intro p e s m args below meth c s₁ X0 hexec hbytes hml hret hlk hnm hown hh0 W hP
  obtain ⟨rfl, hB, f1, f2, hA, s1, hz, l0, l1, l2, hp⟩ := hP
  have a31 := hA.1.2.2.2
  have c1 : Steps p.tables e below (s₁.setTop (entryFrame m #[.ref a, .ref b, .int (Int32.ofNat o), .int (Int32.ofNat len), .null] 6)) (s₁.setTop (mkF m 0 #[.val (.ref a), .val (.ref b), .val (.int (Int32.ofNat o)), .val (.int (Int32.ofNat len)), .val .null, .unset] [])) := entry rfl
  have c2 : Steps p.tables e below (s₁.setTop (entryFrame m #[.ref a, .ref b, .int (Int32.ofNat o), .int (Int32.ofNat len), .null] 6)) (s₁.setTop (mkF m 1 #[.val (.ref a), .val (.ref b), .val (.int (Int32.ofNat o)), .val (.int (Int32.ofNat len)), .val .null, .unset] [.ref a])) := c1.trans (by
    refine XS.aloadN X0.here hexec rfl (hb hbytes d0) rfl rfl ?_
    exact Steps.refl _)
  obtain ⟨T3, X3, q3, st3⟩ := X0.oinit hexec hown (wks W (objW "java/lang/String" 1)) (g := (mkF m 1 #[.val (.ref a), .val (.ref b), .val (.int (Int32.ofNat o)), .val (.int (Int32.ofNat len)), .val .null, .unset] [.ref a])) rfl (by rw [hml]; rfl) (rest := []) rfl (hb hbytes d1) (W := 0) (by show 2 * 0 + 0 ≤ _; decide) (Nat.le_of_ble_eq_true rfl) (Nat.le_of_ble_eq_true rfl)
  have hh3 := q3.trans hh0
  have c4 : Steps p.tables e below (s₁.setTop (entryFrame m #[.ref a, .ref b, .int (Int32.ofNat o), .int (Int32.ofNat len), .null] 6)) (T3.setTop (mkF m 27 #[.val (.ref a), .val (.ref b), .val (.int (Int32.ofNat o)), .val (.int (Int32.ofNat len)), .val .null, .unset] [])) := (c2.trans (st3 _ (Steps.refl _))).trans (by
    refine XS.iloadN X3.here hexec rfl (hb hbytes d4) rfl ?_
    refine XS.ifYes X3.here hexec rfl (pc0 := 5) rfl (hb hbytes d5) rfl (i0_ne_t (nz32 (by omega) l0)) (by decide) rfl ?_
    exact Steps.refl _)
  obtain ⟨T5, X5, q5, st5⟩ := X3.sget hexec hown (wk W (.fieldLink "java/lang/String" 38 "java/lang/String" "COMPACT_STRINGS" "Z")) s1 (fun _ _ h => by rw [hh3]; exact h) (g := (mkF m 27 #[.val (.ref a), .val (.ref b), .val (.int (Int32.ofNat o)), .val (.int (Int32.ofNat len)), .val .null, .unset] [])) rfl (hb hbytes d27)
  have hh5 := q5.trans hh3
  have c6 : Steps p.tables e below (s₁.setTop (entryFrame m #[.ref a, .ref b, .int (Int32.ofNat o), .int (Int32.ofNat len), .null] 6)) (T5.setTop (mkF m 30 #[.val (.ref a), .val (.ref b), .val (.int (Int32.ofNat o)), .val (.int (Int32.ofNat len)), .val .null, .unset] [.int z])) := c4.trans (st5 _ (Steps.refl _))
  have c7 : Steps p.tables e below (s₁.setTop (entryFrame m #[.ref a, .ref b, .int (Int32.ofNat o), .int (Int32.ofNat len), .null] 6)) (T5.setTop (mkF m 36 #[.val (.ref a), .val (.ref b), .val (.int (Int32.ofNat o)), .val (.int (Int32.ofNat len)), .val .null, .unset] [.int (Int32.ofNat len), .int (Int32.ofNat o), .ref b])) := c6.trans (by
    refine XS.ifNo X5.here hexec rfl (hb hbytes d30) rfl (i0_eq_f hz) ?_
    refine XS.aloadN X5.here hexec rfl (hb hbytes d33) rfl rfl ?_
    refine XS.iloadN X5.here hexec rfl (hb hbytes d34) rfl ?_
    refine XS.iloadN X5.here hexec rfl (hb hbytes d35) rfl ?_
    exact Steps.refl _)
  obtain ⟨v8, T8, X8, E8, g8⟩ := X5.callS hexec (Cmp3.law l b A o len) hown (wks W (staticW "java/lang/String" 177 Cmp3.yN)) (wk W Cmp3.tab) (W := 0) (Nat.le_of_ble_eq_true rfl) (Nat.le_of_ble_eq_true rfl) (Nat.le_refl _) (by show 0 + len ≤ len; omega) (g := (mkF m 36 #[.val (.ref a), .val (.ref b), .val (.int (Int32.ofNat o)), .val (.int (Int32.ofNat len)), .val .null, .unset] [.int (Int32.ofNat len), .int (Int32.ofNat o), .ref b])) rfl (by rw [hml]; rfl) c7 (argsL := [.ref b, .int (Int32.ofNat o), .int (Int32.ofNat len)]) (rest := []) rfl rfl (by show 2 * 0 + 0 ≤ _; decide) (hb hbytes d36) (⟨rfl, hA.mv X5.warmed.alike hh5, l1, l2, hp⟩)
  obtain ⟨e8, z8⟩ := E8
  obtain ⟨rfl, N, n1, n2, n3, n4, n5, n6⟩ := NewArr.mv _ T5 s _ _ hh5.symm (Vm.Alike.refl _) rfl e8
  rw [hh5] at z8
  have hB1 := hB.keep X8.warmed.alike (n6 _ _ hB.1)
  have hne : s.heap.size ≠ a := (Nat.ne_of_lt (Array.getElem?_eq_some_iff.mp hB.1).1).symm
  have c9 : Steps p.tables e below (s₁.setTop (entryFrame m #[.ref a, .ref b, .int (Int32.ofNat o), .int (Int32.ofNat len), .null] 6)) (T8.setTop (mkF m 39 #[.val (.ref a), .val (.ref b), .val (.int (Int32.ofNat o)), .val (.int (Int32.ofNat len)), .val .null, .unset] [.ref s.heap.size])) := g8
  have c10 : Steps p.tables e below (s₁.setTop (entryFrame m #[.ref a, .ref b, .int (Int32.ofNat o), .int (Int32.ofNat len), .null] 6)) (T8.setTop (mkF m 45 #[.val (.ref a), .val (.ref b), .val (.int (Int32.ofNat o)), .val (.int (Int32.ofNat len)), .val .null, .val (.ref s.heap.size)] [.int (Int32.ofNat N.slots.size), .ref s.heap.size, .ref a])) := by
    have hc : Steps p.tables e below (s₁.setTop (entryFrame m #[.ref a, .ref b, .int (Int32.ofNat o), .int (Int32.ofNat len), .null] 6)) (T8.setTop (mkF m 45 #[.val (.ref a), .val (.ref b), .val (.int (Int32.ofNat o)), .val (.int (Int32.ofNat len)), .val .null, .val (.ref s.heap.size)] [.int (Int32.ofNat len), .ref s.heap.size, .ref a])) := c9.trans (by
      refine XS.astore X8.here hexec rfl (hb hbytes d39) rfl rfl rfl ?_
      refine XS.aloadN X8.here hexec rfl (hb hbytes d41) rfl rfl ?_
      refine XS.aload X8.here hexec rfl (hb hbytes d42) rfl rfl ?_
      refine XS.iloadN X8.here hexec rfl (hb hbytes d44) rfl ?_
      exact Steps.refl _)
    rw [n4]; exact hc
  obtain ⟨v11, T11, X11, E11, g11⟩ := X8.callS hexec (CodL.law l s.heap.size N) hown (wks W (staticW "java/lang/String" 47 CodL.yN)) (wk W CodL.tab) (W := 1) (Nat.le_of_ble_eq_true rfl) (Nat.le_of_ble_eq_true rfl) (Nat.le_refl _) (by show 0 + len + 0 ≤ len; omega) (g := (mkF m 45 #[.val (.ref a), .val (.ref b), .val (.int (Int32.ofNat o)), .val (.int (Int32.ofNat len)), .val .null, .val (.ref s.heap.size)] [.int (Int32.ofNat N.slots.size), .ref s.heap.size, .ref a])) rfl (by rw [hml]; rfl) c10 (argsL := [.ref s.heap.size, .int (Int32.ofNat N.slots.size)]) (rest := [.ref a]) rfl rfl (by show 2 * 0 + (1 + 0) ≤ _; decide) (hb hbytes d45) (⟨rfl, n1⟩)
  obtain ⟨rfl, q11⟩ := E11
  have hB11 := hB1.mv (X8.warmed.alike.symm.trans X11.warmed.alike) q11
  have c12 : Steps p.tables e below (s₁.setTop (entryFrame m #[.ref a, .ref b, .int (Int32.ofNat o), .int (Int32.ofNat len), .null] 6)) (T11.setTop (mkF m 48 #[.val (.ref a), .val (.ref b), .val (.int (Int32.ofNat o)), .val (.int (Int32.ofNat len)), .val .null, .val (.ref s.heap.size)] [.int 0, .ref a])) := g11
  obtain ⟨T13, X13, p13, bl13, sl13, st13⟩ := X11.finit hexec hown (wk W (.fieldLink "java/lang/String" 15 "java/lang/String" "coder" "B")) (Or.inr ⟨_, (wk W (.laysFinal "java/lang/String" "java/lang/String" "coder" "B"))⟩) (Or.inl ⟨rfl, hnm⟩) f2 (Or.inl rfl) hB11 (t := .byte) (by decide +kernel) rfl (g := (mkF m 48 #[.val (.ref a), .val (.ref b), .val (.int (Int32.ofNat o)), .val (.int (Int32.ofNat len)), .val .null, .val (.ref s.heap.size)] [.int 0, .ref a])) rfl (rest := []) rfl (hb hbytes d48)
  have c14 : Steps p.tables e below (s₁.setTop (entryFrame m #[.ref a, .ref b, .int (Int32.ofNat o), .int (Int32.ofNat len), .null] 6)) (T13.setTop (mkF m 54 #[.val (.ref a), .val (.ref b), .val (.int (Int32.ofNat o)), .val (.int (Int32.ofNat len)), .val .null, .val (.ref s.heap.size)] [.ref s.heap.size, .ref a])) := (c12.trans (st13 _ (Steps.refl _))).trans (by
    refine XS.aloadN X13.here hexec rfl (hb hbytes d51) rfl rfl ?_
    refine XS.aload X13.here hexec rfl (hb hbytes d52) rfl rfl ?_
    exact Steps.refl _)
  obtain ⟨T15, X15, p15, bl15, sl15, st15⟩ := X13.finit hexec hown (wk W (.fieldLink "java/lang/String" 9 "java/lang/String" "value" "[B")) (Or.inr ⟨_, (wk W (.laysFinal "java/lang/String" "java/lang/String" "value" "[B"))⟩) (Or.inl ⟨rfl, hnm⟩) f1 (Or.inl rfl) bl13 (t := (.array .byte)) (by decide +kernel) rfl (g := (mkF m 54 #[.val (.ref a), .val (.ref b), .val (.int (Int32.ofNat o)), .val (.int (Int32.ofNat len)), .val .null, .val (.ref s.heap.size)] [.ref s.heap.size, .ref a])) rfl (rest := []) rfl (hb hbytes d54)
  have c16 : Steps p.tables e below (s₁.setTop (entryFrame m #[.ref a, .ref b, .int (Int32.ofNat o), .int (Int32.ofNat len), .null] 6)) (T15.setTop (mkF m 57 #[.val (.ref a), .val (.ref b), .val (.int (Int32.ofNat o)), .val (.int (Int32.ofNat len)), .val .null, .val (.ref s.heap.size)] [])) := c14.trans (st15 _ (Steps.refl _))
  have ap := apart (Or.inr ⟨_, (wk W (.laysFinal "java/lang/String" "java/lang/String" "value" "[B"))⟩) (Or.inr ⟨_, (wk W (.laysFinal "java/lang/String" "java/lang/String" "coder" "B"))⟩) f1 f2 (t₁ := .array .byte) (t₂ := .byte) (by decide +kernel) (by decide +kernel) (by decide)
  have al := X8.warmed.alike.symm.trans X15.warmed.alike
  have n7 : T11.heap[s.heap.size]? = some N := by rw [q11]; exact n1.1
  exact ⟨T15, none, _, _, _, X15, by simp, rfl, by omega, (fun _ => rfl), ⟨rfl, _, N, bl15, ((Same.refl D _).set _ (by simp)).set _ (by simp), sl15, (Cell.slots_setSlot_ne _ ap).trans sl13, n1.keep al (p15.other hne (p13.other hne n7)), n2, by rw [al.findClass]; exact n3, n4, n5, fun y c h1 h2 => p15.other h1 (p13.other h1 (by rw [q11]; exact n6 y c h2)), by rw [p15.2.2, p13.2.2, q11]; exact z8⟩, fun fs hl => c16.trans (X15.returnOut hexec hret (hb hbytes d57) hl)⟩
end New4
namespace New1
def yN : MethodName := ⟨"java/lang/String", "<init>", "([C)V"⟩
abbrev yB : ByteArray := jdk_42_method_3_code
theorem d0 : decode yB 0 = .ok (.aload_n 0, 1) := by decide +kernel
theorem d1 : decode yB 1 = .ok (.aload_n 1, 1) := by decide +kernel
theorem d2 : decode yB 2 = .ok (.iconst 0, 1) := by decide +kernel
theorem d3 : decode yB 3 = .ok (.aload_n 1, 1) := by decide +kernel
theorem d4 : decode yB 4 = .ok (.arraylength, 1) := by decide +kernel
theorem d5 : decode yB 5 = .ok (.aconst_null, 1) := by decide +kernel
theorem d6 : decode yB 6 = .ok (.invokespecial 27, 3) := by decide +kernel
theorem d9 : decode yB 9 = .ok (.return_, 1) := by decide +kernel
def site : List Cond := [New4.tab] ++ initW "java/lang/String" 27 New4.yN
def tab : Cond := tabOf yN yB 2 none site
def P (a : Addr) (D : Cell) (fV fC : Field) (b : Addr) (A : Cell) (z : Int32) (args : Array Value) (s : State) : Prop := args = #[.ref a, .ref b] ∧ Blank "java/lang/String" a D s ∧ Found "java/lang/String" "value" "[B" fV s ∧ Found "java/lang/String" "coder" "B" fC s ∧ Ch b A s ∧ StaticIs s "java/lang/String" "COMPACT_STRINGS" "Z" (.int z) ∧ ¬ z = 0 ∧ 0 < A.slots.size ∧ A.slots.size ≤ 536870912 ∧ ∀ i, i < A.slots.size → ¬ 255 < cv A i
def E (a : Addr) (D : Cell) (fV fC : Field) (A : Cell) (r : Option Value) (s u : State) : Prop := Got a D fV fC A 0 A.slots.size r s u
/-- new String(chars), not empty, no char above 255: a Latin-1 String of their low bytes -/
theorem law (l : Launch) (a : Addr) (D : Cell) (fV fC : Field) (b : Addr) (A : Cell) (z : Int32) : Law l yN 2 1 3 52 yB 2 none site (P a D fV fC b A z) (E a D fV fC A) [⟨a, fC.slot⟩, ⟨a, fV.slot⟩] 1 A.slots.size := by
  refine Law.of_walk (plainFor_of_name (by decide +kernel)) (by decide +kernel) (by decide +kernel) (by decide) (fun _ _ h => by rw [h.1]; rfl) (fun _ U U' hal hh h => ⟨h.1, h.2.1.mv hal hh, h.2.2.1.al hal, h.2.2.2.1.al hal, h.2.2.2.2.1.mv hal hh, h.2.2.2.2.2.1.there hal hh, h.2.2.2.2.2.2⟩) (fun r U U' V V' h1 hal h2 h => Got.mv r U U' V V' h1 hal h2 h) ?_
  intro p e s m args below meth c s₁ X0 hexec hbytes hml hret hlk hnm hown hh0 W hP
  obtain ⟨rfl, hB, f1, f2, hA, s1, hz, l0, l2, hp⟩ := hP
  have c1 : Steps p.tables e below (s₁.setTop (entryFrame m #[.ref a, .ref b] 2)) (s₁.setTop (mkF m 0 #[.val (.ref a), .val (.ref b)] [])) := entry rfl
  have c2 : Steps p.tables e below (s₁.setTop (entryFrame m #[.ref a, .ref b] 2)) (s₁.setTop (mkF m 6 #[.val (.ref a), .val (.ref b)] [.null, .int (Int32.ofNat A.slots.size), .int 0, .ref b, .ref a])) := c1.trans (by
    refine XS.aloadN X0.here hexec rfl (hb hbytes d0) rfl rfl ?_
    refine XS.aloadN X0.here hexec rfl (hb hbytes d1) rfl rfl ?_
    refine iconstV X0.here hexec rfl 0 (hb hbytes d2) (by decide) ?_
    refine XS.aloadN X0.here hexec rfl (hb hbytes d3) rfl rfl ?_
    refine X0.alen hexec (hA.1.mv X0.warmed.alike hh0) rfl rfl (hb hbytes d4) ?_
    refine XS.aconstNull X0.here hexec rfl (hb hbytes d5) ?_
    exact Steps.refl _)
  obtain ⟨v3, T3, X3, E3, g3⟩ := X0.callN hexec (New4.law l a D fV fC b A z 0 A.slots.size) rfl hown (wks W (initW "java/lang/String" 27 New4.yN)) (W New4.tab (by simp only [site, List.mem_cons, List.mem_append, true_or, or_true])) (W := 0) (Nat.le_of_ble_eq_true rfl) (Nat.le_of_ble_eq_true rfl) (Nat.le_refl _) (by show 0 + A.slots.size ≤ A.slots.size; omega) (g := (mkF m 6 #[.val (.ref a), .val (.ref b)] [.null, .int (Int32.ofNat A.slots.size), .int (Int32.ofNat 0), .ref b, .ref a])) rfl (by rw [hml]; rfl) c2 (argsL := [.ref b, .int (Int32.ofNat 0), .int (Int32.ofNat A.slots.size), .null]) (rest := []) rfl rfl (by show 2 * 0 + 0 ≤ _; decide) (hb hbytes d6) (⟨rfl, hB.mv X0.warmed.alike hh0, f1.al X0.warmed.alike, f2.al X0.warmed.alike, hA.mv X0.warmed.alike hh0, s1.there X0.warmed.alike hh0, hz, l0, by omega, l2, fun i hi => by rw [Nat.zero_add]; exact hp i hi⟩)
  have e0 := Got.mv _ s₁ s _ _ hh0.symm (Vm.Alike.refl _) rfl E3
  obtain rfl := e0.1
  have c4 : Steps p.tables e below (s₁.setTop (entryFrame m #[.ref a, .ref b] 2)) (T3.setTop (mkF m 9 #[.val (.ref a), .val (.ref b)] [])) := g3
  exact ⟨T3, none, _, _, _, X3, by simp, rfl, by omega, (fun _ => rfl), e0, fun fs hl => c4.trans (X3.returnOut hexec hret (hb hbytes d9) hl)⟩
theorem pays {l : Launch} {R : Room} {p : Program} {e : Env} {below : List Frame} {s : State} {sargs : Array Value} {len W : Nat} (a : Addr) (D : Cell) (fV fC : Field) (b : Addr) (A : Cell) (z : Int32) (htab : tab.before sargs s = true) (hfr : 4 ≤ R.frames) (hlo : W + 65 ≤ R.locals) :
    Back l R p e below s sargs yN len W (fun A₁ a₁ => A₁.cells + 1 ≤ R.cells ∧ A₁.slots + A.slots.size ≤ R.slots ∧ P a D fV fC b A z a₁ A₁.U) (fun A₁ _ v₁ B₁ => E a D fV fC A v₁ A₁.U B₁.U ∧ B₁.locs = A₁.locs ++ [⟨a, fC.slot⟩, ⟨a, fV.slot⟩] ∧ B₁.cells = A₁.cells + 1 ∧ B₁.slots = A₁.slots + A.slots.size) :=
  (law l a D fV fC b A z).pays htab hfr (by omega)
end New1
/-- the byte, read back as charAt reads it, is the char -/
theorem lo8_mask {x : Int32} (h0 : ¬ x < 0) (h1 : ¬ 255 < x) : lo8 x &&& 255 = x := by
  have t : ∀ k : Fin 256, lo8 (Int32.ofNat k.val) &&& 255 = Int32.ofNat k.val := by decide +kernel
  rw [Int32.lt_iff_toInt_lt] at h0 h1
  have e0 : (0 : Int32).toInt = 0 := rfl
  have e1 : (255 : Int32).toInt = 255 := rfl
  obtain ⟨k, hk⟩ : ∃ k : Nat, x.toInt = k := ⟨x.toInt.toNat, by omega⟩
  have hx : x = Int32.ofNat k := Int32.toInt_inj.mp (by rw [hk, Int32.toInt_ofNat_small (by omega)])
  rw [hx]
  exact t ⟨k, by omega⟩
end StrChars
namespace StrChars.Road
open Jvm Sem ClassFile Op Lib Jvm.Stand Jvm.Free Jvm.Free.XT
open Jvm.Lib.Cold (StaticIs)
abbrev ST : String := "java/lang/String"
/-- every table word that New1's law asks, flat -/
abbrev words : List Jvm.Cond := [.code New1.yN New1.yB 2 none, .initialized ST, .methodLink ST 27 New4.yN, .instanceMethod New4.yN,
  .code New4.yN New4.yB 6 none, .fieldLink ST 38 ST "COMPACT_STRINGS" "Z", .laysFinal ST ST "value" "[B", .fieldLink ST 9 ST "value" "[B", .laysFinal ST ST "coder" "B", .fieldLink ST 15 ST "coder" "B",
  .methodLink ST 1 Lib.objectInit, .instanceMethod Lib.objectInit, .code Lib.objectInit ⟨#[0xb1]⟩ 1 none, .methodLink ST 177 Cmp3.yN, .static Cmp3.yN, .methodLink ST 47 CodL.yN, .static CodL.yN,
  .code Cmp3.yN Cmp3.yB 6 (some (.array .byte)), .initialized U16, .arrayClass .byte, .methodLink U16 115 Cmp5.yN, .static Cmp5.yN, .code Cmp5.yN Cmp5.yB 7 (some .int), .code CodL.yN CodL.yB 2 (some .byte)]
theorem tab_of {a : Array Value} {s : State} (h : ∀ w ∈ words, w.before a s = true) : New1.tab.before a s = true := by
  have h5 : Cmp5.tab.before a s = true := unparts (wk h (.code Cmp5.yN Cmp5.yB 7 (some .int))) (wks h (.initialized Cmp5.yN.cls :: Cmp5.site))
  have hc : CodL.tab.before a s = true := unparts (wk h (.code CodL.yN CodL.yB 2 (some .byte))) (wks h (.initialized CodL.yN.cls :: CodL.site))
  have q5 : ∀ w ∈ Cmp5.tab :: words, w.before a s = true := fun w hw => (List.mem_cons.mp hw).elim (fun e => e ▸ h5) (h w)
  have h3 : Cmp3.tab.before a s = true := unparts (wk q5 (.code Cmp3.yN Cmp3.yB 6 (some (.array .byte)))) (wks q5 (.initialized Cmp3.yN.cls :: Cmp3.site))
  have q3 : ∀ w ∈ Cmp3.tab :: CodL.tab :: words, w.before a s = true := fun w hw => (List.mem_cons.mp hw).elim (fun e => e ▸ h3) fun hw => (List.mem_cons.mp hw).elim (fun e => e ▸ hc) (h w)
  have h4 : New4.tab.before a s = true := unparts (wk q3 (.code New4.yN New4.yB 6 none)) (wks q3 (.initialized New4.yN.cls :: New4.site))
  have q4 : ∀ w ∈ New4.tab :: words, w.before a s = true := fun w hw => (List.mem_cons.mp hw).elim (fun e => e ▸ h4) (h w)
  exact unparts (wk q4 (.code New1.yN New1.yB 2 none)) (wks q4 (.initialized New1.yN.cls :: New1.site))
/-- the words ride from the start Z to the walk's own state -/
theorem moved {Z s : State} {a0 args : Array Value} (hZ : Z.Warmed39 s.vm) (hw : ∀ d ∈ words, d.before a0 Z = true) : ∀ d ∈ words, d.before args s = true := fun d hd => by
  have q := hw d hd
  have t : ∀ d ∈ words, d = .arrayClass .byte ∨ (d.onTables && d.keepsFace) = true := by decide +kernel
  rcases t d hd with rfl | t
  · exact RoadKit.mvA hZ q
  · exact RoadKit.mv hZ q t
/-- WHAT COMES BACK, over the tables of the start Z: h the heap at the call, h' behind it -/
def Q (Z : State) (x : Addr) (A : Cell) (h : Heap) (v : Option Value) (h' : Heap) (L : List Loc) : Prop := v = none ∧ (∀ y ∈ L, y.base = x) ∧ RoadKit.Keep h h' [x] ∧ h'.size = h.size + 1 ∧ RoadKit.Exa Z h' x ST ∧ RoadKit.Fld Z h' x ST "value" "[B" (.ref h.size) ∧ RoadKit.Fld Z h' x ST "coder" "B" (.int 0) ∧
  (∃ V : Cell, RoadKit.Arr Z h' h.size V .byte ∧ V.vm = .none ∧ Z.vm.findClass "[B" = some V.cls ∧ V.slots.size = A.slots.size ∧ ∀ j, j < A.slots.size → V.slots[j]? = some (.int (lo8 (cv A j)))) ∧
  ∀ (O n d : String) (w : Value), RoadKit.Fld Z h x O n d w → RoadKit.slotOf Z O n d ≠ RoadKit.slotOf Z ST "value" "[B" → RoadKit.slotOf Z O n d ≠ RoadKit.slotOf Z ST "coder" "B" → RoadKit.Fld Z h' x O n d w
/-- **new String(chars) AT A CALL, IN THE ROAD'S FORM**: for specialBack behind newO: x the fresh String, b the char[] with the cell A -/
theorem back {p : Program} {l : Launch} {e : Env} {R : Room} {s : State} {args : Array Value} {below : List Frame} {len W : Nat} {Z : State} {a0 : Array Value} {h : Heap} (hZ : Z.Warmed39 s.vm) (hw : ∀ d ∈ words, d.before a0 Z = true) {kI : Nat} (wi : (Jvm.Cond.instantiable ST kI).before a0 Z = true)
    {x b : Addr} {A : Cell} {z : Int32} {v0 c0 : Value} (E : RoadKit.Exa Z h x ST) (V : RoadKit.Fld Z h x ST "value" "[B" v0) (C : RoadKit.Fld Z h x ST "coder" "B" c0) (K : RoadKit.Arr Z h b A .char) (hty : Typed .char A) (S : RoadKit.Sta Z h ST "COMPACT_STRINGS" "Z" (.int z)) (hz : ¬ z = 0)
    (l0 : 0 < A.slots.size) (l2 : A.slots.size ≤ 536870912) (hp : ∀ i, i < A.slots.size → ¬ 255 < cv A i) (hfr : 4 ≤ R.frames) (hlo : W + 65 ≤ R.locals) :
    Back l R p e below s args New1.yN len W (fun P a => a = #[.ref x, .ref b] ∧ P.U.heap = h ∧ P.cells + 1 ≤ R.cells ∧ P.slots + A.slots.size ≤ R.slots)
      (fun P _ v B => ∃ L, Q Z x A h v B.U.heap L ∧ B.locs = P.locs ++ L ∧ B.cells = P.cells + 1 ∧ B.slots = P.slots + A.slots.size) := by
  intro m meth c P g ig mk a X hg hsize hdg hW hn hp'
  obtain ⟨rfl, rfl, r1, r2⟩ := hp'
  have al : Z.vm.Alike P.U.vm := hZ.alike.trans X.warmed.alike
  obtain ⟨D, cfV, kV, iV, fV, hD, gV, stV, knV, obV, asV, slV⟩ := id V
  obtain ⟨D', cfC, kC, iC, fC, hD', gC, stC, -, -, asC, slC⟩ := id C
  cases hD.symm.trans hD'
  obtain ⟨D2, kD, e1, e2, e3, e4, e5⟩ := id E
  cases hD.symm.trans e1
  obtain ⟨c2, k2, i1, i2, i3, -⟩ := Cond.instantiable_spec wi
  cases e2.symm.trans i1
  cases e3.symm.trans i2
  obtain ⟨kU, u1, u2⟩ := al.2.2 _ _ e3
  have hB : Blank ST x D P.U := ⟨hD, ⟨knV, fun q hq => by rw [hq] at obV; cases obV⟩, by rw [al.findClass]; exact e2, kU, u1, by rw [u2]; exact i3, by rw [u2]; exact e5 i3⟩
  have F1 : Found ST "value" "[B" fV P.U := ⟨SBG.found_only al ⟨cfV, kV, iV, gV⟩, stV⟩
  have F2 : Found ST "coder" "B" fC P.U := ⟨SBG.found_only al ⟨cfC, kC, iC, gC⟩, stC⟩
  have hA : Ch b A P.U := ⟨⟨K.1, State.isArrayOf_alike al K.2.1, K.2.2, by omega⟩, hty⟩
  have hS : StaticIs P.U ST "COMPACT_STRINGS" "Z" (.int z) := by
    obtain ⟨cfS, iS, kS, fS, st, cS, t1, t2, t3, t4, t5, t6, t7⟩ := S
    exact StaticIs.there (s := { Z with heap := P.U.heap }) ⟨cfS, iS, kS, fS, st, cS, t1, t2, t3, t4, t5, (fun q => by rw [q] at t6; cases t6), t7⟩ al rfl
  obtain ⟨v, B, X', ⟨⟨hv, E', V', q1, q2, q3, q4, q5, q6, q7, q8, q9, q10, q11⟩, hl, hc, hs⟩, st⟩ := New1.pays x D fV fC b A z (tab_of (moved hZ hw)) hfr hlo m meth c P g ig mk _ X hg hsize hdg hW hn ⟨r1, r2, rfl, hB, F1, F2, hA, hS, hz, l0, l2, hp⟩
  have al' : Z.vm.Alike B.U.vm := hZ.alike.trans X'.warmed.alike
  have hsz : E'.slots.size = D.slots.size := by
    obtain ⟨-, -, -, kB, w1, w2, w3⟩ := q1
    obtain ⟨kB', y1, y2⟩ := al'.2.2 _ _ e3
    rw [q2.2.1] at w1
    cases w1.symm.trans y1
    rw [w3, e5 i3, y2]
  refine ⟨v, B, X', ⟨_, ⟨hv, ?_, ⟨by omega, fun y cy hy hn' => q10 y cy (by simpa using hn') hy, fun y cy hy => ?_⟩, q11, ⟨E', _, q1.1, by rw [q2.2.1]; exact e2, by rw [q2.2.1]; exact e3, by rw [q2.1]; exact obV, fun _ => by rw [hsz]; exact e5 i3⟩,
    ⟨E', cfV, kV, iV, fV, q1.1, gV, stV, by rw [q2.1]; exact knV, by rw [q2.1]; exact obV, by rw [q2.2.1]; exact asV, q3⟩, ⟨E', cfC, kC, iC, fC, q1.1, gC, stC, by rw [q2.1]; exact knV, by rw [q2.1]; exact obV, by rw [q2.2.1]; exact asC, q4⟩,
    ⟨V', ⟨q5.1, State.isArrayOf_alike al'.symm q5.2.1, q5.2.2.1⟩, q6, by rw [← al'.findClass]; exact q7, q8, fun j hj => by have := q9 j hj; rwa [Nat.zero_add] at this⟩, fun O n d w F n1 n2 => ?_⟩, hl, hc, hs⟩, st⟩
  · intro y hy
    simp only [List.mem_cons, List.not_mem_nil, or_false] at hy
    rcases hy with rfl | rfl <;> rfl
  · by_cases q : y = x
    · subst q
      cases hD.symm.trans hy
      exact ⟨E', q1.1, q2.2.1, q2.1, hsz⟩
    · exact ⟨cy, q10 y cy q hy, rfl, rfl, rfl⟩
  · obtain ⟨D3, cf, k, i, f, g1, g2, g3, g4, g5, g6, g7⟩ := F
    cases hD.symm.trans g1
    simp only [RoadKit.slotOf, g2, gV, gC, Option.map_some, Option.getD_some] at n1 n2
    exact ⟨E', cf, k, i, f, q1.1, g2, g3, by rw [q2.1]; exact g4, by rw [q2.1]; exact g5, by rw [q2.2.1]; exact g6, by rw [q2.2.2 f.slot (by simp [n1, n2])]; exact g7⟩
end StrChars.Road
namespace StrChars.Road
open Jvm Sem ClassFile Op Lib Jvm.Stand Jvm.Free Jvm.Free.XT
/-- WHAT COMES BACK, the byte[] as a list of values -/
def QA (Z : State) (x : Addr) (zn : Int32) (cs : List Int32) (h : Heap) (v : Option Value) (h' : Heap) (L : List Loc) : Prop := v = none ∧ (∀ y ∈ L, y.base = x) ∧ RoadKit.Keep h h' [x] ∧ h'.size = h.size + 1 ∧ RoadKit.Exa Z h' x ST ∧ RoadKit.Fld Z h' x ST "value" "[B" (.ref h.size) ∧ RoadKit.Fld Z h' x ST "coder" "B" (.int 0) ∧
  (∃ kb, Z.vm.findClass "[B" = some kb ∧ RoadKit.Arv Z h' h.size kb .byte zn (cs.map fun c => .int (lo8 c)) (.int 0)) ∧
  ∀ (O n d : String) (w : Value), RoadKit.Fld Z h x O n d w → RoadKit.slotOf Z O n d ≠ RoadKit.slotOf Z ST "value" "[B" → RoadKit.slotOf Z O n d ≠ RoadKit.slotOf Z ST "coder" "B" → RoadKit.Fld Z h' x O n d w
/-- **new String(chars) AT A CALL, THE ARRAYS AS LISTS**: the char[] at b holds cs, not empty, no char above 255 -/
theorem backArv {p : Program} {l : Launch} {e : Env} {R : Room} {s : State} {args : Array Value} {below : List Frame} {len W : Nat} {Z : State} {a0 : Array Value} {h : Heap} (hZ : Z.Warmed39 s.vm) (hw : ∀ d ∈ words, d.before a0 Z = true) {kI : Nat} (wi : (Jvm.Cond.instantiable ST kI).before a0 Z = true)
    {x b : Addr} {k : ClassId} {zn z : Int32} {cs : List Int32} {dv v0 c0 : Value} (E : RoadKit.Exa Z h x ST) (V : RoadKit.Fld Z h x ST "value" "[B" v0) (C : RoadKit.Fld Z h x ST "coder" "B" c0) (K : RoadKit.Arv Z h b k .char zn (cs.map Value.int) dv) (S : RoadKit.Sta Z h ST "COMPACT_STRINGS" "Z" (.int z)) (hz : ¬ z = 0)
    (hlen : zn.toNatClampNeg = cs.length) (h0 : 0 < cs.length) (hbig : cs.length ≤ 536870912) (hall : ∀ c ∈ cs, ¬ 255 < c) (hfr : 4 ≤ R.frames) (hlo : W + 65 ≤ R.locals) :
    Back l R p e below s args New1.yN len W (fun P a => a = #[.ref x, .ref b] ∧ P.U.heap = h ∧ P.cells + 1 ≤ R.cells ∧ P.slots + cs.length ≤ R.slots)
      (fun P _ v B => ∃ L, QA Z x zn cs h v B.U.heap L ∧ B.locs = P.locs ++ L ∧ B.cells = P.cells + 1 ∧ B.slots = P.slots + cs.length) := by
  obtain ⟨A, K1, K2, K3, K4, K5, K6⟩ := K
  have e : A.slots.size = cs.length := K3.trans hlen
  have hat : ∀ (i : Nat) (hi : i < cs.length), A.slots[i]? = some (.int cs[i]) := fun i hi => by rw [K5 i (by omega)]; simp [List.getD_eq_getElem?_getD, hi]
  have hcv : ∀ (i : Nat) (hi : i < cs.length), cv A i = cs[i] := fun i hi => by unfold cv; rw [hat i hi]
  have hty : Typed .char A := fun i v hv => by
    have hi : i < A.slots.size := (Array.getElem?_eq_some_iff.mp hv).1
    have q := K5 i hi
    rw [hv] at q
    rw [Option.some.inj q]
    exact K6 i hi
  refine Back.mono (back hZ hw wi E V C K1 hty S hz (by omega) (by omega) (fun i hi => by rw [hcv i (by omega)]; exact hall _ (List.getElem_mem _)) hfr hlo) (fun P a hp => ⟨hp.1, hp.2.1, hp.2.2.1, by rw [e]; exact hp.2.2.2⟩) (fun P a v B hp hq => ?_)
  obtain ⟨L, ⟨q1, q2, q3, q4, q5, q6, q7, ⟨V', v1, v2, v3, v4, v5⟩, q9⟩, hl, hc, hs⟩ := hq
  refine ⟨L, ⟨q1, q2, q3, q4, q5, q6, q7, ⟨V'.cls, v3, V', v1, rfl, by rw [v4, e, hlen], K4, fun i hi => ?_, fun i hi => ?_⟩, q9⟩, hl, hc, by rw [hs, e]⟩
  · have hi' : i < cs.length := by omega
    rw [v5 i (by omega), hcv i hi']; simp [List.getD_eq_getElem?_getD, hi']
  · have hi' : i < cs.length := by omega
    simp only [List.getD_eq_getElem?_getD, List.getElem?_map, List.getElem?_eq_getElem hi', Option.map_some, Option.getD_some]
    exact fits_lo8 _
end StrChars.Road
namespace StrChars.Road
open Jvm Sem ClassFile Op Lib Jvm.Stand Jvm.Free Jvm.Free.XT
/-- WHAT COMES BACK, in the writer's own shape -/
def QV (Z : State) (x : Addr) (N : Int32) (bs : List Int32) (h : Heap) (n0 : Nat) (v : Option Value) (h' : Heap) (L : List Loc) : Prop := v = none ∧ RoadKit.Fr n0 L ∧ RoadKit.Keep h h' [x] ∧ RoadKit.Exa Z h' x ST ∧ RoadKit.Fld Z h' x ST "coder" "B" (.int 0) ∧
  ∃ (t : Addr) (kb : ClassId), n0 ≤ t ∧ h.size ≤ t ∧ ¬ t = x ∧ RoadKit.Fld Z h' x ST "value" "[B" (.ref t) ∧ RoadKit.Arv Z h' t kb .byte N (bs.map Value.int) (.int 0)
/-- **new String(chars) AT A CALL, FOR THE WRITER**: a char[] of n known ints, each 0 to 255 -/
theorem backV {p : Program} {l : Launch} {e : Env} {R : Room} {s : State} {args : Array Value} {below : List Frame} {len W : Nat} {Z : State} {a0 : Array Value} {h : Heap} (hZ : Z.Warmed39 s.vm) (hw : ∀ d ∈ words, d.before a0 Z = true) {kI : Nat} (wi : (Jvm.Cond.instantiable ST kI).before a0 Z = true)
    {x b : Addr} {kC : ClassId} {cs bs : List Int32} {d v0 c0 : Value} {z N : Int32} {n n0 : Nat} (hx0 : n0 ≤ x) (hh0 : n0 ≤ h.size) (E : RoadKit.Exa Z h x ST) (V : RoadKit.Fld Z h x ST "value" "[B" v0) (C : RoadKit.Fld Z h x ST "coder" "B" c0) (K : RoadKit.Arv Z h b kC .char N (cs.map Value.int) d) (S : RoadKit.Sta Z h ST "COMPACT_STRINGS" "Z" (.int z)) (hz : ¬ z = 0)
    (hn : cs.length = n) (hN : N = Int32.ofNat n) (l0 : 0 < n) (l2 : n ≤ 4000) (hp : ∀ c ∈ cs, ¬ c < 0 ∧ ¬ (255 : Int32) < c) (hb : bs = cs.map (fun c => c.toInt8.toInt32)) (hfr : 4 ≤ R.frames) (hlo : W + 65 ≤ R.locals) :
    Back l R p e below s args (⟨"java/lang/String", "<init>", "([C)V"⟩ : MethodName) len W (fun P a => a = #[.ref x, .ref b] ∧ P.U.heap = h ∧ P.cells + 1 ≤ R.cells ∧ P.slots + n ≤ R.slots)
      (fun P _ v B => ∃ L, QV Z x N bs h n0 v B.U.heap L ∧ B.locs = P.locs ++ L ∧ B.cells = P.cells + 1 ∧ B.slots = P.slots + n) := by
  subst hn hN hb
  refine Back.mono (backArv hZ hw wi E V C K S hz (n32 (by omega)) l0 (by omega) (fun c hc => (hp c hc).2) hfr hlo) (fun P a hp => hp) (fun P a v B hp hq => ?_)
  obtain ⟨L, ⟨q1, q2, q3, q4, q5, q6, q7, ⟨kb, v1, v2⟩, q9⟩, hl, hc, hs⟩ := hq
  exact ⟨L, ⟨q1, fun y hy => by rw [q2 y hy]; exact hx0, q3, q5, q7, h.size, kb, hh0, Nat.le_refl _, Nat.ne_of_gt E.lt, q6, by rw [List.map_map]; exact v2⟩, hl, hc, hs⟩
end StrChars.Road
namespace StrChars
open Jvm Sem ClassFile Op Lib Jvm.Stand Jvm.Free.XT Jvm.Free.ALB Jvm.Free.JM Jvm.Free
open Jvm.Lib.Cold (StaticIs)
def hi8 (x : Int32) : Int32 := lo8 (x >>> ((8 : Int32) &&& 31))
/-- what StringUTF16.getChar makes of two bytes -/
def pairCh (u v : Int32) : Int32 := (((u &&& 255) <<< ((0 : Int32) &&& 31)) ||| ((v &&& 255) <<< ((8 : Int32) &&& 31))).toUInt32.toUInt16.toUInt32.toInt32
theorem shr0 (c : Int32) : c >>> ((0 : Int32) &&& 31) = c := by
  have e : ((0 : Int32) &&& 31) = 0 := by decide
  rw [e]
  apply Int32.toBitVec_inj.mp
  rw [Int32.toBitVec_shiftRight]
  have e1 : ((0 : Int32).toBitVec.smod 32) = 0#32 := by decide
  rw [e1, BitVec.sshiftRight_eq']
  exact BitVec.sshiftRight_zero
theorem lo8_and (x : Int32) : (lo8 x &&& 255).toBitVec.toNat = x.toBitVec.toNat % 256 := by
  have h : (lo8 x).toBitVec = (x.toBitVec.signExtend 8).signExtend 32 := by rw [lo8, Int8.toBitVec_toInt32, Int32.toBitVec_toInt8]
  rw [Int32.toBitVec_and, BitVec.toNat_and, h]
  have e : ((x.toBitVec.signExtend 8).signExtend 32).toNat % 256 = x.toBitVec.toNat % 256 := by
    rw [BitVec.toNat_signExtend]
    have hlt := x.toBitVec.isLt
    simp only [BitVec.toNat_setWidth, BitVec.toNat_signExtend]
    split <;> split <;> omega
  rw [← e]
  exact Nat.and_two_pow_sub_one_eq_mod _ 8
theorem pair_says {c : Int32} (h0 : ¬ c < 0) (h1 : ¬ 65535 < c) : pairCh (lo8 c) (hi8 c) = c := by
  rw [Int32.lt_iff_toInt_lt] at h0 h1
  have e0 : (0 : Int32).toInt = 0 := rfl
  have e1 : (65535 : Int32).toInt = 65535 := rfl
  have hc : c.toInt = c.toBitVec.toNat := by
    have := c.toBitVec.isLt
    have e : c.toInt = c.toBitVec.toInt := rfl
    rw [e] at h0 h1
    rw [e]
    rw [BitVec.toInt_eq_toNat_cond] at h0 h1 ⊢
    split at h0 <;> split <;> omega
  have hn : c.toBitVec.toNat < 65536 := by omega
  have a1 := lo8_and c
  have a2 : (hi8 c &&& 255).toBitVec.toNat = c.toBitVec.toNat / 256 := by
    rw [hi8, lo8_and]
    have e : ((8 : Int32) &&& 31) = 8 := by decide
    rw [e, Int32.toBitVec_shiftRight]
    have e2 : ((8 : Int32).toBitVec.smod 32) = 8#32 := by decide
    rw [e2, BitVec.sshiftRight_eq', BitVec.toNat_sshiftRight_of_msb_false (by rw [BitVec.msb_eq_false_iff_two_mul_lt]; omega)]
    show c.toBitVec.toNat >>> 8 % 256 = _
    rw [Nat.shiftRight_eq_div_pow]
    omega
  unfold pairCh
  apply Int32.toBitVec_inj.mp
  apply BitVec.eq_of_toNat_eq
  have f0 : ((0 : Int32) &&& 31) = 0 := by decide
  have f8 : ((8 : Int32) &&& 31) = 8 := by decide
  rw [f0, f8]
  have g : (((lo8 c &&& 255) <<< (0 : Int32)) ||| ((hi8 c &&& 255) <<< (8 : Int32))).toBitVec.toNat = c.toBitVec.toNat := by
    rw [Int32.toBitVec_or, Int32.toBitVec_shiftLeft, Int32.toBitVec_shiftLeft]
    have s0 : ((0 : Int32).toBitVec.smod 32) = 0#32 := by decide
    have s8 : ((8 : Int32).toBitVec.smod 32) = 8#32 := by decide
    rw [s0, s8, BitVec.toNat_or]
    simp only [BitVec.shiftLeft_eq', BitVec.toNat_shiftLeft, a1, a2]
    show (c.toBitVec.toNat % 256) <<< 0 % 2 ^ 32 ||| (c.toBitVec.toNat / 256) <<< 8 % 2 ^ 32 = _
    rw [Nat.shiftLeft_zero, Nat.mod_eq_of_lt (show c.toBitVec.toNat % 256 < 2 ^ 32 by omega), Nat.mod_eq_of_lt (show (c.toBitVec.toNat / 256) <<< 8 < 2 ^ 32 by rw [Nat.shiftLeft_eq]; omega), Nat.or_comm, ← Nat.shiftLeft_add_eq_or_of_lt (by omega), Nat.shiftLeft_eq]
    omega
  show BitVec.toNat (((((lo8 c &&& 255) <<< (0 : Int32)) ||| ((hi8 c &&& 255) <<< (8 : Int32))).toBitVec.setWidth 16).setWidth 32) = _
  rw [BitVec.toNat_setWidth, BitVec.toNat_setWidth, g]
  omega
end StrChars
namespace StrChars
open Jvm Sem ClassFile Op Lib Jvm.Stand Jvm.Free.XT Jvm.Free.ALB Jvm.Free.JM Jvm.Free
open Jvm.Lib.Cold (StaticIs)
theorem shr1 {n : Nat} (h : 2 * n < 2 ^ 31) : Int32.ofNat (2 * n) >>> ((1 : Int32) &&& 31) = Int32.ofNat n := by
  have e : ((1 : Int32) &&& 31) = 1 := by decide
  rw [e]
  apply Int32.toBitVec_inj.mp
  rw [Int32.toBitVec_shiftRight]
  have e1 : ((1 : Int32).toBitVec.smod 32) = 1#32 := by decide
  have hm : (BitVec.ofNat 32 (2 * n)).toNat = 2 * n := by rw [BitVec.toNat_ofNat, Nat.mod_eq_of_lt (by omega)]
  rw [e1, BitVec.sshiftRight_eq']
  apply BitVec.eq_of_toNat_eq
  show ((BitVec.ofNat 32 (2 * n)).sshiftRight 1).toNat = (BitVec.ofNat 32 n).toNat
  rw [BitVec.toNat_sshiftRight_of_msb_false (by rw [BitVec.msb_eq_false_iff_two_mul_lt, hm]; omega), hm, BitVec.toNat_ofNat, Nat.shiftRight_eq_div_pow]
  omega
/-- charAt's cast of a byte read back -/
def chr8 (u : Int32) : Int32 := (u &&& 255).toUInt32.toUInt16.toUInt32.toInt32
theorem chr8_lo8 {c : Int32} (h0 : ¬ c < 0) (h1 : ¬ 255 < c) : chr8 (lo8 c) = c := by
  have t : ∀ k : Fin 256, (Int32.ofNat k.val).toUInt32.toUInt16.toUInt32.toInt32 = Int32.ofNat k.val := by decide +kernel
  unfold chr8
  rw [lo8_mask h0 h1]
  rw [Int32.lt_iff_toInt_lt] at h0 h1
  have e0 : (0 : Int32).toInt = 0 := rfl
  have e1 : (255 : Int32).toInt = 255 := rfl
  obtain ⟨k, hk⟩ : ∃ k : Nat, c.toInt = k := ⟨c.toInt.toNat, by omega⟩
  have hx : c = Int32.ofNat k := Int32.toInt_inj.mp (by rw [hk, Int32.toInt_ofNat_small (by omega)])
  rw [hx]
  exact t ⟨k, by omega⟩
theorem narrow_ch {c : Int32} (h0 : ¬ c < 0) (h1 : ¬ 65535 < c) : narrow .char (.int c) = .int c := by
  have q : narrow .char (.int (pairCh (lo8 c) (hi8 c))) = .int (pairCh (lo8 c) (hi8 c)) := narrow_c _
  rwa [pair_says h0 h1] at q
/-- the array's cell V codes the n chars f 0 .. f (n - 1) by the coder cd, as the JDK does: coder 1 just where some char is above 255 -/
def Cod (cd : Int32) (n : Nat) (f : Nat → Int32) (V : Cell) : Prop := (cd = 0 ∧ V.slots.size = n ∧ ∀ j, j < n → V.slots[j]? = some (.int (lo8 (f j))) ∧ ¬ 255 < f j) ∨ (cd = 1 ∧ V.slots.size = 2 * n ∧ (∀ j, j < n → V.slots[2 * j]? = some (.int (lo8 (f j))) ∧ V.slots[2 * j + 1]? = some (.int (hi8 (f j)))) ∧ ∃ j, j < n ∧ 255 < f j)
theorem Cod.cd {cd : Int32} {n : Nat} {f : Nat → Int32} {V : Cell} (h : Cod cd n f V) : cd = 0 ∨ cd = 1 := h.imp (fun q => q.1) fun q => q.1
theorem Cod.len {cd : Int32} {n : Nat} {f : Nat → Int32} {V : Cell} (h : Cod cd n f V) (hs : V.slots.size < 2 ^ 31) : Int32.ofNat V.slots.size >>> (cd &&& 31) = Int32.ofNat n := by
  rcases h with ⟨rfl, h, -⟩ | ⟨rfl, h, -⟩
  · rw [shr0, h]
  · rw [h, shr1 (by omega)]
/-- **x is a String of the n chars f 0 .. f (n - 1)**, Latin-1 or UTF-16; its array at t has the cell V -/
def Txt (x t : Addr) (V : Cell) (cd : Int32) (n : Nat) (f : Nat → Int32) (U : State) : Prop := Exact "java/lang/String" x U ∧ Has x "java/lang/String" "value" "[B" (.ref t) U ∧ Has x "java/lang/String" "coder" "B" (.int cd) U ∧ XT.Arr .byte t V U ∧ Cod cd n f V ∧ ∀ j, j < n → ¬ f j < 0 ∧ ¬ 65535 < f j
theorem Txt.mv {x t : Addr} {V : Cell} {cd : Int32} {n : Nat} {f : Nat → Int32} {U U' : State} (h : Txt x t V cd n f U) (hal : U.vm.Alike U'.vm) (hh : U'.heap = U.heap) : Txt x t V cd n f U' := ⟨h.1.mv hal hh, h.2.1.mv hal hh, h.2.2.1.mv hal hh, h.2.2.2.1.mv hal hh, h.2.2.2.2⟩
namespace Cdr
def yN : MethodName := ⟨"java/lang/String", "coder", "()B"⟩
abbrev yB : ByteArray := jdk_42_method_152_code
theorem d0 : decode yB 0 = .ok (.getstatic 38, 3) := by decide +kernel
theorem d3 : decode yB 3 = .ok (.ifCond (.eq) 10, 3) := by decide +kernel
theorem d6 : decode yB 6 = .ok (.aload_n 0, 1) := by decide +kernel
theorem d7 : decode yB 7 = .ok (.getfield 15, 3) := by decide +kernel
theorem d10 : decode yB 10 = .ok (.goto 4, 3) := by decide +kernel
theorem d14 : decode yB 14 = .ok (.ireturn, 1) := by decide +kernel
def site : List Cond := [.fieldLink "java/lang/String" 38 "java/lang/String" "COMPACT_STRINGS" "Z", .fieldLink "java/lang/String" 15 "java/lang/String" "coder" "B"]
def tab : Cond := tabOf yN yB 1 (some .byte) site
def P (x : Addr) (cd z : Int32) (args : Array Value) (s : State) : Prop := args = #[.ref x] ∧ Has x "java/lang/String" "coder" "B" (.int cd) s ∧ (cd = 0 ∨ cd = 1) ∧ StaticIs s "java/lang/String" "COMPACT_STRINGS" "Z" (.int z) ∧ ¬ z = 0
def E (cd : Int32) (r : Option Value) (s u : State) : Prop := XT.PureE (some (.int cd)) r s u
theorem law (l : Launch) (x : Addr) (cd z : Int32) : Law l yN 1 0 0 0 yB 1 (some .byte) site (P x cd z) (E cd) [] 0 0 := by
  refine Law.of_walk (plainFor_of_name (by decide +kernel)) (by decide +kernel) (by decide +kernel) (by decide) (fun _ _ h => by rw [h.1]; rfl) (fun _ U U' hal hh h => ⟨h.1, h.2.1.mv hal hh, h.2.2.1, h.2.2.2.1.there hal hh, h.2.2.2.2⟩) (fun r U U' V V' h1 hal h2 h => XT.PureE.mv r U U' V V' h1 hal h2 h) ?_
  intro p e s m args below meth c s₁ X0 hexec hbytes hml hret hlk hnm hown hh0 W hP
  obtain ⟨rfl, hx, hc, s1, hz⟩ := hP
  have c1 : Steps p.tables e below (s₁.setTop (entryFrame m #[.ref x] 1)) (s₁.setTop (mkF m 0 #[.val (.ref x)] [])) := entry rfl
  obtain ⟨T2, X2, q2, st2⟩ := X0.sget hexec hown (wk W (.fieldLink "java/lang/String" 38 "java/lang/String" "COMPACT_STRINGS" "Z")) s1 (fun _ _ h => by rw [hh0]; exact h) (g := (mkF m 0 #[.val (.ref x)] [])) rfl (hb hbytes d0)
  have hh2 := q2.trans hh0
  have c3 : Steps p.tables e below (s₁.setTop (entryFrame m #[.ref x] 1)) (T2.setTop (mkF m 7 #[.val (.ref x)] [.ref x])) := (c1.trans (st2 _ (Steps.refl _))).trans (by
    refine XS.ifNo X2.here hexec rfl (hb hbytes d3) rfl (i0_eq_f hz) ?_
    refine XS.aloadN X2.here hexec rfl (hb hbytes d6) rfl rfl ?_
    exact Steps.refl _)
  obtain ⟨T4, X4, q4, st4⟩ := X2.hget hexec hown (wk W (.fieldLink "java/lang/String" 15 "java/lang/String" "coder" "B")) (hx.mv X2.warmed.alike hh2) (g := (mkF m 7 #[.val (.ref x)] [.ref x])) rfl (rest := []) rfl (hb hbytes d7)
  have c5 : Steps p.tables e below (s₁.setTop (entryFrame m #[.ref x] 1)) (T4.setTop (mkF m 14 #[.val (.ref x)] [.int cd])) := (c3.trans (st4 _ (Steps.refl _))).trans (by
    refine XS.goto X4.here hexec rfl (pc0 := 10) rfl (hb hbytes d10) (by decide) rfl ?_
    exact Steps.refl _)
  exact ⟨T4, some (.int cd), _, _, _, X4, rfl, rfl, rfl, (fun h => by cases h), ⟨rfl, q4.trans hh2⟩, fun fs hl => c5.trans (X4.ireturnOut hexec hret (by rcases hc with rfl | rfl <;> rfl) (Or.inr (Or.inr (Or.inl rfl))) (hb hbytes d14) hl)⟩
end Cdr
namespace Len
def yN : MethodName := ⟨"java/lang/String", "length", "()I"⟩
abbrev yB : ByteArray := jdk_42_method_54_code
theorem d0 : decode yB 0 = .ok (.aload_n 0, 1) := by decide +kernel
theorem d1 : decode yB 1 = .ok (.getfield 9, 3) := by decide +kernel
theorem d4 : decode yB 4 = .ok (.arraylength, 1) := by decide +kernel
theorem d5 : decode yB 5 = .ok (.aload_n 0, 1) := by decide +kernel
theorem d6 : decode yB 6 = .ok (.invokevirtual 335, 3) := by decide +kernel
theorem d9 : decode yB 9 = .ok (.ishr, 1) := by decide +kernel
theorem d10 : decode yB 10 = .ok (.ireturn, 1) := by decide +kernel
def site : List Cond := [.fieldLink "java/lang/String" 9 "java/lang/String" "value" "[B", Cdr.tab] ++ virtW "java/lang/String" 335 "java/lang/String" Cdr.yN Cdr.yN
def tab : Cond := tabOf yN yB 1 (some .int) site
def P (x t : Addr) (V : Cell) (cd : Int32) (n : Nat) (f : Nat → Int32) (z : Int32) (args : Array Value) (s : State) : Prop := args = #[.ref x] ∧ Txt x t V cd n f s ∧ StaticIs s "java/lang/String" "COMPACT_STRINGS" "Z" (.int z) ∧ ¬ z = 0
def E (n : Nat) (r : Option Value) (s u : State) : Prop := XT.PureE (some (.int (Int32.ofNat n))) r s u
/-- length() of a String of n chars, in either coding -/
theorem law (l : Launch) (x t : Addr) (V : Cell) (cd : Int32) (n : Nat) (f : Nat → Int32) (z : Int32) : Law l yN 1 0 1 13 yB 1 (some .int) site (P x t V cd n f z) (E n) [] 0 0 := by
  refine Law.of_walk (plainFor_of_name (by decide +kernel)) (by decide +kernel) (by decide +kernel) (by decide) (fun _ _ h => by rw [h.1]; rfl) (fun _ U U' hal hh h => ⟨h.1, h.2.1.mv hal hh, h.2.2.1.there hal hh, h.2.2.2⟩) (fun r U U' V V' h1 hal h2 h => XT.PureE.mv r U U' V V' h1 hal h2 h) ?_
  intro p e s m args below meth c s₁ X0 hexec hbytes hml hret hlk hnm hown hh0 W hP
  obtain ⟨rfl, hx, s1, hz⟩ := hP
  have v31 := hx.2.2.2.1.2.2.2
  have c1 : Steps p.tables e below (s₁.setTop (entryFrame m #[.ref x] 1)) (s₁.setTop (mkF m 1 #[.val (.ref x)] [.ref x])) := Steps.trans (entry rfl) (by
    show Steps p.tables e below (s₁.setTop (mkF m 0 #[.val (.ref x)] [])) _
    refine XS.aloadN X0.here hexec rfl (hb hbytes d0) rfl rfl ?_
    exact Steps.refl _)
  obtain ⟨T2, X2, q2, st2⟩ := X0.hget hexec hown (wk W (.fieldLink "java/lang/String" 9 "java/lang/String" "value" "[B")) (hx.mv X0.warmed.alike hh0).2.1 (g := (mkF m 1 #[.val (.ref x)] [.ref x])) rfl (rest := []) rfl (hb hbytes d1)
  have hh2 := q2.trans hh0
  have hx2 := hx.mv X2.warmed.alike hh2
  have c3 : Steps p.tables e below (s₁.setTop (entryFrame m #[.ref x] 1)) (T2.setTop (mkF m 6 #[.val (.ref x)] [.ref x, .int (Int32.ofNat V.slots.size)])) := (c1.trans (st2 _ (Steps.refl _))).trans (by
    refine X2.alen hexec hx2.2.2.2.1 rfl rfl (hb hbytes d4) ?_
    refine XS.aloadN X2.here hexec rfl (hb hbytes d5) rfl rfl ?_
    exact Steps.refl _)
  obtain ⟨v4, T4, X4, E4, g4⟩ := X2.callV hexec (Cdr.law l x cd z) hown (wks W (virtW "java/lang/String" 335 "java/lang/String" Cdr.yN Cdr.yN)) rfl (by decide) (wk W Cdr.tab) (W := 1) (Nat.le_of_ble_eq_true rfl) (Nat.le_of_ble_eq_true rfl) (Nat.le_refl _) (Nat.le_refl _) (hx2.1.fc X2.warmed.alike) hx2.1.is (g := (mkF m 6 #[.val (.ref x)] [.ref x, .int (Int32.ofNat V.slots.size)])) rfl (by rw [hml]; rfl) c3 (argsL := []) (rest := [.int (Int32.ofNat V.slots.size)]) rfl rfl (by show 2 * 0 + (1 + 0) ≤ _; decide) (hb hbytes d6) (⟨rfl, hx2.2.2.1, hx.2.2.2.2.1.cd, s1.there X2.warmed.alike hh2, hz⟩)
  obtain ⟨rfl, q4⟩ := E4
  have c5 : Steps p.tables e below (s₁.setTop (entryFrame m #[.ref x] 1)) (T4.setTop (mkF m 10 #[.val (.ref x)] [.int (Int32.ofNat V.slots.size >>> (cd &&& 31))])) := Steps.trans g4 (by
    refine ishr X4.here hexec rfl (hb hbytes d9) rfl ?_
    exact Steps.refl _)
  rw [hx.2.2.2.2.1.len v31] at c5
  exact ⟨T4, some (.int (Int32.ofNat n)), _, _, _, X4, rfl, rfl, rfl, (fun h => by cases h), ⟨rfl, q4.trans hh2⟩, fun fs hl => c5.trans (X4.ireturnOut hexec hret rfl (Or.inl rfl) (hb hbytes d10) hl)⟩
theorem pays {l : Launch} {R : Room} {p : Program} {e : Env} {below : List Frame} {s : State} {sargs : Array Value} {len W : Nat} (x t : Addr) (V : Cell) (cd : Int32) (n : Nat) (f : Nat → Int32) (z : Int32) (htab : tab.before sargs s = true) (hfr : 2 ≤ R.frames) (hlo : W + 25 ≤ R.locals) :
    Back l R p e below s sargs yN len W (fun A₁ a₁ => A₁.cells + 0 ≤ R.cells ∧ A₁.slots + 0 ≤ R.slots ∧ P x t V cd n f z a₁ A₁.U) (fun A₁ _ v₁ B₁ => E n v₁ A₁.U B₁.U ∧ B₁.locs = A₁.locs ++ [] ∧ B₁.cells = A₁.cells + 0 ∧ B₁.slots = A₁.slots + 0) :=
  (law l x t V cd n f z).pays htab hfr (by omega)
end Len
namespace IsL
def yN : MethodName := ⟨"java/lang/String", "isLatin1", "()Z"⟩
abbrev yB : ByteArray := jdk_42_method_154_code
theorem d0 : decode yB 0 = .ok (.getstatic 38, 3) := by decide +kernel
theorem d3 : decode yB 3 = .ok (.ifCond (.eq) 14, 3) := by decide +kernel
theorem d6 : decode yB 6 = .ok (.aload_n 0, 1) := by decide +kernel
theorem d7 : decode yB 7 = .ok (.getfield 15, 3) := by decide +kernel
theorem d10 : decode yB 10 = .ok (.ifCond (.ne) 7, 3) := by decide +kernel
theorem d13 : decode yB 13 = .ok (.iconst 1, 1) := by decide +kernel
theorem d14 : decode yB 14 = .ok (.goto 4, 3) := by decide +kernel
theorem d17 : decode yB 17 = .ok (.iconst 0, 1) := by decide +kernel
theorem d18 : decode yB 18 = .ok (.ireturn, 1) := by decide +kernel
def site : List Cond := [.fieldLink "java/lang/String" 38 "java/lang/String" "COMPACT_STRINGS" "Z", .fieldLink "java/lang/String" 15 "java/lang/String" "coder" "B"]
def tab : Cond := tabOf yN yB 1 (some .boolean) site
def P (x : Addr) (cd z : Int32) (args : Array Value) (s : State) : Prop := args = #[.ref x] ∧ Has x "java/lang/String" "coder" "B" (.int cd) s ∧ (cd = 0 ∨ cd = 1) ∧ StaticIs s "java/lang/String" "COMPACT_STRINGS" "Z" (.int z) ∧ ¬ z = 0
def E (cd : Int32) (r : Option Value) (s u : State) : Prop := XT.PureE (some (.int (1 - cd))) r s u
theorem law (l : Launch) (x : Addr) (cd z : Int32) : Law l yN 1 0 0 0 yB 1 (some .boolean) site (P x cd z) (E cd) [] 0 0 := by
  refine Law.of_walk (plainFor_of_name (by decide +kernel)) (by decide +kernel) (by decide +kernel) (by decide) (fun _ _ h => by rw [h.1]; rfl) (fun _ U U' hal hh h => ⟨h.1, h.2.1.mv hal hh, h.2.2.1, h.2.2.2.1.there hal hh, h.2.2.2.2⟩) (fun r U U' V V' h1 hal h2 h => XT.PureE.mv r U U' V V' h1 hal h2 h) ?_
  intro p e s m args below meth c s₁ X0 hexec hbytes hml hret hlk hnm hown hh0 W hP
  obtain ⟨rfl, hx, hc, s1, hz⟩ := hP
  have c1 : Steps p.tables e below (s₁.setTop (entryFrame m #[.ref x] 1)) (s₁.setTop (mkF m 0 #[.val (.ref x)] [])) := entry rfl
  obtain ⟨T2, X2, q2, st2⟩ := X0.sget hexec hown (wk W (.fieldLink "java/lang/String" 38 "java/lang/String" "COMPACT_STRINGS" "Z")) s1 (fun _ _ h => by rw [hh0]; exact h) (g := (mkF m 0 #[.val (.ref x)] [])) rfl (hb hbytes d0)
  have hh2 := q2.trans hh0
  have c3 : Steps p.tables e below (s₁.setTop (entryFrame m #[.ref x] 1)) (T2.setTop (mkF m 7 #[.val (.ref x)] [.ref x])) := (c1.trans (st2 _ (Steps.refl _))).trans (by
    refine XS.ifNo X2.here hexec rfl (hb hbytes d3) rfl (i0_eq_f hz) ?_
    refine XS.aloadN X2.here hexec rfl (hb hbytes d6) rfl rfl ?_
    exact Steps.refl _)
  obtain ⟨T4, X4, q4, st4⟩ := X2.hget hexec hown (wk W (.fieldLink "java/lang/String" 15 "java/lang/String" "coder" "B")) (hx.mv X2.warmed.alike hh2) (g := (mkF m 7 #[.val (.ref x)] [.ref x])) rfl (rest := []) rfl (hb hbytes d7)
  have c5 : Steps p.tables e below (s₁.setTop (entryFrame m #[.ref x] 1)) (T4.setTop (mkF m 10 #[.val (.ref x)] [.int cd])) := c3.trans (st4 _ (Steps.refl _))
  have c6 : Steps p.tables e below (s₁.setTop (entryFrame m #[.ref x] 1)) (T4.setTop (mkF m 18 #[.val (.ref x)] [.int (1 - cd)])) := by
    rcases hc with rfl | rfl
    · exact c5.trans (by
        refine XS.ifNo X4.here hexec rfl (hb hbytes d10) rfl (i0_ne_f rfl) ?_
        refine iconstV X4.here hexec rfl 1 (hb hbytes d13) (by decide) ?_
        refine XS.goto X4.here hexec rfl (pc0 := 14) rfl (hb hbytes d14) (by decide) rfl ?_
        exact Steps.refl _)
    · exact c5.trans (by
        refine XS.ifYes X4.here hexec rfl (pc0 := 10) rfl (hb hbytes d10) rfl (i0_ne_t (by decide)) (by decide) rfl ?_
        refine iconstV X4.here hexec rfl 0 (hb hbytes d17) (by decide) ?_
        exact Steps.refl _)
  exact ⟨T4, some (.int (1 - cd)), _, _, _, X4, rfl, rfl, rfl, (fun h => by cases h), ⟨rfl, q4.trans hh2⟩, fun fs hl => c6.trans (X4.ireturnOut hexec hret (by rcases hc with rfl | rfl <;> rfl) (Or.inr (Or.inl rfl)) (hb hbytes d18) hl)⟩
end IsL
namespace LChA
def yN : MethodName := ⟨"java/lang/StringLatin1", "charAt", "([BI)C"⟩
abbrev yB : ByteArray := jdk_43_method_2_code
theorem d0 : decode yB 0 = .ok (.iload_n 1, 1) := by decide +kernel
theorem d1 : decode yB 1 = .ok (.aload_n 0, 1) := by decide +kernel
theorem d2 : decode yB 2 = .ok (.arraylength, 1) := by decide +kernel
theorem d3 : decode yB 3 = .ok (.invokestatic 9, 3) := by decide +kernel
theorem d6 : decode yB 6 = .ok (.aload_n 0, 1) := by decide +kernel
theorem d7 : decode yB 7 = .ok (.iload_n 1, 1) := by decide +kernel
theorem d8 : decode yB 8 = .ok (.baload, 1) := by decide +kernel
theorem d9 : decode yB 9 = .ok (.sipush 255, 3) := by decide +kernel
theorem d12 : decode yB 12 = .ok (.iand, 1) := by decide +kernel
theorem d13 : decode yB 13 = .ok (.i2c, 1) := by decide +kernel
theorem d14 : decode yB 14 = .ok (.ireturn, 1) := by decide +kernel
def site : List Cond := [JO.Str_checkIndex.tab] ++ staticW "java/lang/StringLatin1" 9 JO.Str_checkIndex.yN
def tab : Cond := tabOf yN yB 2 (some .char) site
def P (t : Addr) (V : Cell) (i : Nat) (u : Int32) (fm : Value) (args : Array Value) (s : State) : Prop := args = #[.ref t, .int (Int32.ofNat i)] ∧ XT.Arr .byte t V s ∧ V.slots[i]? = some (.int u) ∧ (StaticIs s "jdk/internal/util/Preconditions" "SIOOBE_FORMATTER" "Ljava/util/function/BiFunction;" fm ∧ fm.isRef = true)
def E (u : Int32) (r : Option Value) (s w : State) : Prop := XT.PureE (some (.int (chr8 u))) r s w
theorem law (l : Launch) (t : Addr) (V : Cell) (i : Nat) (u : Int32) (fm : Value) : Law l yN 2 2 2 27 yB 2 (some .char) site (P t V i u fm) (E u) [] 0 0 := by
  refine Law.of_walk (plainFor_of_name (by decide +kernel)) (by decide +kernel) (by decide +kernel) (by decide) (fun _ _ h => by rw [h.1]; rfl) (fun _ U U' hal hh h => ⟨h.1, h.2.1.mv hal hh, h.2.2.1, h.2.2.2.1.there hal hh, h.2.2.2.2⟩) (fun r U U' V V' h1 hal h2 h => XT.PureE.mv r U U' V V' h1 hal h2 h) ?_
  intro p e s m args below meth c s₁ X0 hexec hbytes hml hret hlk hnm hown hh0 W hP
  obtain ⟨rfl, hV, hu, s1, rf⟩ := hP
  have v31 := hV.2.2.2
  have hi : i < V.slots.size := (Array.getElem?_eq_some_iff.mp hu).1
  have c1 : Steps p.tables e below (s₁.setTop (entryFrame m #[.ref t, .int (Int32.ofNat i)] 2)) (s₁.setTop (mkF m 0 #[.val (.ref t), .val (.int (Int32.ofNat i))] [])) := entry rfl
  have c2 : Steps p.tables e below (s₁.setTop (entryFrame m #[.ref t, .int (Int32.ofNat i)] 2)) (s₁.setTop (mkF m 3 #[.val (.ref t), .val (.int (Int32.ofNat i))] [.int (Int32.ofNat V.slots.size), .int (Int32.ofNat i)])) := c1.trans (by
    refine XS.iloadN X0.here hexec rfl (hb hbytes d0) rfl ?_
    refine XS.aloadN X0.here hexec rfl (hb hbytes d1) rfl rfl ?_
    refine X0.alen hexec (hV.mv X0.warmed.alike hh0) rfl rfl (hb hbytes d2) ?_
    exact Steps.refl _)
  obtain ⟨v3, T3, X3, E3, g3⟩ := X0.callS hexec (JO.Str_checkIndex.law l (Int32.ofNat i) (Int32.ofNat V.slots.size) fm) hown (wks W (staticW "java/lang/StringLatin1" 9 JO.Str_checkIndex.yN)) (wk W JO.Str_checkIndex.tab) (W := 0) (Nat.le_of_ble_eq_true rfl) (Nat.le_of_ble_eq_true rfl) (Nat.le_refl _) (Nat.le_refl _) (g := (mkF m 3 #[.val (.ref t), .val (.int (Int32.ofNat i))] [.int (Int32.ofNat V.slots.size), .int (Int32.ofNat i)])) rfl (by rw [hml]; rfl) c2 (argsL := [.int (Int32.ofNat i), .int (Int32.ofNat V.slots.size)]) (rest := []) rfl rfl (by show 2 * 0 + 0 ≤ _; decide) (hb hbytes d3) (⟨rfl, rf, s1.there X0.warmed.alike hh0, Int32.ofNat_not_neg (by omega), lt32 v31 hi⟩)
  obtain ⟨rfl, q3⟩ := E3
  have hh3 := q3.trans hh0
  have c4 : Steps p.tables e below (s₁.setTop (entryFrame m #[.ref t, .int (Int32.ofNat i)] 2)) (T3.setTop (mkF m 14 #[.val (.ref t), .val (.int (Int32.ofNat i))] [.int (chr8 u)])) := Steps.trans g3 (by
    refine XS.aloadN X3.here hexec rfl (hb hbytes d6) rfl rfl ?_
    refine XS.iloadN X3.here hexec rfl (hb hbytes d7) rfl ?_
    refine X3.aget hexec (hV.mv X3.warmed.alike hh3) rfl hu rfl rfl (hb hbytes d8) ?_
    refine sipushV X3.here hexec rfl 255 (hb hbytes d9) (by decide) ?_
    refine XS.iand X3.here hexec rfl (hb hbytes d12) rfl ?_
    refine i2c X3.here hexec rfl (hb hbytes d13) rfl ?_
    exact Steps.refl _)
  exact ⟨T3, some (.int (chr8 u)), _, _, _, X3, rfl, rfl, rfl, (fun h => by cases h), ⟨rfl, hh3⟩, fun fs hl => c4.trans (X3.ireturnOut hexec hret (narrow_c _) (Or.inr (Or.inr (Or.inr (Or.inl rfl)))) (hb hbytes d14) hl)⟩
end LChA
end StrChars
namespace StrChars.Road
open Jvm Sem ClassFile Op Lib Jvm.Stand Jvm.Free Jvm.Free.XT
open Jvm.Lib.Cold (StaticIs)
theorem consq {a : Array Value} {s : State} {c : Jvm.Cond} {L : List Jvm.Cond} (h0 : c.before a s = true) (h : ∀ w ∈ L, w.before a s = true) : ∀ w ∈ c :: L, w.before a s = true := fun w hw => (List.mem_cons.mp hw).elim (fun e => e ▸ h0) (h w)
/-- the words of String.length(), either coding -/
abbrev wordsLen : List Jvm.Cond := [.code Len.yN Len.yB 1 (some .int), .initialized ST, .fieldLink ST 9 ST "value" "[B", .fieldLink ST 38 ST "COMPACT_STRINGS" "Z", .fieldLink ST 15 ST "coder" "B", .code Cdr.yN Cdr.yB 1 (some .byte), .methodLink ST 335 Cdr.yN, .declares Cdr.yN, .selects ST Cdr.yN Cdr.yN, .instanceMethod Cdr.yN]
theorem tabLen_of {a : Array Value} {s : State} (h : ∀ w ∈ wordsLen, w.before a s = true) : Len.tab.before a s = true := by
  have hc : Cdr.tab.before a s = true := unparts (wk h (.code Cdr.yN Cdr.yB 1 (some .byte))) (wks h (.initialized Cdr.yN.cls :: Cdr.site))
  have q := consq hc h
  exact unparts (wk q (.code Len.yN Len.yB 1 (some .int))) (wks q (.initialized Len.yN.cls :: Len.site))
theorem movedLen {Z s : State} {a0 args : Array Value} (hZ : Z.Warmed39 s.vm) (hw : ∀ d ∈ wordsLen, d.before a0 Z = true) : ∀ d ∈ wordsLen, d.before args s = true := fun d hd => by
  have q := hw d hd
  have t : ∀ d ∈ wordsLen, d = .arrayClass .byte ∨ (d.onTables && d.keepsFace) = true := by decide +kernel
  rcases t d hd with rfl | t
  · exact RoadKit.mvA hZ q
  · exact RoadKit.mv hZ q t
/-- the bytes of the chars cs, low before high -/
def wideBytes : List Int32 → List Value
  | [] => []
  | c :: cs => .int (lo8 c) :: .int (hi8 c) :: wideBytes cs
theorem wide_lo (d : Value) : ∀ (cs : List Int32) (j : Nat), j < cs.length → (wideBytes cs).getD (2 * j) d = .int (lo8 (cs.getD j 0))
  | [], j, h => absurd h (Nat.not_lt_zero j)
  | c :: cs, 0, _ => rfl
  | c :: cs, j + 1, h => by
    have q := wide_lo d cs j (by simpa using h)
    rw [show 2 * (j + 1) = 2 * j + 1 + 1 from by omega]
    simpa [wideBytes] using q
theorem wide_hi (d : Value) : ∀ (cs : List Int32) (j : Nat), j < cs.length → (wideBytes cs).getD (2 * j + 1) d = .int (hi8 (cs.getD j 0))
  | [], j, h => absurd h (Nat.not_lt_zero j)
  | c :: cs, 0, _ => rfl
  | c :: cs, j + 1, h => by
    have q := wide_hi d cs j (by simpa using h)
    rw [show 2 * (j + 1) + 1 = 2 * j + 1 + 1 + 1 from by omega]
    simpa [wideBytes] using q
theorem low_at (d : Value) (cs : List Int32) (j : Nat) (h : j < cs.length) : (cs.map fun c => Value.int (lo8 c)).getD j d = .int (lo8 (cs.getD j 0)) := by
  simp [List.getD_eq_getElem?_getD, h]
/-- an array of N2 bytes vs codes the chars cs by the coder cd -/
def CodA (cs : List Int32) (cd N2 : Int32) (vs : List Value) : Prop := (cd = 0 ∧ N2 = Int32.ofNat cs.length ∧ vs = (cs.map fun c => Value.int (lo8 c)) ∧ ∀ c ∈ cs, ¬ 255 < c) ∨ (cd = 1 ∧ N2 = Int32.ofNat (2 * cs.length) ∧ vs = wideBytes cs ∧ ∃ c ∈ cs, 255 < c)
theorem CodA.cod {cs : List Int32} {cd N2 : Int32} {vs : List Value} {V : Cell} (h : CodA cs cd N2 vs) (hn : 2 * cs.length < 2 ^ 31) (hs : V.slots.size = N2.toNatClampNeg) (hv : RoadKit.Has V vs (.int 0)) : Cod cd cs.length (fun j => cs.getD j 0) V := by
  rcases h with ⟨rfl, rfl, rfl, h⟩ | ⟨rfl, rfl, rfl, c, hc, hw⟩
  · rw [n32 (by omega)] at hs
    exact Or.inl ⟨rfl, hs, fun j hj => ⟨by rw [hv j (by omega), low_at _ _ _ hj], by
      have e : cs.getD j 0 = cs[j] := by simp [List.getD_eq_getElem?_getD, hj]
      show ¬ 255 < cs.getD j 0
      rw [e]; exact h _ (List.getElem_mem _)⟩⟩
  · rw [n32 (by omega)] at hs
    obtain ⟨j, hj, rfl⟩ := List.getElem_of_mem hc
    exact Or.inr ⟨rfl, hs, fun j hj => ⟨by rw [hv _ (by omega), wide_lo _ _ _ hj], by rw [hv _ (by omega), wide_hi _ _ _ hj]⟩, j, hj, by
      have e : cs.getD j 0 = cs[j] := by simp [List.getD_eq_getElem?_getD, hj]
      show 255 < cs.getD j 0
      rw [e]; exact hw⟩
/-- an object of exactly java/lang/String, its two fields found: as the laws ask it -/
theorem strObj {Z U : State} {a0 : Array Value} {kI : Nat} (wi : (Jvm.Cond.instantiable ST kI).before a0 Z = true) (al : Z.vm.Alike U.vm) {x : Addr} {v0 c0 : Value} (E : RoadKit.Exa Z U.heap x ST) (V : RoadKit.Fld Z U.heap x ST "value" "[B" v0) (C : RoadKit.Fld Z U.heap x ST "coder" "B" c0) :
    ∃ (D : Cell) (fV fC : Field), Blank ST x D U ∧ Found ST "value" "[B" fV U ∧ Found ST "coder" "B" fC U ∧ D.slots[fV.slot]? = some v0 ∧ D.slots[fC.slot]? = some c0 ∧ RoadKit.slotOf Z ST "value" "[B" = fV.slot ∧ RoadKit.slotOf Z ST "coder" "B" = fC.slot := by
  obtain ⟨D, cfV, kV, iV, fV, hD, gV, stV, knV, obV, asV, slV⟩ := V
  obtain ⟨D', cfC, kC, iC, fC, hD', gC, stC, -, -, asC, slC⟩ := C
  cases hD.symm.trans hD'
  obtain ⟨D2, kD, e1, e2, e3, e4, e5⟩ := E
  cases hD.symm.trans e1
  obtain ⟨c2, k2, i1, i2, i3, -⟩ := Cond.instantiable_spec wi
  cases e2.symm.trans i1
  cases e3.symm.trans i2
  obtain ⟨kU, u1, u2⟩ := al.2.2 _ _ e3
  exact ⟨D, fV, fC, ⟨hD, ⟨knV, fun q hq => by rw [hq] at obV; cases obV⟩, by rw [al.findClass]; exact e2, kU, u1, by rw [u2]; exact i3, by rw [u2]; exact e5 i3⟩, ⟨SBG.found_only al ⟨cfV, kV, iV, gV⟩, stV⟩, ⟨SBG.found_only al ⟨cfC, kC, iC, gC⟩, stC⟩, slV, slC, by simp [RoadKit.slotOf, gV], by simp [RoadKit.slotOf, gC]⟩
theorem sta_is {Z U : State} (al : Z.vm.Alike U.vm) {C n d : String} {v : Value} (S : RoadKit.Sta Z U.heap C n d v) : StaticIs U C n d v := by
  obtain ⟨cfS, iS, kS, fS, st, cS, t1, t2, t3, t4, t5, t6, t7⟩ := S
  exact StaticIs.there (s := { Z with heap := U.heap }) ⟨cfS, iS, kS, fS, st, cS, t1, t2, t3, t4, t5, (fun q => by rw [q] at t6; cases t6), t7⟩ al rfl
/-- **length() OF SUCH A STRING** -/
theorem lenW {p : Program} {l : Launch} {e : Env} {R : Room} {s : State} {args : Array Value} {below : List Frame} {len W : Nat} {Z : State} {a0 : Array Value} {h : Heap} (hZ : Z.Warmed39 s.vm) (hw : ∀ d ∈ wordsLen, d.before a0 Z = true) {kI : Nat} (wi : (Jvm.Cond.instantiable ST kI).before a0 Z = true)
    {x t : Addr} {kb : ClassId} {cs : List Int32} {cd N2 z : Int32} {vs : List Value} (E : RoadKit.Exa Z h x ST) (V : RoadKit.Fld Z h x ST "value" "[B" (.ref t)) (C : RoadKit.Fld Z h x ST "coder" "B" (.int cd)) (K : RoadKit.Arv Z h t kb .byte N2 vs (.int 0)) (hc : CodA cs cd N2 vs) (hb : ∀ c ∈ cs, ¬ c < 0 ∧ ¬ (65535 : Int32) < c)
    (S : RoadKit.Sta Z h ST "COMPACT_STRINGS" "Z" (.int z)) (hz : ¬ z = 0) (l2 : cs.length ≤ 4000) (hfr : 2 ≤ R.frames) (hlo : W + 25 ≤ R.locals) :
    Back l R p e below s args (⟨"java/lang/String", "length", "()I"⟩ : MethodName) len W (fun P a => a = #[.ref x] ∧ P.U.heap = h ∧ P.cells + 0 ≤ R.cells ∧ P.slots + 0 ≤ R.slots)
      (fun P _ v B => ∃ L, (v = some (.int (Int32.ofNat cs.length)) ∧ L = [] ∧ B.U.heap = h) ∧ B.locs = P.locs ++ L ∧ B.cells = P.cells + 0 ∧ B.slots = P.slots + 0) := by
  obtain ⟨A, K1, K2, K3, K4, K5, K6⟩ := K
  have hcod := hc.cod (by omega) K3 K5
  intro m meth c P g ig mk a X hg hsize hdg hW hn hp'
  obtain ⟨rfl, rfl, r1, r2⟩ := hp'
  have al : Z.vm.Alike P.U.vm := hZ.alike.trans X.warmed.alike
  obtain ⟨D, fV, fC, hB, F1, F2, g1, g2, -, -⟩ := strObj wi al E V C
  have hx : Txt x t A cd cs.length (fun j => cs.getD j 0) P.U := ⟨⟨_, hB.2.2.1, D, hB.1, rfl, by cases q : D.vm <;> first | rfl | exact absurd q (hB.2.1.2 _)⟩, Has.of hB F1 g1, Has.of hB F2 g2, ⟨K1.1, State.isArrayOf_alike al K1.2.1, K1.2.2, by rcases hcod with ⟨-, q, -⟩ | ⟨-, q, -⟩ <;> omega⟩, hcod, fun j hj => by
    have e : cs.getD j 0 = cs[j] := by simp [List.getD_eq_getElem?_getD, hj]
    show ¬ cs.getD j 0 < 0 ∧ ¬ 65535 < cs.getD j 0
    rw [e]; exact hb _ (List.getElem_mem _)⟩
  obtain ⟨v, B, X', ⟨⟨hv, hh⟩, hl, hk, hs⟩, st⟩ := Len.pays x t A cd cs.length (fun j => cs.getD j 0) z (tabLen_of (movedLen hZ hw)) hfr hlo m meth c P g ig mk _ X hg hsize hdg hW hn ⟨r1, r2, rfl, hx, sta_is al S, hz⟩
  exact ⟨v, B, X', ⟨[], ⟨hv, rfl, hh⟩, hl, hk, hs⟩, st⟩
end StrChars.Road
namespace StrChars.Road
open Jvm Sem ClassFile Op Lib Jvm.Stand Jvm.Free Jvm.Free.XT
open Jvm.Lib.Cold (StaticIs)
/-- the road's facts of a String, as the laws ask it -/
theorem txt_of {Z U : State} {a0 : Array Value} {kI : Nat} (wi : (Jvm.Cond.instantiable ST kI).before a0 Z = true) (al : Z.vm.Alike U.vm) {x t : Addr} {kb : ClassId} {cs : List Int32} {cd N2 : Int32} {vs : List Value} (E : RoadKit.Exa Z U.heap x ST) (V : RoadKit.Fld Z U.heap x ST "value" "[B" (.ref t)) (C : RoadKit.Fld Z U.heap x ST "coder" "B" (.int cd)) (K : RoadKit.Arv Z U.heap t kb .byte N2 vs (.int 0)) (hc : CodA cs cd N2 vs) (hb : ∀ c ∈ cs, ¬ c < 0 ∧ ¬ (65535 : Int32) < c) (l2 : cs.length ≤ 4000) :
    ∃ A, Txt x t A cd cs.length (fun j => cs.getD j 0) U := by
  obtain ⟨A, K1, K2, K3, K4, K5, K6⟩ := K
  have hcod := hc.cod (by omega) K3 K5
  obtain ⟨D, fV, fC, hB, F1, F2, g1, g2, -, -⟩ := strObj wi al E V C
  exact ⟨A, ⟨_, hB.2.2.1, D, hB.1, rfl, by cases q : D.vm <;> first | rfl | exact absurd q (hB.2.1.2 _)⟩, Has.of hB F1 g1, Has.of hB F2 g2, ⟨K1.1, State.isArrayOf_alike al K1.2.1, K1.2.2, by rcases hcod with ⟨-, q, -⟩ | ⟨-, q, -⟩ <;> omega⟩, hcod, fun j hj => by
    have e : cs.getD j 0 = cs[j] := by simp [List.getD_eq_getElem?_getD, hj]
    show ¬ cs.getD j 0 < 0 ∧ ¬ 65535 < cs.getD j 0
    rw [e]; exact hb _ (List.getElem_mem _)⟩
end StrChars.Road
namespace StrChars
open Jvm Sem ClassFile Op Lib Jvm.Stand Jvm.Free.XT Jvm.Free.ALB Jvm.Free.JM Jvm.Free
open Jvm.Lib.Cold (StaticIs)
namespace ChN
def yN : MethodName := ⟨"java/lang/String", "charAt", "(I)C"⟩
abbrev yB : ByteArray := jdk_42_method_56_code
theorem d0 : decode yB 0 = .ok (.aload_n 0, 1) := by decide +kernel
theorem d1 : decode yB 1 = .ok (.invokevirtual 492, 3) := by decide +kernel
theorem d4 : decode yB 4 = .ok (.ifCond (.eq) 12, 3) := by decide +kernel
theorem d7 : decode yB 7 = .ok (.aload_n 0, 1) := by decide +kernel
theorem d8 : decode yB 8 = .ok (.getfield 9, 3) := by decide +kernel
theorem d11 : decode yB 11 = .ok (.iload_n 1, 1) := by decide +kernel
theorem d12 : decode yB 12 = .ok (.invokestatic 495, 3) := by decide +kernel
theorem d15 : decode yB 15 = .ok (.ireturn, 1) := by decide +kernel
def site : List Cond := [.fieldLink "java/lang/String" 9 "java/lang/String" "value" "[B", IsL.tab, LChA.tab] ++ virtW "java/lang/String" 492 "java/lang/String" IsL.yN IsL.yN ++ staticW "java/lang/String" 495 LChA.yN
def tab : Cond := tabOf yN yB 2 (some .char) site
def P (x t : Addr) (V : Cell) (n : Nat) (f : Nat → Int32) (z : Int32) (fm : Value) (i : Nat) (args : Array Value) (s : State) : Prop := args = #[.ref x, .int (Int32.ofNat i)] ∧ Txt x t V 0 n f s ∧ i < n ∧ StaticIs s "java/lang/String" "COMPACT_STRINGS" "Z" (.int z) ∧ ¬ z = 0 ∧ StaticIs s "jdk/internal/util/Preconditions" "SIOOBE_FORMATTER" "Ljava/util/function/BiFunction;" fm ∧ fm.isRef = true
def E (f : Nat → Int32) (i : Nat) (r : Option Value) (s u : State) : Prop := XT.PureE (some (.int (f i))) r s u
/-- charAt(i) of a Latin-1 String of n chars, i < n: f i -/
theorem law (l : Launch) (x t : Addr) (V : Cell) (n : Nat) (f : Nat → Int32) (z : Int32) (fm : Value) (i : Nat) : Law l yN 2 1 3 40 yB 2 (some .char) site (P x t V n f z fm i) (E f i) [] 0 0 := by
  refine Law.of_walk (plainFor_of_name (by decide +kernel)) (by decide +kernel) (by decide +kernel) (by decide) (fun _ _ h => by rw [h.1]; rfl) (fun _ U U' hal hh h => ⟨h.1, h.2.1.mv hal hh, h.2.2.1, h.2.2.2.1.there hal hh, h.2.2.2.2.1, h.2.2.2.2.2.1.there hal hh, h.2.2.2.2.2.2⟩) (fun r U U' V V' h1 hal h2 h => XT.PureE.mv r U U' V V' h1 hal h2 h) ?_
  intro p e s m args below meth c s₁ X0 hexec hbytes hml hret hlk hnm hown hh0 W hP
  obtain ⟨rfl, hx, hi, s1, hz, s3, rf⟩ := hP
  have v31 := hx.2.2.2.1.2.2.2
  have hr := hx.2.2.2.2.2 i hi
  have hx0 := hx.mv X0.warmed.alike hh0
  have c1 : Steps p.tables e below (s₁.setTop (entryFrame m #[.ref x, .int (Int32.ofNat i)] 2)) (s₁.setTop (mkF m 1 #[.val (.ref x), .val (.int (Int32.ofNat i))] [.ref x])) := Steps.trans (entry rfl) (by
    show Steps p.tables e below (s₁.setTop (mkF m 0 #[.val (.ref x), .val (.int (Int32.ofNat i))] [])) _
    refine XS.aloadN X0.here hexec rfl (hb hbytes d0) rfl rfl ?_
    exact Steps.refl _)
  obtain ⟨v2, T2, X2, E2, g2⟩ := X0.callV hexec (IsL.law l x 0 z) hown (wks W (virtW "java/lang/String" 492 "java/lang/String" IsL.yN IsL.yN)) rfl (by decide) (wk W IsL.tab) (W := 0) (Nat.le_of_ble_eq_true rfl) (Nat.le_of_ble_eq_true rfl) (Nat.le_refl _) (Nat.le_refl _) (hx0.1.fc X0.warmed.alike) hx0.1.is (g := (mkF m 1 #[.val (.ref x), .val (.int (Int32.ofNat i))] [.ref x])) rfl (by rw [hml]; rfl) c1 (argsL := []) (rest := []) rfl rfl (by show 2 * 0 + 0 ≤ _; decide) (hb hbytes d1) (⟨rfl, hx0.2.2.1, hx.2.2.2.2.1.cd, s1.there X0.warmed.alike hh0, hz⟩)
  obtain ⟨rfl, q2⟩ := E2
  have hh2 := q2.trans hh0
  have hx2 := hx.mv X2.warmed.alike hh2
  obtain ⟨-, k1, k2⟩ | ⟨k0, -⟩ := hx.2.2.2.2.1
  · have c3 : Steps p.tables e below (s₁.setTop (entryFrame m #[.ref x, .int (Int32.ofNat i)] 2)) (T2.setTop (mkF m 8 #[.val (.ref x), .val (.int (Int32.ofNat i))] [.ref x])) := Steps.trans g2 (by
      refine XS.ifNo X2.here hexec rfl (hb hbytes d4) rfl (i0_eq_f (by decide)) ?_
      refine XS.aloadN X2.here hexec rfl (hb hbytes d7) rfl rfl ?_
      exact Steps.refl _)
    obtain ⟨T4, X4, q4, st4⟩ := X2.hget hexec hown (wk W (.fieldLink "java/lang/String" 9 "java/lang/String" "value" "[B")) hx2.2.1 (g := (mkF m 8 #[.val (.ref x), .val (.int (Int32.ofNat i))] [.ref x])) rfl (rest := []) rfl (hb hbytes d8)
    have hh4 := q4.trans hh2
    have c5 : Steps p.tables e below (s₁.setTop (entryFrame m #[.ref x, .int (Int32.ofNat i)] 2)) (T4.setTop (mkF m 12 #[.val (.ref x), .val (.int (Int32.ofNat i))] [.int (Int32.ofNat i), .ref t])) := (c3.trans (st4 _ (Steps.refl _))).trans (by
      refine XS.iloadN X4.here hexec rfl (hb hbytes d11) rfl ?_
      exact Steps.refl _)
    obtain ⟨v6, T6, X6, E6, g6⟩ := X4.callS hexec (LChA.law l t V i (lo8 (f i)) fm) hown (wks W (staticW "java/lang/String" 495 LChA.yN)) (wk W LChA.tab) (W := 0) (Nat.le_of_ble_eq_true rfl) (Nat.le_of_ble_eq_true rfl) (Nat.le_refl _) (Nat.le_refl _) (g := (mkF m 12 #[.val (.ref x), .val (.int (Int32.ofNat i))] [.int (Int32.ofNat i), .ref t])) rfl (by rw [hml]; rfl) c5 (argsL := [.ref t, .int (Int32.ofNat i)]) (rest := []) rfl rfl (by show 2 * 0 + 0 ≤ _; decide) (hb hbytes d12) (⟨rfl, hx.2.2.2.1.mv X4.warmed.alike hh4, (k2 i hi).1, s3.there X4.warmed.alike hh4, rf⟩)
    obtain ⟨rfl, q6⟩ := E6
    rw [chr8_lo8 hr.1 (k2 i hi).2] at g6
    exact ⟨T6, some (.int (f i)), _, _, _, X6, rfl, rfl, rfl, (fun h => by cases h), ⟨rfl, q6.trans hh4⟩, fun fs hl => Steps.trans g6 (X6.ireturnOut hexec hret (narrow_ch hr.1 hr.2) (Or.inr (Or.inr (Or.inr (Or.inl rfl)))) (hb hbytes d15) hl)⟩
  · exact absurd k0 (by decide)
theorem pays {l : Launch} {R : Room} {p : Program} {e : Env} {below : List Frame} {s : State} {sargs : Array Value} {len W : Nat} (x t : Addr) (V : Cell) (n : Nat) (f : Nat → Int32) (z : Int32) (fm : Value) (i : Nat) (htab : tab.before sargs s = true) (hfr : 4 ≤ R.frames) (hlo : W + 53 ≤ R.locals) :
    Back l R p e below s sargs yN len W (fun A₁ a₁ => A₁.cells + 0 ≤ R.cells ∧ A₁.slots + 0 ≤ R.slots ∧ P x t V n f z fm i a₁ A₁.U) (fun A₁ _ v₁ B₁ => E f i v₁ A₁.U B₁.U ∧ B₁.locs = A₁.locs ++ [] ∧ B₁.cells = A₁.cells + 0 ∧ B₁.slots = A₁.slots + 0) :=
  (law l x t V n f z fm i).pays htab hfr (by omega)
end ChN
end StrChars
namespace StrChars.Road
open Jvm Sem ClassFile Op Lib Jvm.Stand Jvm.Free Jvm.Free.XT
open Jvm.Lib.Cold (StaticIs)
/-- the words of String.charAt(int), the Latin-1 road alone -/
abbrev wordsChN : List Jvm.Cond := [.code ChN.yN ChN.yB 2 (some .char), .initialized ST, .fieldLink ST 9 ST "value" "[B", .fieldLink ST 38 ST "COMPACT_STRINGS" "Z", .fieldLink ST 15 ST "coder" "B", .code IsL.yN IsL.yB 1 (some .boolean), .methodLink ST 492 IsL.yN, .declares IsL.yN, .selects ST IsL.yN IsL.yN, .instanceMethod IsL.yN,
  .methodLink ST 495 LChA.yN, .static LChA.yN, .code LChA.yN LChA.yB 2 (some .char), .initialized "java/lang/StringLatin1", .methodLink "java/lang/StringLatin1" 9 JO.Str_checkIndex.yN, .static JO.Str_checkIndex.yN, .code JO.Str_checkIndex.yN JO.Str_checkIndex.yB 2 none,
  .fieldLink ST 1053 "jdk/internal/util/Preconditions" "SIOOBE_FORMATTER" "Ljava/util/function/BiFunction;", .methodLink ST 1059 JC.PreCheck.yN, .static JC.PreCheck.yN, .code JC.PreCheck.yN JC.PreCheck.yB 3 (some .int), .initialized "jdk/internal/util/Preconditions"]
theorem tabChN_of {a : Array Value} {s : State} (h : ∀ w ∈ wordsChN, w.before a s = true) : ChN.tab.before a s = true := by
  have hp : JC.PreCheck.tab.before a s = true := unparts (wk h (.code JC.PreCheck.yN JC.PreCheck.yB 3 (some .int))) (wks h (.initialized JC.PreCheck.yN.cls :: JC.PreCheck.site))
  have qk := consq hp h
  have hk : JO.Str_checkIndex.tab.before a s = true := unparts (wk qk (.code JO.Str_checkIndex.yN JO.Str_checkIndex.yB 2 none)) (wks qk (.initialized JO.Str_checkIndex.yN.cls :: JO.Str_checkIndex.site))
  have ql := consq hk h
  have hl : LChA.tab.before a s = true := unparts (wk ql (.code LChA.yN LChA.yB 2 (some .char))) (wks ql (.initialized LChA.yN.cls :: LChA.site))
  have hi : IsL.tab.before a s = true := unparts (wk h (.code IsL.yN IsL.yB 1 (some .boolean))) (wks h (.initialized IsL.yN.cls :: IsL.site))
  have q := consq hi (consq hl h)
  exact unparts (wk q (.code ChN.yN ChN.yB 2 (some .char))) (wks q (.initialized ChN.yN.cls :: ChN.site))
theorem movedChN {Z s : State} {a0 args : Array Value} (hZ : Z.Warmed39 s.vm) (hw : ∀ d ∈ wordsChN, d.before a0 Z = true) : ∀ d ∈ wordsChN, d.before args s = true := fun d hd => by
  have t : ∀ d ∈ wordsChN, (d.onTables && d.keepsFace) = true := by decide +kernel
  exact RoadKit.mv hZ (hw d hd) (t d hd)
/-- **charAt(i) OF A LATIN-1 STRING**, i < n: the char -/
theorem chN {p : Program} {l : Launch} {e : Env} {R : Room} {s : State} {args : Array Value} {below : List Frame} {len W : Nat} {Z : State} {a0 : Array Value} {h : Heap} (hZ : Z.Warmed39 s.vm) (hw : ∀ d ∈ wordsChN, d.before a0 Z = true) {kI : Nat} (wi : (Jvm.Cond.instantiable ST kI).before a0 Z = true)
    {x t : Addr} {kb : ClassId} {cs : List Int32} {N2 z : Int32} {vs : List Value} {fm : Value} {i : Nat} {j : Int32} (E : RoadKit.Exa Z h x ST) (V : RoadKit.Fld Z h x ST "value" "[B" (.ref t)) (C : RoadKit.Fld Z h x ST "coder" "B" (.int 0)) (K : RoadKit.Arv Z h t kb .byte N2 vs (.int 0)) (hc : CodA cs 0 N2 vs) (hb : ∀ c ∈ cs, ¬ c < 0 ∧ ¬ (65535 : Int32) < c)
    (S : RoadKit.Sta Z h ST "COMPACT_STRINGS" "Z" (.int z)) (hz : ¬ z = 0) (F : RoadKit.Sta Z h "jdk/internal/util/Preconditions" "SIOOBE_FORMATTER" "Ljava/util/function/BiFunction;" fm) (rf : fm.isRef = true) (l2 : cs.length ≤ 4000) (hi : i < cs.length) (hj : j = Int32.ofNat i) (hfr : 4 ≤ R.frames) (hlo : W + 53 ≤ R.locals) :
    Back l R p e below s args (⟨"java/lang/String", "charAt", "(I)C"⟩ : MethodName) len W (fun P a => a = #[.ref x, .int j] ∧ P.U.heap = h ∧ P.cells + 0 ≤ R.cells ∧ P.slots + 0 ≤ R.slots)
      (fun P _ v B => ∃ L, (v = some (.int (cs.getD i 0)) ∧ L = [] ∧ B.U.heap = h) ∧ B.locs = P.locs ++ L ∧ B.cells = P.cells + 0 ∧ B.slots = P.slots + 0) := by
  subst hj
  intro m meth c P g ig mk a X hg hsize hdg hW hn hp'
  obtain ⟨rfl, rfl, r1, r2⟩ := hp'
  have al : Z.vm.Alike P.U.vm := hZ.alike.trans X.warmed.alike
  obtain ⟨A, hx⟩ := txt_of wi al E V C K hc hb l2
  obtain ⟨v, B, X', ⟨⟨hv, hh⟩, hl, hk, hs⟩, st⟩ := ChN.pays x t A cs.length (fun j => cs.getD j 0) z fm i (tabChN_of (movedChN hZ hw)) hfr hlo m meth c P g ig mk _ X hg hsize hdg hW hn ⟨r1, r2, rfl, hx, hi, sta_is al S, hz, sta_is al F, rf⟩
  exact ⟨v, B, X', ⟨[], ⟨hv, rfl, hh⟩, hl, hk, hs⟩, st⟩
/-- what backV says of its String, as the contracts of this text ask it: cs's low bytes, coder 0 -/
theorem codOf {cs : List Int32} {n : Nat} (hn : cs.length = n) (hb : ∀ c ∈ cs, ¬ 255 < c) : CodA cs 0 (Int32.ofNat n) ((cs.map lo8).map Value.int) := Or.inl ⟨rfl, by rw [hn], by simp [List.map_map, Function.comp_def], hb⟩
end StrChars.Road
end Jvm.Pilot.@@N@@

namespace Jvm.RoadKit
open Sem ClassFile Op Lib Jvm.Stand Jvm.Free Jvm.LawKit
section Own
variable {p : Program} {l : Launch} {e : Env} {R : Room} {s : State} {m : MethodId} {args : Array Value} {below : List Frame} {meth : Method} {c : Code} {T T' : State} {locs : List Loc} {cells slots : Nat} {Q : Option Value → Heap → List Loc → Prop} {h : Heap}
/-- from T the invocation comes to an end of which P holds -/
def Ends (p : Program) (e : Env) (below : List Frame) (P : Outcome → State → Prop) (T : State) : Prop := ∃ s₂ o, Steps p.tables e below T s₂ ∧ s₂.status = .running ∧ Ended s₂ below o ∧ P o s₂
/-- the end of a body that interns nothing -/
def EndN (s : State) (R : Room) (Q : Option Value → Heap → List Loc → Prop) (o : Outcome) (s₂ : State) : Prop := ∃ v L, o = .returned v ∧ Q v s₂.heap L ∧ FrameEnd s o s₂ L R.cells R.slots
/-- the end of a body that may intern String constants -/
def EndW (s : State) (R : Room) (Z : State) (EL : List (String × Nat)) (Q : Option Value → Heap → List Loc → Prop) (o : Outcome) (s₂ : State) : Prop := ∃ v L, o = .returned v ∧ Q v s₂.heap L ∧ CHr Z EL s.vm s.heap s₂.vm s₂.heap ∧ ReturnedEndW s o s₂ L R.cells R.slots
theorem Ends.pre {P : Outcome → State → Prop} (k : ∀ t, Steps p.tables e below T' t → Steps p.tables e below T t) (h : Ends p e below P T') : Ends p e below P T := by
  obtain ⟨a, b, d, r⟩ := h
  exact ⟨a, b, k _ d, r⟩
theorem Ends.cast {P : Outcome → State → Prop} {g g' : JFrame} (q : g = g') (h : Ends p e below P (T.setTop g')) : Ends p e below P (T.setTop g) := q ▸ h
theorem Ends.ret (X : Stand p l e R s m args below meth c T locs cells slots) (hx : p.tables.exec = Jvm.exec) (hlk : meth.locks = false) {pc : Nat} {Ls : Array Slot} {w : Value} {t : FieldType} {i : Instr} {rest : List Value} (hret : meth.sig.returnType = some t) (hn : narrow t w = w)
    (hi : (i = .ireturn ∧ (t = .int ∨ t = .boolean ∨ t = .byte ∨ t = .char ∨ t = .short) ∧ ∃ z, w = .int z) ∨ (i = .lreturn ∧ t = .long ∧ ∃ z, w = .long z) ∨ (i = .dreturn ∧ t = .double ∧ ∃ z, w = .double z) ∨ (i = .freturn ∧ t = .float ∧ ∃ z, w = .float z) ∨ (i = .areturn ∧ t.isReference = true ∧ w.isRef = true))
    (hd : decode c.code pc = .ok (i, 1)) (eT : T.heap = h) (hq : Q (some w) h locs) (h1 : cells ≤ R.cells) (h2 : slots ≤ R.slots) : Ends p e below (EndN s R Q) (T.setTop (mkF m pc Ls (w :: rest))) := by
  obtain ⟨fs, hr, hrun, hended, hW, hsame⟩ := X.leave (v := some w) (fun q => by rw [hret] at q; cases q) hlk
  refine ⟨_, _, retOut X hx hret hn hi hd hr, hrun, hended, _, _, rfl, ?_, ⟨_, rfl⟩, hW, hsame.mono h1 h2⟩
  show Q (some w) T.heap locs
  rw [eT]; exact hq
theorem Ends.ret0 (X : Stand p l e R s m args below meth c T locs cells slots) (hx : p.tables.exec = Jvm.exec) (hlk : meth.locks = false) {pc : Nat} {Ls : Array Slot} (hret : meth.sig.returnType = none)
    (hd : decode c.code pc = .ok (.return_, 1)) (eT : T.heap = h) (hq : Q none h locs) (h1 : cells ≤ R.cells) (h2 : slots ≤ R.slots) : Ends p e below (EndN s R Q) (T.setTop (mkF m pc Ls [])) := by
  obtain ⟨fs, hr, hrun, hended, hW, hsame⟩ := X.leave (v := none) (fun _ => rfl) hlk
  refine ⟨_, _, X.returnOut hx hret hd hr, hrun, hended, _, _, rfl, ?_, ⟨_, rfl⟩, hW, hsame.mono h1 h2⟩
  show Q none T.heap locs
  rw [eT]; exact hq
theorem Ends.retW {Z : State} {a0 : Array Value} {EL : List (String × Nat)} {vm0 : Vm} {k0 : Nat} {h0 : Heap} (X : Stand p l e R (s.setVm vm0) m args below meth c T locs cells slots) (hx : p.tables.exec = Jvm.exec) (hlk : meth.locks = false) {pc : Nat} {Ls : Array Slot} {w : Value} {t : FieldType} {i : Instr} {rest : List Value} (hret : meth.sig.returnType = some t) (hn : narrow t w = w)
    (hi : (i = .ireturn ∧ (t = .int ∨ t = .boolean ∨ t = .byte ∨ t = .char ∨ t = .short) ∧ ∃ z, w = .int z) ∨ (i = .lreturn ∧ t = .long ∧ ∃ z, w = .long z) ∨ (i = .dreturn ∧ t = .double ∧ ∃ z, w = .double z) ∨ (i = .freturn ∧ t = .float ∧ ∃ z, w = .float z) ∨ (i = .areturn ∧ t.isReference = true ∧ w.isRef = true))
    (hd : decode c.code pc = .ok (i, 1)) (eT : T.heap = h) (hZ : Z.Warmed39 vm0) (hEL : EW Z a0 EL) (hS : s.Since vm0 k0) (hk : k0 ≤ h.size) (hh : s.heap = h0) (CR : CHr Z EL s.vm h0 vm0 h) (hq : Q (some w) h locs) (h1 : cells ≤ R.cells) (h2 : slots ≤ R.slots) : Ends p e below (EndW s R Z EL Q) (T.setTop (mkF m pc Ls (w :: rest))) := by
  subst eT hh
  obtain ⟨fs, hr, hrun, hended, r1, r2, r3, r4⟩ := X.leaveW hS hk (v := some w) (fun q => by rw [hret] at q; cases q) hlk
  have q := CR.trans (CHv.at X hZ hEL CR.1)
  exact ⟨_, _, retOut X hx hret hn hi hd hr, hrun, hended, _, _, rfl, hq, q, r1, r2, r3, r4.mono h1 h2⟩
theorem Ends.ret0W {Z : State} {a0 : Array Value} {EL : List (String × Nat)} {vm0 : Vm} {k0 : Nat} {h0 : Heap} (X : Stand p l e R (s.setVm vm0) m args below meth c T locs cells slots) (hx : p.tables.exec = Jvm.exec) (hlk : meth.locks = false) {pc : Nat} {Ls : Array Slot} (hret : meth.sig.returnType = none)
    (hd : decode c.code pc = .ok (.return_, 1)) (eT : T.heap = h) (hZ : Z.Warmed39 vm0) (hEL : EW Z a0 EL) (hS : s.Since vm0 k0) (hk : k0 ≤ h.size) (hh : s.heap = h0) (CR : CHr Z EL s.vm h0 vm0 h) (hq : Q none h locs) (h1 : cells ≤ R.cells) (h2 : slots ≤ R.slots) : Ends p e below (EndW s R Z EL Q) (T.setTop (mkF m pc Ls [])) := by
  subst eT hh
  obtain ⟨fs, hr, hrun, hended, r1, r2, r3, r4⟩ := X.leaveW hS hk (v := none) (fun _ => rfl) hlk
  have q := CR.trans (CHv.at X hZ hEL CR.1)
  exact ⟨_, _, X.returnOut hx hret hd hr, hrun, hended, _, _, rfl, hq, q, r1, r2, r3, r4.mono h1 h2⟩
/-- T' stands as T does -/
def SS (X : Stand p l e R s m args below meth c T locs cells slots) (T' : State) : Prop := Stand p l e R s m args below meth c T' locs cells slots
theorem Stand_mono {cells' slots' : Nat} (X : Stand p l e R s m args below meth c T locs cells slots) (h1 : cells ≤ cells') (h2 : slots ≤ slots') : Stand p l e R s m args below meth c T locs cells' slots' := { X with same := X.same.mono h1 h2 }
theorem lremM {g : JFrame} {target : State} (X : Stand p l e R s m args below meth c T locs cells slots) (hx : p.tables.exec = Jvm.exec) (hg : g.method = m) {x y : Int64} {rest : List Value} (hd : decode c.code g.pc = .ok (.lrem, 1)) (hs : g.stack = .long y :: .long x :: rest) (hy : y ≠ 0)
    (hr : Steps p.tables e below (T.setTop { g with pc := g.pc + 1, stack := .long (x % y) :: rest }) target) : Steps p.tables e below (T.setTop g) target :=
  XS.lrem X.here hx hg hd hs hy (by rw [lrem_mod]; exact hr)
theorem nf_via {y y' : MethodName} {m' : MethodId} (hn : s.methodNamed? y' = some m') (hc : y'.cls = y.cls) (nf : NotFace s y') : NotFace s y := fun r0 h0 => by
  obtain ⟨kr, h1, h2⟩ := nf _ hn
  have e1 := findClass_of_methodNamed hn
  have e2 := findClass_of_methodNamed h0
  rw [hc] at e1
  have e3 : m'.cls = r0.cls := Option.some.inj (e1.symm.trans e2)
  exact ⟨kr, e3 ▸ h1, h2⟩
theorem Sta_keep0 {Z : State} {h h' : Heap} {C n d : String} {v : Value} (F : Sta Z h C n d v) (K : Keep h h' []) : Sta Z h' C n d v := by
  obtain ⟨cf, i, k, f, st, cell, h1, h2, h3, h4, h5, r⟩ := F
  exact ⟨cf, i, k, f, st, cell, h1, h2, h3, h4, K.2.1 _ _ h5 nin0, r⟩
theorem Sta_keepW {Z : State} {h h' : Heap} {ws : List Addr} {C n d : String} {v : Value} (F : Sta Z h C n d v) (K : Keep h h' ws) (q : ∀ x ∈ ws, ∀ cell : Cell, h[x]? = some cell → cell.vm.isStatics = false) : Sta Z h' C n d v := by
  obtain ⟨cf, i, k, f, st, cell, h1, h2, h3, h4, h5, h6, r⟩ := F
  exact ⟨cf, i, k, f, st, cell, h1, h2, h3, h4, K.2.1 _ _ h5 (fun z => by have := q _ z _ h5; rw [h6] at this; cases this), h6, r⟩
theorem Ins_keep {Z : State} {h h' : Heap} {ws : List Addr} {a : Addr} {C : String} {b : Bool} (F : Ins Z h a C b) (K : Keep h h' ws) : Ins Z h' a C b := by
  obtain ⟨cell, cT, h1, h2, h3⟩ := F
  obtain ⟨c', q1, q2, q3, -⟩ := K.2.2 _ _ h1
  exact ⟨c', cT, q1, h2, by rw [q2, q3]; exact h3⟩
theorem Arr_keep0 {Z : State} {h h' : Heap} {a : Addr} {c : Cell} {ty : FieldType} (F : Arr Z h a c ty) (K : Keep h h' []) : Arr Z h' a c ty := ⟨K.2.1 _ _ F.1 nin0, F.2⟩
theorem NS_root' {Z : State} {a0 : Array Value} {O K : String} {n : Nat} (w : (Cond.noSuperclass O).before a0 Z = true) (wk : (Cond.instantiable K n).before a0 Z = true) (hn : O ≠ K) : NS Z O K := by
  obtain ⟨c, k, h1, h2, h3, -, -⟩ := Cond.noSuperclass_spec w
  obtain ⟨t, kt, g1, -⟩ := Cond.instantiable_spec wk
  have ne := ids_ne h1 g1 hn
  refine ⟨c, t, h1, g1, fun fuel => ?_⟩
  cases fuel with
  | zero => rfl
  | succ f => simp [Vm.isSubclassAux, ne, h2, h3]
theorem NS_no' {Z : State} {a0 : Array Value} {C S K : String} {n : Nat} (w : (Cond.superclass C S).before a0 Z = true) (wk : (Cond.instantiable K n).before a0 Z = true) (q : NS Z C K) (hn : C ≠ K) : ∃ c t, Z.vm.findClass C = some c ∧ Z.vm.findClass K = some t ∧ Z.vm.assignable c t = false := by
  obtain ⟨c, t, h0, g0, n3⟩ := q
  obtain ⟨p, k, kp, h1, h2, h3, h4, h5, -, h7⟩ := Cond.superclass_spec h0 w
  obtain ⟨t', k', g1, g2, g5, g7, -⟩ := Cond.instantiable_spec wk
  cases g0.symm.trans g1
  have ne := ids_ne h0 g0 hn
  have g8 : k'.isInterface = false := by
    cases hq : k'.isInterface with
    | false => rfl
    | true => simp [hq] at g7
  refine ⟨c, t, h0, g0, ?_⟩
  show Z.vm.assignableAux (255 + 1) c t = false
  simp [Vm.assignableAux, ne, h2, g2, h5, g5, g8, Vm.isSubclass, n3]
theorem Safe_null {Z : State} {EL : List (String × Nat)} {vm : Vm} {h : Heap} {x : Addr} (hal : Z.vm.Alike vm) (E : Exa Z h x "java/lang/String") (F : Fld Z h x "java/lang/String" "value" "[B" .null) : Safe Z EL vm h x := fun B => by
  obtain ⟨p, -, u, a, -, q, -, G, rfl | rfl⟩ := B
  · have ha : h[q.sa]? = some q.sC := G.ha
    obtain ⟨cS, ⟨⟨-, -, -, ⟨c1, k1, i1, f1, -⟩, -, -, -, v1, -⟩, -⟩, -⟩ := G
    obtain ⟨cell, cf, k, i, f, g1, g2, -, -, -, -, g7⟩ := F
    cases ha.symm.trans g1
    obtain ⟨k3, e3, -⟩ := State.fieldFound?_setVm (s := Z) hal g2
    have e4 := (show (Wst Z vm h).fieldFound? _ _ _ = _ from e3).symm.trans f1
    simp only [Option.some.injEq, Prod.mk.injEq] at e4
    rw [← e4.2.2.2, g7] at v1
    cases v1
  · have hd : h[q.sd]? = some q.SA := G.hd
    obtain ⟨cS, -, -, f, -⟩ := G
    obtain ⟨cell, k, e1, e2, -⟩ := E
    cases hd.symm.trans e1
    exact ids_ne e2 ((hal.findClass _ _).symm.trans f) (by decide) rfl
theorem sel_priv {args : Array Value} {n : Nat} {y : MethodName} (hy : y.cls ≠ "java/lang/invoke/MethodHandle" ∧ y.cls ≠ "java/lang/invoke/VarHandle") (hins : (Cond.instantiable y.cls n).before args s = true) (hpriv : (Cond.privateMethod y).before args s = true) (hinst : (Cond.instanceMethod y).before args s = true) : (Cond.selects y.cls y y).before args s = true := by
  obtain ⟨c, k, hc, hk, -, hniab, -, -⟩ := Cond.instantiable_spec hins
  have hni : k.isInterface = false := (Bool.or_eq_false_iff.mp hniab).1
  obtain ⟨mk, methM, hnamed, hmethM, -, -⟩ := Cond.instanceMethod_spec hinst
  have hfound : s.methodFound? y.cls y.name y.desc = some mk := State.methodFound?_of_named hnamed hy
  have hcls : mk.cls = c := Option.some.inj ((findClass_of_methodNamed hnamed).symm.trans hc)
  have hsel : selectMethod {} s.vm c mk = .method mk := selectMethod_private hmethM (Cond.privateMethod_at hpriv mk methM hnamed hmethM)
  simp only [Cond.before, Cond.holds, Cond.value, hc, hfound, hnamed, hsel, hcls, hk]
  simp; exact hni
theorem arv_ty {Z : State} {h : Heap} {a b : Addr} {k1 k2 : ClassId} {t1 t2 : FieldType} {z1 z2 : Int32} {v1 v2 : List Value} {d1 d2 : Value} (A : Arv Z h a k1 t1 z1 v1 d1) (B : Arv Z h b k2 t2 z2 v2 d2) (q : t1 ≠ t2) : a ≠ b := fun e => by
  subst e
  obtain ⟨c1, A1, -⟩ := A
  obtain ⟨c2, B1, -⟩ := B
  cases A1.1.symm.trans B1.1
  obtain ⟨-, k, h1, comp, h2⟩ := A1.2.1
  obtain ⟨-, k', h1', comp', h2'⟩ := B1.2.1
  cases h1.symm.trans h1'
  rw [h2] at h2'
  cases h2'
  exact q rfl
theorem eqI_v {first : State} {o : Option Outcome} {idx : List Nat} {a : Term} {k : Int32} (q : (Cond.eq a (.int k)).value args first o s idx = some true) : a.eval args first o idx s = some (.int k) := by
  cases ha : a.eval args first o idx s with
  | none => simp [Cond.value, ha] at q
  | some x => cases x <;> simp [Cond.value, ha, Term.eval] at q ⊢; exact q
theorem eqL_v {first : State} {o : Option Outcome} {idx : List Nat} {a : Term} {k : Int64} (q : (Cond.eq a (.long k)).value args first o s idx = some true) : a.eval args first o idx s = some (.long k) := by
  cases ha : a.eval args first o idx s with
  | none => simp [Cond.value, ha] at q
  | some x => cases x <;> simp [Cond.value, ha, Term.eval] at q ⊢; exact q
end Own
end Jvm.RoadKit
namespace Jvm.Pilot.@@N@@
open Jvm Jvm.ClassFile Sem Op Lib Jvm.Free Jvm.Stand Jvm.LawKit Jvm.RoadKit Bundle Jvm.Pilot.@@N@@.Jvm.D
theorem own_al0 {P : Int32 → Prop} : ∀ x ∈ ([] : List Int32), P x := fun _ q => nomatch q
theorem own_alS {P : Int32 → Prop} {y : Int32} {L : List Int32} (q : P y) (r : ∀ x ∈ L, P x) : ∀ x ∈ y :: L, P x := fun x z => (List.mem_cons.mp z).elim (fun u => u ▸ q) (r x)
theorem own_up (cs : List Int32) (h : ∀ c ∈ cs, ¬ c < 0 ∧ ¬ (255 : Int32) < c) : ∀ c ∈ cs, ¬ c < 0 ∧ ¬ (65535 : Int32) < c := fun c hc => ⟨(h c hc).1, fun q => (h c hc).2 (by rw [Int32.lt_iff_toInt_lt] at q ⊢; have e1 : (65535 : Int32).toInt = 65535 := rfl; have e2 : (255 : Int32).toInt = 255 := rfl; omega)⟩
theorem own_char {c : Int32} (h : ¬ c < 0 ∧ ¬ (255 : Int32) < c) : nar .char c = c := by
  obtain ⟨h0, h1⟩ := h
  have a := c_i2c c
  have e : nar .char c = c.toUInt32.toUInt16.toUInt32.toInt32 := rfl
  have e0 : (0 : Int32).toInt = 0 := rfl
  have e1 : (255 : Int32).toInt = 255 := rfl
  rw [Int32.lt_iff_toInt_lt] at h0 h1
  rw [e]; apply Int32.toInt_inj.mp; omega
theorem own_i2c {c : Int32} (h : ¬ c < 0 ∧ ¬ (255 : Int32) < c) : c.toUInt32.toUInt16.toUInt32.toInt32 = c := by
  obtain ⟨h0, h1⟩ := h
  have a := c_i2c c
  have e0 : (0 : Int32).toInt = 0 := rfl
  have e1 : (255 : Int32).toInt = 255 := rfl
  rw [Int32.lt_iff_toInt_lt] at h0 h1
  apply Int32.toInt_inj.mp; omega
theorem own_ci {c : Int32} (h : ¬ c < 0 ∧ ¬ (255 : Int32) < c) : ¬ c.toUInt32.toUInt16.toUInt32.toInt32 < 0 ∧ ¬ (255 : Int32) < c.toUInt32.toUInt16.toUInt32.toInt32 := by rw [own_i2c h]; exact h
theorem own_and255 (x : Int32) : ¬ (x &&& (255 : Int32)) < 0 ∧ ¬ (255 : Int32) < (x &&& (255 : Int32)) := by
  have a := c_mask x (255 : Int32) 8 (by decide) (by decide)
  have e0 : (0 : Int32).toInt = 0 := rfl
  have e1 : (255 : Int32).toInt = 255 := rfl
  simp only [Int32.lt_iff_toInt_lt, e0, e1]
  omega
theorem own_lit {cs : List Int32} {vs : List Value} {N : Int32} (h1 : N = Int32.ofNat cs.length) (h2 : vs = cs.map fun c => Value.int (StrChars.lo8 c)) (h3 : ∀ c ∈ cs, ¬ 255 < c) : StrChars.Road.CodA cs 0 N vs := Or.inl ⟨rfl, h1, h2, h3⟩
theorem own_hws {Z : State} {a0 : Array Value} (hw : ∀ d ∈ tables_1, d.before a0 Z = true) : ∀ d ∈ StrChars.Road.words, d.before a0 Z = true := fun d hd => hw d ((by decide +kernel : ∀ d ∈ StrChars.Road.words, d ∈ tables_1) d hd)
theorem own_hln {Z : State} {a0 : Array Value} (hw : ∀ d ∈ tables_1, d.before a0 Z = true) : ∀ d ∈ StrChars.Road.wordsLen, d.before a0 Z = true := fun d hd => hw d ((by decide +kernel : ∀ d ∈ StrChars.Road.wordsLen, d ∈ tables_1) d hd)
theorem own_hch {Z : State} {a0 : Array Value} (hw : ∀ d ∈ tables_1, d.before a0 Z = true) : ∀ d ∈ StrChars.Road.wordsChN, d.before a0 Z = true := fun d hd => hw d ((by decide +kernel : ∀ d ∈ StrChars.Road.wordsChN, d ∈ tables_1) d hd)
theorem own_since (s : State) : s.Since s.vm 0 := State.WarmedH.since (State.WarmedH.refl s) 0
theorem own_EW {Z : State} {a0 : Array Value} (hw : ∀ d ∈ tables_1, d.before a0 Z = true) : EW Z a0 consts_1 := (EW.cons (hw _ (List.mem_of_getElem? (i := 75) rfl)) (by decide) EW.nil)
theorem own_wS {Z : State} {a0 : Array Value} (hw : ∀ d ∈ tables_1, d.before a0 Z = true) : ∀ a ∈ Bundle.stringAtoms, a.before a0 Z = true := fun d hd => hw d ((by decide +kernel : ∀ d ∈ Bundle.stringAtoms, d ∈ tables_1) d hd)

theorem own_len {args : Array Value} {s : State} {t : Term} {a : Addr} {cl : Cell} {z : Int32} (ht : t.eval args s none [] s = some (.ref a)) (hat : s.arrayAt? a = some cl) (hl : (Term.length t).eval args s none [] s = some (.int z)) : cl.slots.size < 2 ^ 31 ∧ cl.slots.size.toInt32 = z := by
  by_cases q : cl.slots.size < 2 ^ 31
  · rw [len_f ht hat q] at hl
    injection hl with h1; injection h1 with h2
    exact ⟨q, h2⟩
  · simp [Term.eval, ht, hat, q] at hl
theorem eqR_v {args : Array Value} {first s : State} {o : Option Outcome} {idx : List Nat} {a b : Term} {y : Addr} (q : (Jvm.Cond.eq a b).value args first o s idx = some true) (hb : b.eval args first o idx s = some (.ref y)) : a.eval args first o idx s = some (.ref y) := by
  cases ha : a.eval args first o idx s with
  | none => simp [Cond.value, ha] at q
  | some x => cases x <;> simp [Cond.value, ha, hb] at q ⊢; exact q

def own_hexd (j : Int32) : Int32 := if j < (10 : Int32) then (48 : Int32) + j else (97 : Int32) + (j - (10 : Int32))
theorem own_hexr {j : Int32} (h : ¬ j < 0 ∧ ¬ (15 : Int32) < j) : ¬ own_hexd j < 0 ∧ ¬ (255 : Int32) < own_hexd j := by
  have e0 : (0 : Int32).toInt = 0 := rfl
  have e1 : (15 : Int32).toInt = 15 := rfl
  have e2 : (10 : Int32).toInt = 10 := rfl
  have e3 : (48 : Int32).toInt = 48 := rfl
  have e4 : (97 : Int32).toInt = 97 := rfl
  have e5 : (255 : Int32).toInt = 255 := rfl
  have a := c_iadd (48 : Int32) j
  have b := c_isub j (10 : Int32)
  have c := c_iadd (97 : Int32) (j - (10 : Int32))
  have r1 := rng32 ((48 : Int32) + j)
  have r2 := rng32 (j - (10 : Int32))
  have r3 := rng32 ((97 : Int32) + (j - (10 : Int32)))
  unfold own_hexd
  split <;> rename_i q <;> simp only [Int32.lt_iff_toInt_lt, e0, e1, e2, e3, e4, e5] at * <;> omega
theorem own_and15 (x : Int32) : ¬ (x &&& (15 : Int32)) < 0 ∧ ¬ (15 : Int32) < (x &&& (15 : Int32)) := by
  have a := c_mask x (15 : Int32) 4 (by decide) (by decide)
  have e0 : (0 : Int32).toInt = 0 := rfl
  have e1 : (15 : Int32).toInt = 15 := rfl
  simp only [Int32.lt_iff_toInt_lt, e0, e1]
  omega
theorem own_in16 {j : Int32} (h : ¬ j < 0 ∧ ¬ (15 : Int32) < j) : ¬ (j < 0 ∨ 16 ≤ j.toNatClampNeg) := by
  have n := nat_of h.1
  have e1 : (15 : Int32).toInt = 15 := rfl
  have q := h.2
  rw [Int32.lt_iff_toInt_lt, e1] at q
  rintro (a | a)
  · exact h.1 a
  · omega
theorem own_div (y : Int32) : ((y >>> ((4 : Int32) &&& 31)) &&& (15 : Int32)) = ((y &&& (255 : Int32)) / (16 : Int32)) := by
  have a := c_ishr y (4 : Int32) 4 (by decide)
  have b := c_mask (y >>> ((4 : Int32) &&& 31)) (15 : Int32) 4 (by decide) (by decide)
  have c := c_mask y (255 : Int32) 8 (by decide) (by decide)
  have d := (c_idiv (y &&& (255 : Int32)) (16 : Int32) 16 (by decide) (by decide)).1 (by omega)
  apply Int32.toInt_inj.mp
  omega
theorem own_rem (y : Int32) : (y &&& (15 : Int32)) = ((y &&& (255 : Int32)) % (16 : Int32)) := by
  have b := c_mask y (15 : Int32) 4 (by decide) (by decide)
  have c := c_mask y (255 : Int32) 8 (by decide) (by decide)
  have d := (c_irem (y &&& (255 : Int32)) (16 : Int32) 16 (by decide)).1 (by omega)
  apply Int32.toInt_inj.mp
  omega
theorem own_divr (y : Int32) : ¬ ((y &&& (255 : Int32)) / (16 : Int32)) < 0 ∧ ¬ (15 : Int32) < ((y &&& (255 : Int32)) / (16 : Int32)) := own_div y ▸ own_and15 _
theorem own_remr (y : Int32) : ¬ ((y &&& (255 : Int32)) % (16 : Int32)) < 0 ∧ ¬ (15 : Int32) < ((y &&& (255 : Int32)) % (16 : Int32)) := own_rem y ▸ own_and15 _
theorem own_byte (x : Int32) : nar .byte x.toInt8.toInt32 = x.toInt8.toInt32 := by
  show x.toInt8.toInt32.toInt8.toInt32 = x.toInt8.toInt32
  simp
theorem own_m4 (x : Int32) : (x &&& (3 : Int32)) = 0 ∨ (x &&& (3 : Int32)) = 1 ∨ (x &&& (3 : Int32)) = 2 ∨ (x &&& (3 : Int32)) = 3 := by
  have a := c_mask x (3 : Int32) 2 (by decide) (by decide)
  have e0 : (0 : Int32).toInt = 0 := rfl
  have e1 : (1 : Int32).toInt = 1 := rfl
  have e2 : (2 : Int32).toInt = 2 := rfl
  have e3 : (3 : Int32).toInt = 3 := rfl
  simp only [← Int32.toInt_inj, e0, e1, e2, e3]
  omega
theorem own_digits {args : Array Value} {s : State} {a : Addr} {cl : Cell} {t : Term} (hf : Fit s) (hti : ∀ idx, t.eval args s none idx s = some (.ref a)) (Ar : Arr s s.heap a cl .char) (hs : cl.slots.size = 16)
    (h1 : (Jvm.Cond.all t (Jvm.Cond.or (Jvm.Cond.le (Term.int 10) (Term.index 0)) (Jvm.Cond.eq (Term.op1 Unary.i2l (Term.elem t (Term.index 0))) (Term.op2 Binary.ladd (Term.op1 Unary.i2l (Term.index 0)) (Term.long 48))))).value args s none s [] = some true)
    (h2 : (Jvm.Cond.all t (Jvm.Cond.or (Jvm.Cond.lt (Term.index 0) (Term.int 10)) (Jvm.Cond.eq (Term.op1 Unary.i2l (Term.elem t (Term.index 0))) (Term.op2 Binary.ladd (Term.op1 Unary.i2l (Term.index 0)) (Term.long 87))))).value args s none s [] = some true) :
    ∀ j : Int32, ¬ (j < 0 ∨ cl.slots.size ≤ j.toNatClampNeg) → cl.slots[j.toNatClampNeg]? = some (.int (own_hexd j)) := by
  intro j hj
  have hat := Arr.fin (Vm.Alike.refl _) Ar
  have hj0 : ¬ j < 0 := fun q => hj (Or.inl q)
  have hjl : j.toNatClampNeg < cl.slots.size := Nat.lt_of_not_le fun q => hj (Or.inr q)
  obtain ⟨v, hv, hfv⟩ := elem_fit hf Ar hj
  obtain ⟨x, rfl⟩ := fit_I hfv (by simp)
  have g1 := Cond.all_elim (hti _) hat h1 _ hjl
  have g2 := Cond.all_elim (hti _) hat h2 _ hjl
  have ei : (Term.index 0).eval args s none [j.toNatClampNeg] s = some (.int j) := idx_at hj0
  have ee : (Term.elem t (Term.index 0)).eval args s none [j.toNatClampNeg] s = some (.int x) := (elem_f (hti _) ei hat hj0).trans hv
  have e1 : (Term.op1 Unary.i2l (Term.elem t (Term.index 0))).eval args s none [j.toNatClampNeg] s = some (.long x.toInt64) := (op1_f ee).trans rfl
  have e2 : (Term.op1 Unary.i2l (Term.index 0)).eval args s none [j.toNatClampNeg] s = some (.long j.toInt64) := (op1_f ei).trans rfl
  have e48 : (Term.op2 Binary.ladd (Term.op1 Unary.i2l (Term.index 0)) (Term.long 48)).eval args s none [j.toNatClampNeg] s = some (.long (j.toInt64 + 48)) := (op2_f e2 (long_at 48)).trans rfl
  have e87 : (Term.op2 Binary.ladd (Term.op1 Unary.i2l (Term.index 0)) (Term.long 87)).eval args s none [j.toNatClampNeg] s = some (.long (j.toInt64 + 87)) := (op2_f e2 (long_at 87)).trans rfl
  have q1 := or_e2 (Cond.le_ints (Term.int_eval 10) ei) (eq_L e1 e48) g1
  have q2 := or_e2 (Cond.lt_ints ei (Term.int_eval 10)) (eq_L e1 e87) g2
  rw [hv]
  have n := nat_of hj0
  have i1 := c_i2l x
  have i2 := c_i2l j
  have i3 := c_ladd j.toInt64 48
  have i4 := c_ladd j.toInt64 87
  have r3 := rng64 (j.toInt64 + 48)
  have r4 := rng64 (j.toInt64 + 87)
  have rx := rng32 x
  have e10 : (10 : Int32).toInt = 10 := rfl
  have f48 : (48 : Int64).toInt = 48 := rfl
  have f87 : (87 : Int64).toInt = 87 := rfl
  have a := c_iadd (48 : Int32) j
  have b := c_isub j (10 : Int32)
  have c := c_iadd (97 : Int32) (j - (10 : Int32))
  have r1 := rng32 ((48 : Int32) + j)
  have r2 := rng32 (j - (10 : Int32))
  have r5 := rng32 ((97 : Int32) + (j - (10 : Int32)))
  have e48' : (48 : Int32).toInt = 48 := rfl
  have e97 : (97 : Int32).toInt = 97 := rfl
  have key : x = own_hexd j := by
    apply Int32.toInt_inj.mp
    unfold own_hexd
    simp only [Int32.le_iff_toInt_le, Int32.lt_iff_toInt_lt, ← Int64.toInt_inj] at q1 q2
    split <;> rename_i q <;> rw [Int32.lt_iff_toInt_lt] at q <;> omega
  rw [key]
theorem d3_0 : decode jdk_42_method_149_code 0 = .ok (.aload_n 0, 1) := by decide +kernel
theorem d3_1 : decode jdk_42_method_149_code 1 = .ok (.invokespecial 1, 3) := by decide +kernel
theorem d3_4 : decode jdk_42_method_149_code 4 = .ok (.iload_n 3, 1) := by decide +kernel
theorem d3_5 : decode jdk_42_method_149_code 5 = .ok (.ifCond .ne 22, 3) := by decide +kernel
theorem d3_8 : decode jdk_42_method_149_code 8 = .ok (.aload_n 0, 1) := by decide +kernel
theorem d3_9 : decode jdk_42_method_149_code 9 = .ok (.ldc 7, 2) := by decide +kernel
theorem d3_11 : decode jdk_42_method_149_code 11 = .ok (.getfield 9, 3) := by decide +kernel
theorem d3_14 : decode jdk_42_method_149_code 14 = .ok (.putfield 9, 3) := by decide +kernel
theorem d3_17 : decode jdk_42_method_149_code 17 = .ok (.aload_n 0, 1) := by decide +kernel
theorem d3_18 : decode jdk_42_method_149_code 18 = .ok (.ldc 7, 2) := by decide +kernel
theorem d3_20 : decode jdk_42_method_149_code 20 = .ok (.getfield 15, 3) := by decide +kernel
theorem d3_23 : decode jdk_42_method_149_code 23 = .ok (.putfield 15, 3) := by decide +kernel
theorem d3_26 : decode jdk_42_method_149_code 26 = .ok (.return_, 1) := by decide +kernel
theorem pn_0 : plainName "java/lang/String" = true := by first | (simp [plainName, overriddenIn]; done) | decide +kernel
theorem ef_rm_e4 (m : MethodId) (x0 : Addr) (x1 : Addr) : entryFrame m #[(.ref x0), (.ref x1), (.int (0 : Int32)), (.int (0 : Int32)), .null] 6 = mkF m 0 #[.val (.ref x0), .val (.ref x1), .val (.int (0 : Int32)), .val (.int (0 : Int32)), .val .null, .unset] [] := by first | (simp [entryFrame, mkF, argsToLocals, Value.category]; done) | rfl
def Q_rm_e4 (Z : State) (x : Addr) (b : Addr) (h0 : Heap) (n0 : Nat) (v : Option Value) (h : Heap) (L : List Loc) : Prop := v = none ∧ Fr n0 L ∧ Keep h0 h [x] ∧ Exa Z h x "java/lang/String" ∧ Fld Z h x "java/lang/String" "coder" "B" (.int 0) ∧ ∃ (t : Addr) (kb : ClassId), Fld Z h x "java/lang/String" "value" "[B" (.ref t) ∧ Arv Z h t kb .byte (0 : Int32) [] (.int 0)
set_option maxRecDepth 65536 in
set_option maxHeartbeats 40000000 in
theorem rm_e4 (l : Launch) (Z : State) (a0 : Array Value) (hw : ∀ d ∈ tables_1, d.before a0 Z = true) (ws : List Jvm.Cond) (x : Addr) (b : Addr) (h0 : Heap) (n0 : Nat) (Z0 : n0 ≤ h0.size) (Ex : Exa Z h0 x "java/lang/String") (Vx : Fld Z h0 x "java/lang/String" "value" "[B" .null) (Cx : Fld Z h0 x "java/lang/String" "coder" "B" (.int (0 : Int32))) (gx : n0 ≤ x) :
    MetFree l (⟨"java/lang/String", "<init>", "([CIILjava/lang/Void;)V"⟩ : MethodName) (head1 (Jvm.Cond.code (⟨"java/lang/String", "<init>", "([CIILjava/lang/Void;)V"⟩ : MethodName) jdk_42_method_149_code 6 none :: ws) ({ frames := 1, cells := 4, slots := 8, locals := 12 } : Room)) (fun aa_ U => aa_ = #[(.ref x), (.ref b), (.int (0 : Int32)), (.int (0 : Int32)), .null] ∧ Z.Warmed39 U.vm ∧ U.heap = h0 ∧ CHv Z consts_1 U.vm h0) (fun _ _ _ _ _ => True) (fun _ U o U' => ∃ v L, o = .returned v ∧ Q_rm_e4 Z x b h0 n0 v U'.heap L ∧ CHr Z consts_1 U.vm U.heap U'.vm U'.heap ∧ ReturnedEndW U o U' L ({ frames := 1, cells := 4, slots := 8, locals := 12 } : Room).cells ({ frames := 1, cells := 4, slots := 8, locals := 12 } : Room).slots) := by
  refine MetFree.of_bodySF (plainFor_of_name pn_0) hisR ?_
  intro p e s m args below meth c s₁ Bd hml0 hP hK
  obtain ⟨rfl, hZ, hh, CH0⟩ := hP
  have hx := Bd.exec
  have hby := Bd.bytes
  have hml : c.maxLocals = 6 := hml0
  have hown : s.vm.findClass "java/lang/String" = some m.cls := findClass_of_methodNamed Bd.named
  have hnm := (name_of_methodNamed Bd.named Bd.method).1
  have X0 : Stand p l e ({ frames := 1, cells := 4, slots := 8, locals := 12 } : Room) (s.setVm s.vm) m #[(.ref x), (.ref b), (.int (0 : Int32)), (.int (0 : Int32)), .null] below meth c s₁ [] 0 0 := Stand.of_body Bd
  have e0 : s₁.heap = h0 := by rw [← hh, Bd.state]; rfl
  have N0 := Fr.nil n0
  have hS0 : s.Since s.vm 0 := own_since s
  have hk0 : 0 ≤ h0.size := Nat.zero_le _
  have CR0 := CHr.refl CH0
  have hEL := own_EW hw
  have wS := own_wS hw
  have hZo := hZ
  refine Ends.cast (P := EndW s ({ frames := 1, cells := 4, slots := 8, locals := 12 } : Room) Z consts_1 (Q_rm_e4 Z x b h0 n0)) (ef_rm_e4 m x b) ?_
  refine Ends.pre (T' := s₁.setTop (mkF m 1 #[.val (.ref x), .val (.ref b), .val (.int (0 : Int32)), .val (.int (0 : Int32)), .val .null, .unset] [(.ref x)])) (fun t k => XS.aloadN X0.here hx rfl (hb hby d3_0) rfl rfl k) ?_
  obtain ⟨T1, X1, e1, st1⟩ := initO X0 hx hZ hown (hw _ (List.mem_of_getElem? (i := 18) rfl)) (hw _ (List.mem_of_getElem? (i := 19) rfl)) (hw _ (List.mem_of_getElem? (i := 20) rfl)) e0 (g := (mkF m 1 #[.val (.ref x), .val (.ref b), .val (.int (0 : Int32)), .val (.int (0 : Int32)), .val .null, .unset] [(.ref x)])) rfl (by rw [hml]; rfl) rfl (hb hby d3_1) (by decide) (W := 0) (by show 2 * 0 + _ ≤ _; exact Nat.le_of_eq rfl) (by decide)
  refine Ends.pre (T' := T1.setTop (mkF m 4 #[.val (.ref x), .val (.ref b), .val (.int (0 : Int32)), .val (.int (0 : Int32)), .val .null, .unset] [])) (fun t k => st1 _ k) ?_
  refine Ends.pre (T' := T1.setTop (mkF m 5 #[.val (.ref x), .val (.ref b), .val (.int (0 : Int32)), .val (.int (0 : Int32)), .val .null, .unset] [(.int (0 : Int32))])) (fun t k => XS.iloadN X1.here hx rfl (hb hby d3_4) rfl k) ?_
  refine Ends.pre (T' := T1.setTop (mkF m 8 #[.val (.ref x), .val (.ref b), .val (.int (0 : Int32)), .val (.int (0 : Int32)), .val .null, .unset] [])) (fun t k => XS.ifNo X1.here hx rfl (hb hby d3_5) rfl (by decide) k) ?_
  refine Ends.pre (T' := T1.setTop (mkF m 9 #[.val (.ref x), .val (.ref b), .val (.int (0 : Int32)), .val (.int (0 : Int32)), .val .null, .unset] [(.ref x)])) (fun t k => XS.aloadN X1.here hx rfl (hb hby d3_8) rfl rfl k) ?_
  obtain ⟨a2, T2, h2, k2, t2, kb2, X2, e2, E2, hS2, hk2, hZ2, hown2, Ea2, Ca2, Va2, Aa2, la2, lb2, CL2, Lt2, Sf2, st2⟩ := ldcCH X1 hx hZ hown (hw _ (List.mem_of_getElem? (i := 75) rfl)) wS e1 hS0 hk0 hEL (by decide) CH0 (vs := []) (z := (0 : Int32)) ⟨by decide, rfl⟩ (by decide) rfl (g := (mkF m 9 #[.val (.ref x), .val (.ref b), .val (.int (0 : Int32)), .val (.int (0 : Int32)), .val .null, .unset] [(.ref x)])) rfl (hb hby d3_9) (n := 0) (by decide) (by decide) (by decide) (by decide)
  have CR2 := CHr.trans CR0 CL2
  have K2 : Keep h0 h2 [x] := (Keep.refl h0 [x]).ext E2
  refine Ends.pre (T' := T2.setTop (mkF m 11 #[.val (.ref x), .val (.ref b), .val (.int (0 : Int32)), .val (.int (0 : Int32)), .val .null, .unset] [(.ref a2), (.ref x)])) (fun t k => st2 _ k) ?_
  obtain ⟨T3, X3, e3, st3⟩ := getF X2 hx hZ2 hown2 (host := "") (Or.inl (hw _ (List.mem_of_getElem? (i := 34) rfl))) Via.refl e2 Va2 (g := (mkF m 11 #[.val (.ref x), .val (.ref b), .val (.int (0 : Int32)), .val (.int (0 : Int32)), .val .null, .unset] [(.ref a2), (.ref x)])) rfl rfl (hb hby d3_11)
  refine Ends.pre (T' := T3.setTop (mkF m 14 #[.val (.ref x), .val (.ref b), .val (.int (0 : Int32)), .val (.int (0 : Int32)), .val .null, .unset] [(.ref t2), (.ref x)])) (fun t k => st3 _ k) ?_
  have F4 : Fld Z h2 x "java/lang/String" "value" "[B" .null := (Vx.ext E2)
  have F5 : Exa Z h2 x "java/lang/String" := (Ex.ext E2)
  obtain ⟨T6, h6, X6, e6, W6, st6⟩ := putF X3 hx hZ2 hown2 (host := "") (Or.inl (hw _ (List.mem_of_getElem? (i := 34) rfl))) Via.refl e3 F4 F5 (Or.inr ⟨(hw _ (List.mem_of_getElem? (i := 35) rfl)), rfl, hnm⟩) (hw _ (List.mem_of_getElem? (i := 9) rfl)) (ty := (.array .byte)) (by decide) rfl rfl (g := (mkF m 14 #[.val (.ref x), .val (.ref b), .val (.int (0 : Int32)), .val (.int (0 : Int32)), .val .null, .unset] [(.ref t2), (.ref x)])) rfl rfl (hb hby d3_14)
  have CR6 := CHr.trans CR2 (CHr.wr W6 (CHr.safe CL2 Ex.lt (Safe_null hZo.alike Ex Vx)) CR2.1)
  have Fw6 : Fld Z h6 x "java/lang/String" "value" "[B" (.ref t2) := F4.same W6
  have N6 := Fr.snoc X6 N0 gx
  refine Ends.pre (T' := T6.setTop (mkF m 17 #[.val (.ref x), .val (.ref b), .val (.int (0 : Int32)), .val (.int (0 : Int32)), .val .null, .unset] [])) (fun t k => st6 _ k) ?_
  have K6 : Keep h0 h6 [x] := K2.wr W6 (Or.inl (List.mem_of_getElem? (i := 0) rfl))
  refine Ends.pre (T' := T6.setTop (mkF m 18 #[.val (.ref x), .val (.ref b), .val (.int (0 : Int32)), .val (.int (0 : Int32)), .val .null, .unset] [(.ref x)])) (fun t k => XS.aloadN X6.here hx rfl (hb hby d3_17) rfl rfl k) ?_
  obtain ⟨a7, T7, h7, k7, t7, kb7, X7, e7, E7, hS7, hk7, hZ7, hown7, Ea7, Ca7, Va7, Aa7, la7, lb7, CL7, Lt7, Sf7, st7⟩ := ldcCH X6 hx hZ2 hown2 (hw _ (List.mem_of_getElem? (i := 75) rfl)) wS e6 hS2 (Nat.le_trans hk2 (Keep.of_wr W6).1) hEL (by decide) CR6.1 (vs := []) (z := (0 : Int32)) ⟨by decide, rfl⟩ (by decide) rfl (g := (mkF m 18 #[.val (.ref x), .val (.ref b), .val (.int (0 : Int32)), .val (.int (0 : Int32)), .val .null, .unset] [(.ref x)])) rfl (hb hby d3_18) (n := 0) (by decide) (by decide) (by decide) (by decide)
  have CR7 := CHr.trans CR6 CL7
  have K7 : Keep h0 h7 [x] := K6.ext E7
  refine Ends.pre (T' := T7.setTop (mkF m 20 #[.val (.ref x), .val (.ref b), .val (.int (0 : Int32)), .val (.int (0 : Int32)), .val .null, .unset] [(.ref a7), (.ref x)])) (fun t k => st7 _ k) ?_
  obtain ⟨T8, X8, e8, st8⟩ := getF X7 hx hZ7 hown7 (host := "") (Or.inl (hw _ (List.mem_of_getElem? (i := 32) rfl))) Via.refl e7 Ca7 (g := (mkF m 20 #[.val (.ref x), .val (.ref b), .val (.int (0 : Int32)), .val (.int (0 : Int32)), .val .null, .unset] [(.ref a7), (.ref x)])) rfl rfl (hb hby d3_20)
  refine Ends.pre (T' := T8.setTop (mkF m 23 #[.val (.ref x), .val (.ref b), .val (.int (0 : Int32)), .val (.int (0 : Int32)), .val .null, .unset] [(.int (0 : Int32)), (.ref x)])) (fun t k => st8 _ k) ?_
  have F9 : Fld Z h7 x "java/lang/String" "coder" "B" (.int (0 : Int32)) := (((Cx.ext E2).other W6 (Or.inr (slot_ne (Or.inr (hw _ (List.mem_of_getElem? (i := 33) rfl))) (Or.inr (hw _ (List.mem_of_getElem? (i := 35) rfl))) (by decide) (t := .byte) (t' := (.array .byte)) (by decide) (by decide)))).ext E7)
  have F10 : Exa Z h7 x "java/lang/String" := ((F5.wr W6).ext E7)
  obtain ⟨T11, h11, X11, e11, W11, st11⟩ := putF X8 hx hZ7 hown7 (host := "") (Or.inl (hw _ (List.mem_of_getElem? (i := 32) rfl))) Via.refl e8 F9 F10 (Or.inr ⟨(hw _ (List.mem_of_getElem? (i := 33) rfl)), rfl, hnm⟩) (hw _ (List.mem_of_getElem? (i := 9) rfl)) (ty := .byte) (by decide) (by decide) (by decide) (g := (mkF m 23 #[.val (.ref x), .val (.ref b), .val (.int (0 : Int32)), .val (.int (0 : Int32)), .val .null, .unset] [(.int (0 : Int32)), (.ref x)])) rfl rfl (hb hby d3_23)
  have CR11 := CHr.trans CR7 (CHr.wr W11 (CHr.safe CL7 (Nat.lt_of_lt_of_le (Nat.lt_of_lt_of_le Ex.lt E2.1) (Keep.of_wr W6).1) (Safe.wr W6 (CHr.safe CL2 Ex.lt (Safe_null hZo.alike Ex Vx)) CR2.1 (CHr.safe CL2 Ex.lt (Safe_null hZo.alike Ex Vx)))) CR7.1)
  have Fw11 : Fld Z h11 x "java/lang/String" "coder" "B" (.int (0 : Int32)) := F9.same W11
  have N11 := Fr.snoc X11 N6 gx
  refine Ends.pre (T' := T11.setTop (mkF m 26 #[.val (.ref x), .val (.ref b), .val (.int (0 : Int32)), .val (.int (0 : Int32)), .val .null, .unset] [])) (fun t k => st11 _ k) ?_
  have K11 : Keep h0 h11 [x] := K7.wr W11 (Or.inl (List.mem_of_getElem? (i := 0) rfl))
  have F12 : Exa Z h11 x "java/lang/String" := (F10.wr W11)
  have F13 : Fld Z h11 x "java/lang/String" "value" "[B" (.ref t2) := ((Fw6.ext E7).other W11 (Or.inr (slot_ne (Or.inr (hw _ (List.mem_of_getElem? (i := 35) rfl))) (Or.inr (hw _ (List.mem_of_getElem? (i := 33) rfl))) (by decide) (t := (.array .byte)) (t' := .byte) (by decide) (by decide))))
  have F14 : Arv Z h11 t2 kb2 .byte (0 : Int32) [] (.int 0) := ((Arv.ext (Aa2.other W6 (Ne.symm (Exa.neArv F5 Aa2 (hw _ (List.mem_of_getElem? (i := 9) rfl))))) E7).other W11 (Ne.symm (Exa.neArv F10 (Arv.ext (Aa2.other W6 (Ne.symm (Exa.neArv F5 Aa2 (hw _ (List.mem_of_getElem? (i := 9) rfl))))) E7) (hw _ (List.mem_of_getElem? (i := 9) rfl)))))
  exact Ends.ret0W X11 hx Bd.notSynchronized Bd.returns (hb hby d3_26) e11 hZ7 hEL hS7 (Nat.le_trans hk7 (Keep.of_wr W11).1) hh CR11 ⟨rfl, N11, K11, F12, Fw11, t2, _, F13, F14⟩ (by decide) (by decide)
theorem d2_0 : decode jdk_42_method_3_code 0 = .ok (.aload_n 0, 1) := by decide +kernel
theorem d2_1 : decode jdk_42_method_3_code 1 = .ok (.aload_n 1, 1) := by decide +kernel
theorem d2_2 : decode jdk_42_method_3_code 2 = .ok (.iconst 0, 1) := by decide +kernel
theorem d2_3 : decode jdk_42_method_3_code 3 = .ok (.aload_n 1, 1) := by decide +kernel
theorem d2_4 : decode jdk_42_method_3_code 4 = .ok (.arraylength, 1) := by decide +kernel
theorem d2_5 : decode jdk_42_method_3_code 5 = .ok (.aconst_null, 1) := by decide +kernel
theorem d2_6 : decode jdk_42_method_3_code 6 = .ok (.invokespecial 27, 3) := by decide +kernel
theorem pd_0 : parseMethodDescriptor "([CIILjava/lang/Void;)V" = some ⟨[(.array .char), .int, .int, (.object "java/lang/Void")], none⟩ := by decide +kernel
theorem d2_9 : decode jdk_42_method_3_code 9 = .ok (.return_, 1) := by decide +kernel
theorem ef_rm_e1 (m : MethodId) (x0 : Addr) (x1 : Addr) : entryFrame m #[(.ref x0), (.ref x1)] 2 = mkF m 0 #[.val (.ref x0), .val (.ref x1)] [] := by first | (simp [entryFrame, mkF, argsToLocals, Value.category]; done) | rfl
def Q_rm_e1 (Z : State) (x : Addr) (b : Addr) (kC : ClassId) (h0 : Heap) (n0 : Nat) (v : Option Value) (h : Heap) (L : List Loc) : Prop := v = none ∧ Fr n0 L ∧ Keep h0 h [x] ∧ Exa Z h x "java/lang/String" ∧ Fld Z h x "java/lang/String" "coder" "B" (.int 0) ∧ ∃ (t : Addr) (kb : ClassId), Fld Z h x "java/lang/String" "value" "[B" (.ref t) ∧ Arv Z h t kb .byte (0 : Int32) [] (.int 0)
set_option maxRecDepth 65536 in
set_option maxHeartbeats 40000000 in
theorem rm_e1 (l : Launch) (Z : State) (a0 : Array Value) (hw : ∀ d ∈ tables_1, d.before a0 Z = true) (ws : List Jvm.Cond) (x : Addr) (b : Addr) (kC : ClassId) (h0 : Heap) (n0 : Nat) (Z0 : n0 ≤ h0.size) (Ex : Exa Z h0 x "java/lang/String") (Vx : Fld Z h0 x "java/lang/String" "value" "[B" .null) (Cx : Fld Z h0 x "java/lang/String" "coder" "B" (.int (0 : Int32))) (gx : n0 ≤ x) (Vb : Arv Z h0 b kC .char (0 : Int32) [] (.int (0 : Int32))) :
    MetFree l (⟨"java/lang/String", "<init>", "([C)V"⟩ : MethodName) (head1 (Jvm.Cond.code (⟨"java/lang/String", "<init>", "([C)V"⟩ : MethodName) jdk_42_method_3_code 2 none :: ws) ({ frames := 2, cells := 4, slots := 8, locals := 29 } : Room)) (fun aa_ U => aa_ = #[(.ref x), (.ref b)] ∧ Z.Warmed39 U.vm ∧ U.heap = h0 ∧ CHv Z consts_1 U.vm h0) (fun _ _ _ _ _ => True) (fun _ U o U' => ∃ v L, o = .returned v ∧ Q_rm_e1 Z x b kC h0 n0 v U'.heap L ∧ CHr Z consts_1 U.vm U.heap U'.vm U'.heap ∧ ReturnedEndW U o U' L ({ frames := 2, cells := 4, slots := 8, locals := 29 } : Room).cells ({ frames := 2, cells := 4, slots := 8, locals := 29 } : Room).slots) := by
  refine MetFree.of_bodySF (plainFor_of_name pn_0) hisR ?_
  intro p e s m args below meth c s₁ Bd hml0 hP hK
  obtain ⟨rfl, hZ, hh, CH0⟩ := hP
  have hx := Bd.exec
  have hby := Bd.bytes
  have hml : c.maxLocals = 2 := hml0
  have hown : s.vm.findClass "java/lang/String" = some m.cls := findClass_of_methodNamed Bd.named
  have hnm := (name_of_methodNamed Bd.named Bd.method).1
  have X0 : Stand p l e ({ frames := 2, cells := 4, slots := 8, locals := 29 } : Room) (s.setVm s.vm) m #[(.ref x), (.ref b)] below meth c s₁ [] 0 0 := Stand.of_body Bd
  have e0 : s₁.heap = h0 := by rw [← hh, Bd.state]; rfl
  have N0 := Fr.nil n0
  have hS0 : s.Since s.vm 0 := own_since s
  have hk0 : 0 ≤ h0.size := Nat.zero_le _
  have CR0 := CHr.refl CH0
  have hEL := own_EW hw
  have wS := own_wS hw
  have hZo := hZ
  refine Ends.cast (P := EndW s ({ frames := 2, cells := 4, slots := 8, locals := 29 } : Room) Z consts_1 (Q_rm_e1 Z x b kC h0 n0)) (ef_rm_e1 m x b) ?_
  refine Ends.pre (T' := s₁.setTop (mkF m 1 #[.val (.ref x), .val (.ref b)] [(.ref x)])) (fun t k => XS.aloadN X0.here hx rfl (hb hby d2_0) rfl rfl k) ?_
  refine Ends.pre (T' := s₁.setTop (mkF m 2 #[.val (.ref x), .val (.ref b)] [(.ref b), (.ref x)])) (fun t k => XS.aloadN X0.here hx rfl (hb hby d2_1) rfl rfl k) ?_
  refine Ends.pre (T' := s₁.setTop (mkF m 3 #[.val (.ref x), .val (.ref b)] [(.int (0 : Int32)), (.ref b), (.ref x)])) (fun t k => XS.iconst X0.here hx rfl (hb hby d2_2) k) ?_
  refine Ends.pre (T' := s₁.setTop (mkF m 4 #[.val (.ref x), .val (.ref b)] [(.ref b), (.int (0 : Int32)), (.ref b), (.ref x)])) (fun t k => XS.aloadN X0.here hx rfl (hb hby d2_3) rfl rfl k) ?_
  obtain ⟨cl1, Ar1, q1, S1, N1', H1, G1⟩ := id Vb
  refine Ends.pre (T' := s₁.setTop (mkF m 5 #[.val (.ref x), .val (.ref b)] [(.int (0 : Int32)), (.int (0 : Int32)), (.ref b), (.ref x)])) (fun t k => X0.arraylength hx (by rw [e0]; exact Ar1.1) (State.isArrayOf_alike hZ.alike Ar1.2.1) (g := (mkF m 4 #[.val (.ref x), .val (.ref b)] [(.ref b), (.int (0 : Int32)), (.ref b), (.ref x)])) rfl rfl (hb hby d2_4) _ (by rw [len_of S1 N1']; exact k)) ?_
  refine Ends.pre (T' := s₁.setTop (mkF m 6 #[.val (.ref x), .val (.ref b)] [.null, (.int (0 : Int32)), (.int (0 : Int32)), (.ref b), (.ref x)])) (fun t k => XS.aconstNull X0.here hx rfl (hb hby d2_5) k) ?_
  obtain ⟨_, _, ⟨T2, L2, k2, n2⟩, -, Xa2, hSa2, ga2, ⟨Lc2, hQ2, l2, y2, z2, CRc2⟩, st2⟩ := X0.specialBackS hx (y := (⟨"java/lang/String", "<init>", "([CIILjava/lang/Void;)V"⟩ : MethodName)) rfl hown (mvT hZ (hw _ (List.mem_of_getElem? (i := 14) rfl))) (mvT hZ (hw _ (List.mem_of_getElem? (i := 15) rfl))) (mvT hZ (hw _ (List.mem_of_getElem? (i := 17) rfl))) (by decide) (backOfSH (W := 0) (rm_e4 l Z a0 hw [] x b h0 n0 Z0 Ex Vx Cx gx) hZ (hw _ (List.mem_of_getElem? (i := 17) rfl)) (hw _ (List.mem_of_getElem? (i := 10) rfl)) (by decide) (by decide) hEL CH0) (g := (mkF m 6 #[.val (.ref x), .val (.ref b)] [.null, (.int (0 : Int32)), (.int (0 : Int32)), (.ref b), (.ref x)])) rfl (by rw [hml]; rfl) (Steps.refl _) (a := x) (argsL := [(.ref b), (.int (0 : Int32)), (.int (0 : Int32)), .null]) (rest := []) (lenOf pd_0 rfl) rfl (by show 2 * 0 + _ ≤ _; exact Nat.le_of_eq rfl) (hb hby d2_6) (fun _ _ => ⟨rfl, e0, (by decide : 0 + 4 ≤ _), (by decide : 0 + 8 ≤ _)⟩)
  dsimp only [Pt.U, Pt.locs, Pt.cells, Pt.slots] at Xa2 hSa2 ga2 l2 y2 z2 st2 hQ2 CRc2
  subst l2 y2 z2
  obtain ⟨X2, hS2, hZ2, hown2⟩ := rebS hS0 (n1 := s₁.heap.size) (by rw [e0]; exact hk0) Xa2 hSa2 ga2 hZ hown
  obtain ⟨rfl, N2q, Kc2, Es2, Cs2, t2, kb2, Vs2, As2⟩ := hQ2
  have N2 := Fr.app N0 N2q
  have K2 : Keep h0 T2.heap [x] := (Keep.refl h0 [x]).trans Kc2 (allS (Or.inl (List.mem_of_getElem? (i := 0) rfl)) all0)
  have CR2 := CHr.trans CR0 CRc2
  refine Ends.pre (T' := T2.setTop (mkF m 9 #[.val (.ref x), .val (.ref b)] [])) (fun t k => st2.trans k) ?_
  exact Ends.ret0W X2 hx Bd.notSynchronized Bd.returns (hb hby d2_9) rfl hZ2 hEL hS2 (Nat.le_refl _) hh CR2 ⟨rfl, N2, K2, Es2, Cs2, t2, kb2, Vs2, As2⟩ (by decide) (by decide)
theorem d16_0 : decode method_4_code 0 = .ok (.iload_n 0, 1) := by decide +kernel
theorem d16_1 : decode method_4_code 1 = .ok (.bipush 10, 2) := by decide +kernel
theorem d16_3 : decode method_4_code 3 = .ok (.if_icmp .ge 9, 3) := by decide +kernel
theorem d16_6 : decode method_4_code 6 = .ok (.bipush 48, 2) := by decide +kernel
theorem d16_8 : decode method_4_code 8 = .ok (.iload_n 0, 1) := by decide +kernel
theorem d16_9 : decode method_4_code 9 = .ok (.iadd, 1) := by decide +kernel
theorem d16_10 : decode method_4_code 10 = .ok (.i2c, 1) := by decide +kernel
theorem d16_11 : decode method_4_code 11 = .ok (.ireturn, 1) := by decide +kernel
theorem d16_12 : decode method_4_code 12 = .ok (.bipush 97, 2) := by decide +kernel
theorem d16_14 : decode method_4_code 14 = .ok (.iload_n 0, 1) := by decide +kernel
theorem d16_15 : decode method_4_code 15 = .ok (.bipush 10, 2) := by decide +kernel
theorem d16_17 : decode method_4_code 17 = .ok (.isub, 1) := by decide +kernel
theorem d16_18 : decode method_4_code 18 = .ok (.iadd, 1) := by decide +kernel
theorem d16_19 : decode method_4_code 19 = .ok (.i2c, 1) := by decide +kernel
theorem d16_20 : decode method_4_code 20 = .ok (.ireturn, 1) := by decide +kernel
theorem pn_1 : plainName "com/example/wireform/wireform/HexFormatPinLaw" = true := by first | (simp [plainName, overriddenIn]; done) | decide +kernel
theorem ef_rm16 (m : MethodId) (x0 : Int32) : entryFrame m #[(.int x0)] 1 = mkF m 0 #[.val (.int x0)] [] := by first | (simp [entryFrame, mkF, argsToLocals, Value.category]; done) | rfl
def Q_rm16 (Z : State) (d : Int32) (h0 : Heap) (n0 : Nat) (v : Option Value) (h : Heap) (L : List Loc) : Prop := v = some (.int (own_hexd d)) ∧ Fr n0 L ∧ h = h0
set_option maxRecDepth 65536 in
set_option maxHeartbeats 40000000 in
theorem rm16 (l : Launch) (Z : State) (a0 : Array Value) (hw : ∀ d ∈ tables_1, d.before a0 Z = true) (ws : List Jvm.Cond) (d : Int32) (h0 : Heap) (n0 : Nat) (Z0 : n0 ≤ h0.size) (hd : ¬ d < 0 ∧ ¬ (15 : Int32) < d) :
    MetFree l (⟨"com/example/wireform/wireform/HexFormatPinLaw", "digit", "(I)C"⟩ : MethodName) (head1 (Jvm.Cond.code (⟨"com/example/wireform/wireform/HexFormatPinLaw", "digit", "(I)C"⟩ : MethodName) method_4_code 1 (some .char) :: ws) ({ frames := 0, cells := 0, slots := 0, locals := 0 } : Room)) (fun aa_ U => aa_ = #[(.int d)] ∧ Z.Warmed39 U.vm ∧ U.heap = h0) (fun _ _ _ _ _ => True) (fun _ U o U' => ∃ v L, o = .returned v ∧ Q_rm16 Z d h0 n0 v U'.heap L ∧ FrameEnd U o U' L ({ frames := 0, cells := 0, slots := 0, locals := 0 } : Room).cells ({ frames := 0, cells := 0, slots := 0, locals := 0 } : Room).slots) := by
  refine MetFree.of_bodySF (plainFor_of_name pn_1) hisR ?_
  intro p e s m args below meth c s₁ Bd hml0 hP hK
  obtain ⟨rfl, hZ, hh⟩ := hP
  have hx := Bd.exec
  have hby := Bd.bytes
  have hml : c.maxLocals = 1 := hml0
  have hown : s.vm.findClass "com/example/wireform/wireform/HexFormatPinLaw" = some m.cls := findClass_of_methodNamed Bd.named
  have hnm := (name_of_methodNamed Bd.named Bd.method).1
  have X0 : Stand p l e ({ frames := 0, cells := 0, slots := 0, locals := 0 } : Room) s m #[(.int d)] below meth c s₁ [] 0 0 := Stand.of_body Bd
  have e0 : s₁.heap = h0 := by rw [← hh, Bd.state]; rfl
  have N0 := Fr.nil n0
  refine Ends.cast (P := EndN s ({ frames := 0, cells := 0, slots := 0, locals := 0 } : Room) (Q_rm16 Z d h0 n0)) (ef_rm16 m d) ?_
  refine Ends.pre (T' := s₁.setTop (mkF m 1 #[.val (.int d)] [(.int d)])) (fun t k => XS.iloadN X0.here hx rfl (hb hby d16_0) rfl k) ?_
  refine Ends.pre (T' := s₁.setTop (mkF m 3 #[.val (.int d)] [(.int (10 : Int32)), (.int d)])) (fun t k => XS.bipush X0.here hx rfl (hb hby d16_1) k) ?_
  by_cases hc3_1 : d < (10 : Int32)
  · refine Ends.pre (T' := s₁.setTop (mkF m 6 #[.val (.int d)] [])) (fun t k => XS.icmpNo X0.here hx rfl (hb hby d16_3) rfl (Jvm.Free.XT.ii_ge_f hc3_1) k) ?_
    refine Ends.pre (T' := s₁.setTop (mkF m 8 #[.val (.int d)] [(.int (48 : Int32))])) (fun t k => XS.bipush X0.here hx rfl (hb hby d16_6) k) ?_
    refine Ends.pre (T' := s₁.setTop (mkF m 9 #[.val (.int d)] [(.int d), (.int (48 : Int32))])) (fun t k => XS.iloadN X0.here hx rfl (hb hby d16_8) rfl k) ?_
    refine Ends.pre (T' := s₁.setTop (mkF m 10 #[.val (.int d)] [(.int ((48 : Int32) + d))])) (fun t k => XS.iadd X0.here hx rfl (hb hby d16_9) rfl k) ?_
    refine Ends.pre (T' := s₁.setTop (mkF m 11 #[.val (.int d)] [(.int (((48 : Int32) + d).toUInt32.toUInt16.toUInt32.toInt32))])) (fun t k => XS.i2c X0.here hx rfl (hb hby d16_10) rfl k) ?_
    have hr : (((48 : Int32) + d).toUInt32.toUInt16.toUInt32.toInt32) = own_hexd d := by
      have q := own_hexr hd
      unfold own_hexd at q ⊢
      rw [if_pos hc3_1] at q ⊢
      exact own_i2c q
    exact Ends.ret (w := (.int (((48 : Int32) + d).toUInt32.toUInt16.toUInt32.toInt32))) X0 hx Bd.notSynchronized Bd.returns (Jvm.Free.XT.narrow_c _) (Or.inl ⟨rfl, Or.inr (Or.inr (Or.inr (Or.inl rfl))), _, rfl⟩) (hb hby d16_11) e0 ⟨by rw [hr], N0, rfl⟩ (by decide) (by decide)
  · refine Ends.pre (T' := s₁.setTop (mkF m 12 #[.val (.int d)] [])) (fun t k => XS.icmpYes X0.here hx rfl (pc0 := 3) (pc' := 12) rfl (hb hby d16_3) rfl (Jvm.Free.XT.ii_ge_t hc3_1) (by decide) (by decide) k) ?_
    refine Ends.pre (T' := s₁.setTop (mkF m 14 #[.val (.int d)] [(.int (97 : Int32))])) (fun t k => XS.bipush X0.here hx rfl (hb hby d16_12) k) ?_
    refine Ends.pre (T' := s₁.setTop (mkF m 15 #[.val (.int d)] [(.int d), (.int (97 : Int32))])) (fun t k => XS.iloadN X0.here hx rfl (hb hby d16_14) rfl k) ?_
    refine Ends.pre (T' := s₁.setTop (mkF m 17 #[.val (.int d)] [(.int (10 : Int32)), (.int d), (.int (97 : Int32))])) (fun t k => XS.bipush X0.here hx rfl (hb hby d16_15) k) ?_
    refine Ends.pre (T' := s₁.setTop (mkF m 18 #[.val (.int d)] [(.int (d - (10 : Int32))), (.int (97 : Int32))])) (fun t k => XS.isub X0.here hx rfl (hb hby d16_17) rfl k) ?_
    refine Ends.pre (T' := s₁.setTop (mkF m 19 #[.val (.int d)] [(.int ((97 : Int32) + (d - (10 : Int32))))])) (fun t k => XS.iadd X0.here hx rfl (hb hby d16_18) rfl k) ?_
    refine Ends.pre (T' := s₁.setTop (mkF m 20 #[.val (.int d)] [(.int (((97 : Int32) + (d - (10 : Int32))).toUInt32.toUInt16.toUInt32.toInt32))])) (fun t k => XS.i2c X0.here hx rfl (hb hby d16_19) rfl k) ?_
    have hr : (((97 : Int32) + (d - (10 : Int32))).toUInt32.toUInt16.toUInt32.toInt32) = own_hexd d := by
      have q := own_hexr hd
      unfold own_hexd at q ⊢
      rw [if_neg hc3_1] at q ⊢
      exact own_i2c q
    exact Ends.ret (w := (.int (((97 : Int32) + (d - (10 : Int32))).toUInt32.toUInt16.toUInt32.toInt32))) X0 hx Bd.notSynchronized Bd.returns (Jvm.Free.XT.narrow_c _) (Or.inl ⟨rfl, Or.inr (Or.inr (Or.inr (Or.inl rfl))), _, rfl⟩) (hb hby d16_20) e0 ⟨by rw [hr], N0, rfl⟩ (by decide) (by decide)
theorem d10_0 : decode method_3_code 0 = .ok (.iload_n 2, 1) := by decide +kernel
theorem d10_1 : decode method_3_code 1 = .ok (.sipush 255, 3) := by decide +kernel
theorem d10_4 : decode method_3_code 4 = .ok (.iand, 1) := by decide +kernel
theorem d10_5 : decode method_3_code 5 = .ok (.istore_n 3, 1) := by decide +kernel
theorem d10_6 : decode method_3_code 6 = .ok (.aload_n 0, 1) := by decide +kernel
theorem d10_7 : decode method_3_code 7 = .ok (.iload_n 1, 1) := by decide +kernel
theorem d10_8 : decode method_3_code 8 = .ok (.invokevirtual 25, 3) := by decide +kernel
theorem pd_1 : parseMethodDescriptor "(I)C" = some ⟨[.int], some .char⟩ := by decide +kernel
theorem d10_11 : decode method_3_code 11 = .ok (.iload_n 3, 1) := by decide +kernel
theorem d10_12 : decode method_3_code 12 = .ok (.bipush 16, 2) := by decide +kernel
theorem d10_14 : decode method_3_code 14 = .ok (.idiv, 1) := by decide +kernel
theorem d10_15 : decode method_3_code 15 = .ok (.invokestatic 29, 3) := by decide +kernel
theorem d10_18 : decode method_3_code 18 = .ok (.if_icmp .ne 24, 3) := by decide +kernel
theorem d10_21 : decode method_3_code 21 = .ok (.aload_n 0, 1) := by decide +kernel
theorem d10_22 : decode method_3_code 22 = .ok (.iload_n 1, 1) := by decide +kernel
theorem d10_23 : decode method_3_code 23 = .ok (.iconst 1, 1) := by decide +kernel
theorem d10_24 : decode method_3_code 24 = .ok (.iadd, 1) := by decide +kernel
theorem d10_25 : decode method_3_code 25 = .ok (.invokevirtual 25, 3) := by decide +kernel
theorem d10_28 : decode method_3_code 28 = .ok (.iload_n 3, 1) := by decide +kernel
theorem d10_29 : decode method_3_code 29 = .ok (.bipush 16, 2) := by decide +kernel
theorem d10_31 : decode method_3_code 31 = .ok (.irem, 1) := by decide +kernel
theorem d10_32 : decode method_3_code 32 = .ok (.invokestatic 29, 3) := by decide +kernel
theorem d10_35 : decode method_3_code 35 = .ok (.if_icmp .ne 7, 3) := by decide +kernel
theorem d10_38 : decode method_3_code 38 = .ok (.iconst 1, 1) := by decide +kernel
theorem d10_39 : decode method_3_code 39 = .ok (.goto 4, 3) := by decide +kernel
theorem d10_43 : decode method_3_code 43 = .ok (.ireturn, 1) := by decide +kernel
theorem ef_rm10_0 (m : MethodId) (x0 : Addr) (x2 : Int32) : entryFrame m #[(.ref x0), (.int (0 : Int32)), (.int x2)] 4 = mkF m 0 #[.val (.ref x0), .val (.int (0 : Int32)), .val (.int x2), .unset] [] := by first | (simp [entryFrame, mkF, argsToLocals, Value.category]; done) | rfl
def Q_rm10_0 (Z : State) (a : Addr) (ta : Addr) (ka : ClassId) (cs_a : List Int32) (n_a : Int32) (vs_a : List Value) (y : Int32) (cz : Int32) (fm : Value) (h0 : Heap) (n0 : Nat) (v : Option Value) (h : Heap) (L : List Loc) : Prop := v = some (.int 1) ∧ Fr n0 L ∧ h = h0
set_option maxRecDepth 65536 in
set_option maxHeartbeats 40000000 in
theorem rm10_0 (l : Launch) (Z : State) (a0 : Array Value) (hw : ∀ d ∈ tables_1, d.before a0 Z = true) (ws : List Jvm.Cond) (a : Addr) (ta : Addr) (ka : ClassId) (cs_a : List Int32) (n_a : Int32) (vs_a : List Value) (y : Int32) (cz : Int32) (fm : Value) (h0 : Heap) (n0 : Nat) (Z0 : n0 ≤ h0.size) (Ea : Exa Z h0 a "java/lang/String") (Ca : Fld Z h0 a "java/lang/String" "coder" "B" (.int 0)) (Va : Fld Z h0 a "java/lang/String" "value" "[B" (.ref ta)) (Aa : Arv Z h0 ta ka .byte n_a vs_a (.int 0)) (hcd_a : StrChars.Road.CodA cs_a 0 n_a vs_a) (hbd_a : ∀ c ∈ cs_a, ¬ c < 0 ∧ ¬ (65535 : Int32) < c) (hl_a : cs_a.length ≤ 4000) (h0i : 0 < cs_a.length) (h1i : 1 < cs_a.length) (g0 : cs_a.getD 0 0 = (own_hexd ((y >>> ((4 : Int32) &&& 31)) &&& (15 : Int32)))) (g1 : cs_a.getD 1 0 = (own_hexd (y &&& (15 : Int32)))) (SCS : Sta Z h0 "java/lang/String" "COMPACT_STRINGS" "Z" (.int cz)) (hcz : ¬ cz = 0) (SFM : Sta Z h0 "jdk/internal/util/Preconditions" "SIOOBE_FORMATTER" "Ljava/util/function/BiFunction;" fm) (hfm : fm.isRef = true) :
    MetFree l (⟨"com/example/wireform/wireform/HexFormatPinLaw", "pair", "(Ljava/lang/String;IB)Z"⟩ : MethodName) (head1 (Jvm.Cond.code (⟨"com/example/wireform/wireform/HexFormatPinLaw", "pair", "(Ljava/lang/String;IB)Z"⟩ : MethodName) method_3_code 4 (some .boolean) :: ws) ({ frames := 4, cells := 0, slots := 0, locals := 53 } : Room)) (fun aa_ U => aa_ = #[(.ref a), (.int (0 : Int32)), (.int y)] ∧ Z.Warmed39 U.vm ∧ U.heap = h0) (fun _ _ _ _ _ => True) (fun _ U o U' => ∃ v L, o = .returned v ∧ Q_rm10_0 Z a ta ka cs_a n_a vs_a y cz fm h0 n0 v U'.heap L ∧ FrameEnd U o U' L ({ frames := 4, cells := 0, slots := 0, locals := 53 } : Room).cells ({ frames := 4, cells := 0, slots := 0, locals := 53 } : Room).slots) := by
  refine MetFree.of_bodySF (plainFor_of_name pn_1) hisR ?_
  intro p e s m args below meth c s₁ Bd hml0 hP hK
  obtain ⟨rfl, hZ, hh⟩ := hP
  have hx := Bd.exec
  have hby := Bd.bytes
  have hml : c.maxLocals = 4 := hml0
  have hown : s.vm.findClass "com/example/wireform/wireform/HexFormatPinLaw" = some m.cls := findClass_of_methodNamed Bd.named
  have hnm := (name_of_methodNamed Bd.named Bd.method).1
  have X0 : Stand p l e ({ frames := 4, cells := 0, slots := 0, locals := 53 } : Room) s m #[(.ref a), (.int (0 : Int32)), (.int y)] below meth c s₁ [] 0 0 := Stand.of_body Bd
  have e0 : s₁.heap = h0 := by rw [← hh, Bd.state]; rfl
  have N0 := Fr.nil n0
  refine Ends.cast (P := EndN s ({ frames := 4, cells := 0, slots := 0, locals := 53 } : Room) (Q_rm10_0 Z a ta ka cs_a n_a vs_a y cz fm h0 n0)) (ef_rm10_0 m a y) ?_
  refine Ends.pre (T' := s₁.setTop (mkF m 1 #[.val (.ref a), .val (.int (0 : Int32)), .val (.int y), .unset] [(.int y)])) (fun t k => XS.iloadN X0.here hx rfl (hb hby d10_0) rfl k) ?_
  refine Ends.pre (T' := s₁.setTop (mkF m 4 #[.val (.ref a), .val (.int (0 : Int32)), .val (.int y), .unset] [(.int (255 : Int32)), (.int y)])) (fun t k => XS.sipush X0.here hx rfl (hb hby d10_1) k) ?_
  refine Ends.pre (T' := s₁.setTop (mkF m 5 #[.val (.ref a), .val (.int (0 : Int32)), .val (.int y), .unset] [(.int (y &&& (255 : Int32)))])) (fun t k => XS.iand X0.here hx rfl (hb hby d10_4) rfl k) ?_
  refine Ends.pre (T' := s₁.setTop (mkF m 6 #[.val (.ref a), .val (.int (0 : Int32)), .val (.int y), .val (.int (y &&& (255 : Int32)))] [])) (fun t k => XS.istoreN (g := (mkF m 5 #[.val (.ref a), .val (.int (0 : Int32)), .val (.int y), .unset] [(.int (y &&& (255 : Int32)))])) X0.here hx rfl (hb hby d10_5) rfl (l' := #[.val (.ref a), .val (.int (0 : Int32)), .val (.int y), .val (.int (y &&& (255 : Int32)))]) rfl k) ?_
  refine Ends.pre (T' := s₁.setTop (mkF m 7 #[.val (.ref a), .val (.int (0 : Int32)), .val (.int y), .val (.int (y &&& (255 : Int32)))] [(.ref a)])) (fun t k => XS.aloadN X0.here hx rfl (hb hby d10_6) rfl rfl k) ?_
  refine Ends.pre (T' := s₁.setTop (mkF m 8 #[.val (.ref a), .val (.int (0 : Int32)), .val (.int y), .val (.int (y &&& (255 : Int32)))] [(.int (0 : Int32)), (.ref a)])) (fun t k => XS.iloadN X0.here hx rfl (hb hby d10_7) rfl k) ?_
  obtain ⟨cq1, kq1, q1a, q1b, q1c⟩ := isOf hZ e0 Ea
  obtain ⟨_, _, ⟨T1, L1, k1, n1⟩, -, X1, ⟨Lc1, hQ1, l1, y1, z1⟩, st1⟩ := X0.virtualBack hx (y := (⟨"java/lang/String", "charAt", "(I)C"⟩ : MethodName)) (z := (⟨"java/lang/String", "charAt", "(I)C"⟩ : MethodName)) hown (mvT hZ (hw _ (List.mem_of_getElem? (i := 50) rfl))) (mvT hZ (hw _ (List.mem_of_getElem? (i := 51) rfl))) (notFace_of_selects (args := #[]) (mvT hZ (hw _ (List.mem_of_getElem? (i := 53) rfl)))) (mvT hZ (hw _ (List.mem_of_getElem? (i := 53) rfl))) (mvT hZ (hw _ (List.mem_of_getElem? (i := 52) rfl))) (by decide) (StrChars.Road.chN (W := 0) hZ (own_hch hw) (kI := 4) (hw _ (List.mem_of_getElem? (i := 9) rfl)) Ea Va Ca Aa hcd_a hbd_a SCS hcz SFM hfm hl_a (i := 0) h0i (j := (0 : Int32)) rfl (by decide) (by decide)) q1a q1c (g := (mkF m 8 #[.val (.ref a), .val (.int (0 : Int32)), .val (.int y), .val (.int (y &&& (255 : Int32)))] [(.int (0 : Int32)), (.ref a)])) rfl (by rw [hml]; rfl) (Steps.refl _) (argsL := [(.int (0 : Int32))]) (rest := []) (lenOf pd_1 rfl) rfl (by show 2 * 0 + _ ≤ _; exact Nat.le_of_eq rfl) (hb hby d10_8) (fun _ _ => ⟨rfl, e0, (by decide : 0 + 0 ≤ _), (by decide : 0 + 0 ≤ _)⟩)
  dsimp only [Pt.U, Pt.locs, Pt.cells, Pt.slots] at X1 l1 y1 z1 st1 hQ1
  subst l1 y1 z1
  obtain ⟨rfl, rfl, eh1⟩ := hQ1
  have N1 := Fr.app N0 (Fr.nil n0)
  rw [g0] at st1
  refine Ends.pre (T' := T1.setTop (mkF m 11 #[.val (.ref a), .val (.int (0 : Int32)), .val (.int y), .val (.int (y &&& (255 : Int32)))] [(.int (own_hexd ((y >>> ((4 : Int32) &&& 31)) &&& (15 : Int32))))])) (fun t k => st1.trans k) ?_
  refine Ends.pre (T' := T1.setTop (mkF m 12 #[.val (.ref a), .val (.int (0 : Int32)), .val (.int y), .val (.int (y &&& (255 : Int32)))] [(.int (y &&& (255 : Int32))), (.int (own_hexd ((y >>> ((4 : Int32) &&& 31)) &&& (15 : Int32))))])) (fun t k => XS.iloadN X1.here hx rfl (hb hby d10_11) rfl k) ?_
  refine Ends.pre (T' := T1.setTop (mkF m 14 #[.val (.ref a), .val (.int (0 : Int32)), .val (.int y), .val (.int (y &&& (255 : Int32)))] [(.int (16 : Int32)), (.int (y &&& (255 : Int32))), (.int (own_hexd ((y >>> ((4 : Int32) &&& 31)) &&& (15 : Int32))))])) (fun t k => XS.bipush X1.here hx rfl (hb hby d10_12) k) ?_
  refine Ends.pre (T' := T1.setTop (mkF m 15 #[.val (.ref a), .val (.int (0 : Int32)), .val (.int y), .val (.int (y &&& (255 : Int32)))] [(.int ((y &&& (255 : Int32)) / (16 : Int32))), (.int (own_hexd ((y >>> ((4 : Int32) &&& 31)) &&& (15 : Int32))))])) (fun t k => XS.idiv X1.here hx rfl (hb hby d10_14) rfl (by decide) k) ?_
  obtain ⟨_, _, ⟨T2, L2, k2, n2⟩, -, X2, ⟨Lc2, hQ2, l2, y2, z2⟩, st2⟩ := Jvm.LawKit.callS X1 hx (y := (⟨"com/example/wireform/wireform/HexFormatPinLaw", "digit", "(I)C"⟩ : MethodName)) hown (mvT hZ (hw _ (List.mem_of_getElem? (i := 72) rfl))) (mvT hZ (hw _ (List.mem_of_getElem? (i := 73) rfl))) (mvT hZ (hw _ (List.mem_of_getElem? (i := 48) rfl))) (mvT hZ (hw _ (List.mem_of_getElem? (i := 74) rfl))) (by decide) (backOf (W := 1) (rm16 l Z a0 hw [] ((y &&& (255 : Int32)) / (16 : Int32)) h0 n0 Z0 (own_divr y)) hZ (hw _ (List.mem_of_getElem? (i := 74) rfl)) (hw _ (List.mem_of_getElem? (i := 48) rfl)) (by decide) (by decide)) (g := (mkF m 15 #[.val (.ref a), .val (.int (0 : Int32)), .val (.int y), .val (.int (y &&& (255 : Int32)))] [(.int ((y &&& (255 : Int32)) / (16 : Int32))), (.int (own_hexd ((y >>> ((4 : Int32) &&& 31)) &&& (15 : Int32))))])) rfl (by rw [hml]; rfl) (argsL := [(.int ((y &&& (255 : Int32)) / (16 : Int32)))]) (rest := [(.int (own_hexd ((y >>> ((4 : Int32) &&& 31)) &&& (15 : Int32))))]) (lenOf pd_1 rfl) rfl (by show 2 * 0 + _ ≤ _; exact Nat.le_of_eq rfl) (hb hby d10_15) (fun _ _ => ⟨rfl, eh1, (by decide : 0 + 0 ≤ _), (by decide : 0 + 0 ≤ _)⟩)
  dsimp only [Pt.U, Pt.locs, Pt.cells, Pt.slots] at X2 l2 y2 z2 st2 hQ2
  subst l2 y2 z2
  obtain ⟨rfl, N2q, eh2⟩ := hQ2
  have N2 := Fr.app N1 N2q
  refine Ends.pre (T' := T2.setTop (mkF m 18 #[.val (.ref a), .val (.int (0 : Int32)), .val (.int y), .val (.int (y &&& (255 : Int32)))] [(.int (own_hexd ((y &&& (255 : Int32)) / (16 : Int32)))), (.int (own_hexd ((y >>> ((4 : Int32) &&& 31)) &&& (15 : Int32))))])) (fun t k => st2 _ k) ?_
  refine Ends.pre (T' := T2.setTop (mkF m 21 #[.val (.ref a), .val (.int (0 : Int32)), .val (.int y), .val (.int (y &&& (255 : Int32)))] [])) (fun t k => XS.icmpNo X2.here hx rfl (hb hby d10_18) rfl (Jvm.Free.XT.ii_ne_f (congrArg own_hexd (own_div y))) k) ?_
  refine Ends.pre (T' := T2.setTop (mkF m 22 #[.val (.ref a), .val (.int (0 : Int32)), .val (.int y), .val (.int (y &&& (255 : Int32)))] [(.ref a)])) (fun t k => XS.aloadN X2.here hx rfl (hb hby d10_21) rfl rfl k) ?_
  refine Ends.pre (T' := T2.setTop (mkF m 23 #[.val (.ref a), .val (.int (0 : Int32)), .val (.int y), .val (.int (y &&& (255 : Int32)))] [(.int (0 : Int32)), (.ref a)])) (fun t k => XS.iloadN X2.here hx rfl (hb hby d10_22) rfl k) ?_
  refine Ends.pre (T' := T2.setTop (mkF m 24 #[.val (.ref a), .val (.int (0 : Int32)), .val (.int y), .val (.int (y &&& (255 : Int32)))] [(.int (1 : Int32)), (.int (0 : Int32)), (.ref a)])) (fun t k => XS.iconst X2.here hx rfl (hb hby d10_23) k) ?_
  refine Ends.pre (T' := T2.setTop (mkF m 25 #[.val (.ref a), .val (.int (0 : Int32)), .val (.int y), .val (.int (y &&& (255 : Int32)))] [(.int (1 : Int32)), (.ref a)])) (fun t k => XS.iadd X2.here hx rfl (hb hby d10_24) rfl k) ?_
  obtain ⟨cq3, kq3, q3a, q3b, q3c⟩ := isOf hZ eh2 Ea
  obtain ⟨_, _, ⟨T3, L3, k3, n3⟩, -, X3, ⟨Lc3, hQ3, l3, y3, z3⟩, st3⟩ := X2.virtualBack hx (y := (⟨"java/lang/String", "charAt", "(I)C"⟩ : MethodName)) (z := (⟨"java/lang/String", "charAt", "(I)C"⟩ : MethodName)) hown (mvT hZ (hw _ (List.mem_of_getElem? (i := 50) rfl))) (mvT hZ (hw _ (List.mem_of_getElem? (i := 51) rfl))) (notFace_of_selects (args := #[]) (mvT hZ (hw _ (List.mem_of_getElem? (i := 53) rfl)))) (mvT hZ (hw _ (List.mem_of_getElem? (i := 53) rfl))) (mvT hZ (hw _ (List.mem_of_getElem? (i := 52) rfl))) (by decide) (StrChars.Road.chN (W := 0) hZ (own_hch hw) (kI := 4) (hw _ (List.mem_of_getElem? (i := 9) rfl)) Ea Va Ca Aa hcd_a hbd_a SCS hcz SFM hfm hl_a (i := 1) h1i (j := (1 : Int32)) rfl (by decide) (by decide)) q3a q3c (g := (mkF m 25 #[.val (.ref a), .val (.int (0 : Int32)), .val (.int y), .val (.int (y &&& (255 : Int32)))] [(.int (1 : Int32)), (.ref a)])) rfl (by rw [hml]; rfl) (Steps.refl _) (argsL := [(.int (1 : Int32))]) (rest := []) (lenOf pd_1 rfl) rfl (by show 2 * 0 + _ ≤ _; exact Nat.le_of_eq rfl) (hb hby d10_25) (fun _ _ => ⟨rfl, eh2, (by decide : 0 + 0 ≤ _), (by decide : 0 + 0 ≤ _)⟩)
  dsimp only [Pt.U, Pt.locs, Pt.cells, Pt.slots] at X3 l3 y3 z3 st3 hQ3
  subst l3 y3 z3
  obtain ⟨rfl, rfl, eh3⟩ := hQ3
  have N3 := Fr.app N2 (Fr.nil n0)
  rw [g1] at st3
  refine Ends.pre (T' := T3.setTop (mkF m 28 #[.val (.ref a), .val (.int (0 : Int32)), .val (.int y), .val (.int (y &&& (255 : Int32)))] [(.int (own_hexd (y &&& (15 : Int32))))])) (fun t k => st3.trans k) ?_
  refine Ends.pre (T' := T3.setTop (mkF m 29 #[.val (.ref a), .val (.int (0 : Int32)), .val (.int y), .val (.int (y &&& (255 : Int32)))] [(.int (y &&& (255 : Int32))), (.int (own_hexd (y &&& (15 : Int32))))])) (fun t k => XS.iloadN X3.here hx rfl (hb hby d10_28) rfl k) ?_
  refine Ends.pre (T' := T3.setTop (mkF m 31 #[.val (.ref a), .val (.int (0 : Int32)), .val (.int y), .val (.int (y &&& (255 : Int32)))] [(.int (16 : Int32)), (.int (y &&& (255 : Int32))), (.int (own_hexd (y &&& (15 : Int32))))])) (fun t k => XS.bipush X3.here hx rfl (hb hby d10_29) k) ?_
  refine Ends.pre (T' := T3.setTop (mkF m 32 #[.val (.ref a), .val (.int (0 : Int32)), .val (.int y), .val (.int (y &&& (255 : Int32)))] [(.int ((y &&& (255 : Int32)) % (16 : Int32))), (.int (own_hexd (y &&& (15 : Int32))))])) (fun t k => iremM X3 hx rfl (hb hby d10_31) rfl (by decide) k) ?_
  obtain ⟨_, _, ⟨T4, L4, k4, n4⟩, -, X4, ⟨Lc4, hQ4, l4, y4, z4⟩, st4⟩ := Jvm.LawKit.callS X3 hx (y := (⟨"com/example/wireform/wireform/HexFormatPinLaw", "digit", "(I)C"⟩ : MethodName)) hown (mvT hZ (hw _ (List.mem_of_getElem? (i := 72) rfl))) (mvT hZ (hw _ (List.mem_of_getElem? (i := 73) rfl))) (mvT hZ (hw _ (List.mem_of_getElem? (i := 48) rfl))) (mvT hZ (hw _ (List.mem_of_getElem? (i := 74) rfl))) (by decide) (backOf (W := 1) (rm16 l Z a0 hw [] ((y &&& (255 : Int32)) % (16 : Int32)) h0 n0 Z0 (own_remr y)) hZ (hw _ (List.mem_of_getElem? (i := 74) rfl)) (hw _ (List.mem_of_getElem? (i := 48) rfl)) (by decide) (by decide)) (g := (mkF m 32 #[.val (.ref a), .val (.int (0 : Int32)), .val (.int y), .val (.int (y &&& (255 : Int32)))] [(.int ((y &&& (255 : Int32)) % (16 : Int32))), (.int (own_hexd (y &&& (15 : Int32))))])) rfl (by rw [hml]; rfl) (argsL := [(.int ((y &&& (255 : Int32)) % (16 : Int32)))]) (rest := [(.int (own_hexd (y &&& (15 : Int32))))]) (lenOf pd_1 rfl) rfl (by show 2 * 0 + _ ≤ _; exact Nat.le_of_eq rfl) (hb hby d10_32) (fun _ _ => ⟨rfl, eh3, (by decide : 0 + 0 ≤ _), (by decide : 0 + 0 ≤ _)⟩)
  dsimp only [Pt.U, Pt.locs, Pt.cells, Pt.slots] at X4 l4 y4 z4 st4 hQ4
  subst l4 y4 z4
  obtain ⟨rfl, N4q, eh4⟩ := hQ4
  have N4 := Fr.app N3 N4q
  refine Ends.pre (T' := T4.setTop (mkF m 35 #[.val (.ref a), .val (.int (0 : Int32)), .val (.int y), .val (.int (y &&& (255 : Int32)))] [(.int (own_hexd ((y &&& (255 : Int32)) % (16 : Int32)))), (.int (own_hexd (y &&& (15 : Int32))))])) (fun t k => st4 _ k) ?_
  refine Ends.pre (T' := T4.setTop (mkF m 38 #[.val (.ref a), .val (.int (0 : Int32)), .val (.int y), .val (.int (y &&& (255 : Int32)))] [])) (fun t k => XS.icmpNo X4.here hx rfl (hb hby d10_35) rfl (Jvm.Free.XT.ii_ne_f (congrArg own_hexd (own_rem y))) k) ?_
  refine Ends.pre (T' := T4.setTop (mkF m 39 #[.val (.ref a), .val (.int (0 : Int32)), .val (.int y), .val (.int (y &&& (255 : Int32)))] [(.int (1 : Int32))])) (fun t k => XS.iconst X4.here hx rfl (hb hby d10_38) k) ?_
  refine Ends.pre (T' := T4.setTop (mkF m 43 #[.val (.ref a), .val (.int (0 : Int32)), .val (.int y), .val (.int (y &&& (255 : Int32)))] [(.int (1 : Int32))])) (fun t k => XS.goto X4.here hx rfl (pc0 := 39) (pc' := 43) rfl (hb hby d10_39) (by decide) (by decide) k) ?_
  exact Ends.ret (w := (.int (1 : Int32))) X4 hx Bd.notSynchronized Bd.returns rfl (Or.inl ⟨rfl, Or.inr (Or.inl rfl), _, rfl⟩) (hb hby d10_43) eh4 ⟨rfl, N4, rfl⟩ (by decide) (by decide)
theorem ef_rm10_2 (m : MethodId) (x0 : Addr) (x2 : Int32) : entryFrame m #[(.ref x0), (.int (2 : Int32)), (.int x2)] 4 = mkF m 0 #[.val (.ref x0), .val (.int (2 : Int32)), .val (.int x2), .unset] [] := by first | (simp [entryFrame, mkF, argsToLocals, Value.category]; done) | rfl
def Q_rm10_2 (Z : State) (a : Addr) (ta : Addr) (ka : ClassId) (cs_a : List Int32) (n_a : Int32) (vs_a : List Value) (y : Int32) (cz : Int32) (fm : Value) (h0 : Heap) (n0 : Nat) (v : Option Value) (h : Heap) (L : List Loc) : Prop := v = some (.int 1) ∧ Fr n0 L ∧ h = h0
set_option maxRecDepth 65536 in
set_option maxHeartbeats 40000000 in
theorem rm10_2 (l : Launch) (Z : State) (a0 : Array Value) (hw : ∀ d ∈ tables_1, d.before a0 Z = true) (ws : List Jvm.Cond) (a : Addr) (ta : Addr) (ka : ClassId) (cs_a : List Int32) (n_a : Int32) (vs_a : List Value) (y : Int32) (cz : Int32) (fm : Value) (h0 : Heap) (n0 : Nat) (Z0 : n0 ≤ h0.size) (Ea : Exa Z h0 a "java/lang/String") (Ca : Fld Z h0 a "java/lang/String" "coder" "B" (.int 0)) (Va : Fld Z h0 a "java/lang/String" "value" "[B" (.ref ta)) (Aa : Arv Z h0 ta ka .byte n_a vs_a (.int 0)) (hcd_a : StrChars.Road.CodA cs_a 0 n_a vs_a) (hbd_a : ∀ c ∈ cs_a, ¬ c < 0 ∧ ¬ (65535 : Int32) < c) (hl_a : cs_a.length ≤ 4000) (h0i : 2 < cs_a.length) (h1i : 3 < cs_a.length) (g0 : cs_a.getD 2 0 = (own_hexd ((y >>> ((4 : Int32) &&& 31)) &&& (15 : Int32)))) (g1 : cs_a.getD 3 0 = (own_hexd (y &&& (15 : Int32)))) (SCS : Sta Z h0 "java/lang/String" "COMPACT_STRINGS" "Z" (.int cz)) (hcz : ¬ cz = 0) (SFM : Sta Z h0 "jdk/internal/util/Preconditions" "SIOOBE_FORMATTER" "Ljava/util/function/BiFunction;" fm) (hfm : fm.isRef = true) :
    MetFree l (⟨"com/example/wireform/wireform/HexFormatPinLaw", "pair", "(Ljava/lang/String;IB)Z"⟩ : MethodName) (head1 (Jvm.Cond.code (⟨"com/example/wireform/wireform/HexFormatPinLaw", "pair", "(Ljava/lang/String;IB)Z"⟩ : MethodName) method_3_code 4 (some .boolean) :: ws) ({ frames := 4, cells := 0, slots := 0, locals := 53 } : Room)) (fun aa_ U => aa_ = #[(.ref a), (.int (2 : Int32)), (.int y)] ∧ Z.Warmed39 U.vm ∧ U.heap = h0) (fun _ _ _ _ _ => True) (fun _ U o U' => ∃ v L, o = .returned v ∧ Q_rm10_2 Z a ta ka cs_a n_a vs_a y cz fm h0 n0 v U'.heap L ∧ FrameEnd U o U' L ({ frames := 4, cells := 0, slots := 0, locals := 53 } : Room).cells ({ frames := 4, cells := 0, slots := 0, locals := 53 } : Room).slots) := by
  refine MetFree.of_bodySF (plainFor_of_name pn_1) hisR ?_
  intro p e s m args below meth c s₁ Bd hml0 hP hK
  obtain ⟨rfl, hZ, hh⟩ := hP
  have hx := Bd.exec
  have hby := Bd.bytes
  have hml : c.maxLocals = 4 := hml0
  have hown : s.vm.findClass "com/example/wireform/wireform/HexFormatPinLaw" = some m.cls := findClass_of_methodNamed Bd.named
  have hnm := (name_of_methodNamed Bd.named Bd.method).1
  have X0 : Stand p l e ({ frames := 4, cells := 0, slots := 0, locals := 53 } : Room) s m #[(.ref a), (.int (2 : Int32)), (.int y)] below meth c s₁ [] 0 0 := Stand.of_body Bd
  have e0 : s₁.heap = h0 := by rw [← hh, Bd.state]; rfl
  have N0 := Fr.nil n0
  refine Ends.cast (P := EndN s ({ frames := 4, cells := 0, slots := 0, locals := 53 } : Room) (Q_rm10_2 Z a ta ka cs_a n_a vs_a y cz fm h0 n0)) (ef_rm10_2 m a y) ?_
  refine Ends.pre (T' := s₁.setTop (mkF m 1 #[.val (.ref a), .val (.int (2 : Int32)), .val (.int y), .unset] [(.int y)])) (fun t k => XS.iloadN X0.here hx rfl (hb hby d10_0) rfl k) ?_
  refine Ends.pre (T' := s₁.setTop (mkF m 4 #[.val (.ref a), .val (.int (2 : Int32)), .val (.int y), .unset] [(.int (255 : Int32)), (.int y)])) (fun t k => XS.sipush X0.here hx rfl (hb hby d10_1) k) ?_
  refine Ends.pre (T' := s₁.setTop (mkF m 5 #[.val (.ref a), .val (.int (2 : Int32)), .val (.int y), .unset] [(.int (y &&& (255 : Int32)))])) (fun t k => XS.iand X0.here hx rfl (hb hby d10_4) rfl k) ?_
  refine Ends.pre (T' := s₁.setTop (mkF m 6 #[.val (.ref a), .val (.int (2 : Int32)), .val (.int y), .val (.int (y &&& (255 : Int32)))] [])) (fun t k => XS.istoreN (g := (mkF m 5 #[.val (.ref a), .val (.int (2 : Int32)), .val (.int y), .unset] [(.int (y &&& (255 : Int32)))])) X0.here hx rfl (hb hby d10_5) rfl (l' := #[.val (.ref a), .val (.int (2 : Int32)), .val (.int y), .val (.int (y &&& (255 : Int32)))]) rfl k) ?_
  refine Ends.pre (T' := s₁.setTop (mkF m 7 #[.val (.ref a), .val (.int (2 : Int32)), .val (.int y), .val (.int (y &&& (255 : Int32)))] [(.ref a)])) (fun t k => XS.aloadN X0.here hx rfl (hb hby d10_6) rfl rfl k) ?_
  refine Ends.pre (T' := s₁.setTop (mkF m 8 #[.val (.ref a), .val (.int (2 : Int32)), .val (.int y), .val (.int (y &&& (255 : Int32)))] [(.int (2 : Int32)), (.ref a)])) (fun t k => XS.iloadN X0.here hx rfl (hb hby d10_7) rfl k) ?_
  obtain ⟨cq1, kq1, q1a, q1b, q1c⟩ := isOf hZ e0 Ea
  obtain ⟨_, _, ⟨T1, L1, k1, n1⟩, -, X1, ⟨Lc1, hQ1, l1, y1, z1⟩, st1⟩ := X0.virtualBack hx (y := (⟨"java/lang/String", "charAt", "(I)C"⟩ : MethodName)) (z := (⟨"java/lang/String", "charAt", "(I)C"⟩ : MethodName)) hown (mvT hZ (hw _ (List.mem_of_getElem? (i := 50) rfl))) (mvT hZ (hw _ (List.mem_of_getElem? (i := 51) rfl))) (notFace_of_selects (args := #[]) (mvT hZ (hw _ (List.mem_of_getElem? (i := 53) rfl)))) (mvT hZ (hw _ (List.mem_of_getElem? (i := 53) rfl))) (mvT hZ (hw _ (List.mem_of_getElem? (i := 52) rfl))) (by decide) (StrChars.Road.chN (W := 0) hZ (own_hch hw) (kI := 4) (hw _ (List.mem_of_getElem? (i := 9) rfl)) Ea Va Ca Aa hcd_a hbd_a SCS hcz SFM hfm hl_a (i := 2) h0i (j := (2 : Int32)) rfl (by decide) (by decide)) q1a q1c (g := (mkF m 8 #[.val (.ref a), .val (.int (2 : Int32)), .val (.int y), .val (.int (y &&& (255 : Int32)))] [(.int (2 : Int32)), (.ref a)])) rfl (by rw [hml]; rfl) (Steps.refl _) (argsL := [(.int (2 : Int32))]) (rest := []) (lenOf pd_1 rfl) rfl (by show 2 * 0 + _ ≤ _; exact Nat.le_of_eq rfl) (hb hby d10_8) (fun _ _ => ⟨rfl, e0, (by decide : 0 + 0 ≤ _), (by decide : 0 + 0 ≤ _)⟩)
  dsimp only [Pt.U, Pt.locs, Pt.cells, Pt.slots] at X1 l1 y1 z1 st1 hQ1
  subst l1 y1 z1
  obtain ⟨rfl, rfl, eh1⟩ := hQ1
  have N1 := Fr.app N0 (Fr.nil n0)
  rw [g0] at st1
  refine Ends.pre (T' := T1.setTop (mkF m 11 #[.val (.ref a), .val (.int (2 : Int32)), .val (.int y), .val (.int (y &&& (255 : Int32)))] [(.int (own_hexd ((y >>> ((4 : Int32) &&& 31)) &&& (15 : Int32))))])) (fun t k => st1.trans k) ?_
  refine Ends.pre (T' := T1.setTop (mkF m 12 #[.val (.ref a), .val (.int (2 : Int32)), .val (.int y), .val (.int (y &&& (255 : Int32)))] [(.int (y &&& (255 : Int32))), (.int (own_hexd ((y >>> ((4 : Int32) &&& 31)) &&& (15 : Int32))))])) (fun t k => XS.iloadN X1.here hx rfl (hb hby d10_11) rfl k) ?_
  refine Ends.pre (T' := T1.setTop (mkF m 14 #[.val (.ref a), .val (.int (2 : Int32)), .val (.int y), .val (.int (y &&& (255 : Int32)))] [(.int (16 : Int32)), (.int (y &&& (255 : Int32))), (.int (own_hexd ((y >>> ((4 : Int32) &&& 31)) &&& (15 : Int32))))])) (fun t k => XS.bipush X1.here hx rfl (hb hby d10_12) k) ?_
  refine Ends.pre (T' := T1.setTop (mkF m 15 #[.val (.ref a), .val (.int (2 : Int32)), .val (.int y), .val (.int (y &&& (255 : Int32)))] [(.int ((y &&& (255 : Int32)) / (16 : Int32))), (.int (own_hexd ((y >>> ((4 : Int32) &&& 31)) &&& (15 : Int32))))])) (fun t k => XS.idiv X1.here hx rfl (hb hby d10_14) rfl (by decide) k) ?_
  obtain ⟨_, _, ⟨T2, L2, k2, n2⟩, -, X2, ⟨Lc2, hQ2, l2, y2, z2⟩, st2⟩ := Jvm.LawKit.callS X1 hx (y := (⟨"com/example/wireform/wireform/HexFormatPinLaw", "digit", "(I)C"⟩ : MethodName)) hown (mvT hZ (hw _ (List.mem_of_getElem? (i := 72) rfl))) (mvT hZ (hw _ (List.mem_of_getElem? (i := 73) rfl))) (mvT hZ (hw _ (List.mem_of_getElem? (i := 48) rfl))) (mvT hZ (hw _ (List.mem_of_getElem? (i := 74) rfl))) (by decide) (backOf (W := 1) (rm16 l Z a0 hw [] ((y &&& (255 : Int32)) / (16 : Int32)) h0 n0 Z0 (own_divr y)) hZ (hw _ (List.mem_of_getElem? (i := 74) rfl)) (hw _ (List.mem_of_getElem? (i := 48) rfl)) (by decide) (by decide)) (g := (mkF m 15 #[.val (.ref a), .val (.int (2 : Int32)), .val (.int y), .val (.int (y &&& (255 : Int32)))] [(.int ((y &&& (255 : Int32)) / (16 : Int32))), (.int (own_hexd ((y >>> ((4 : Int32) &&& 31)) &&& (15 : Int32))))])) rfl (by rw [hml]; rfl) (argsL := [(.int ((y &&& (255 : Int32)) / (16 : Int32)))]) (rest := [(.int (own_hexd ((y >>> ((4 : Int32) &&& 31)) &&& (15 : Int32))))]) (lenOf pd_1 rfl) rfl (by show 2 * 0 + _ ≤ _; exact Nat.le_of_eq rfl) (hb hby d10_15) (fun _ _ => ⟨rfl, eh1, (by decide : 0 + 0 ≤ _), (by decide : 0 + 0 ≤ _)⟩)
  dsimp only [Pt.U, Pt.locs, Pt.cells, Pt.slots] at X2 l2 y2 z2 st2 hQ2
  subst l2 y2 z2
  obtain ⟨rfl, N2q, eh2⟩ := hQ2
  have N2 := Fr.app N1 N2q
  refine Ends.pre (T' := T2.setTop (mkF m 18 #[.val (.ref a), .val (.int (2 : Int32)), .val (.int y), .val (.int (y &&& (255 : Int32)))] [(.int (own_hexd ((y &&& (255 : Int32)) / (16 : Int32)))), (.int (own_hexd ((y >>> ((4 : Int32) &&& 31)) &&& (15 : Int32))))])) (fun t k => st2 _ k) ?_
  refine Ends.pre (T' := T2.setTop (mkF m 21 #[.val (.ref a), .val (.int (2 : Int32)), .val (.int y), .val (.int (y &&& (255 : Int32)))] [])) (fun t k => XS.icmpNo X2.here hx rfl (hb hby d10_18) rfl (Jvm.Free.XT.ii_ne_f (congrArg own_hexd (own_div y))) k) ?_
  refine Ends.pre (T' := T2.setTop (mkF m 22 #[.val (.ref a), .val (.int (2 : Int32)), .val (.int y), .val (.int (y &&& (255 : Int32)))] [(.ref a)])) (fun t k => XS.aloadN X2.here hx rfl (hb hby d10_21) rfl rfl k) ?_
  refine Ends.pre (T' := T2.setTop (mkF m 23 #[.val (.ref a), .val (.int (2 : Int32)), .val (.int y), .val (.int (y &&& (255 : Int32)))] [(.int (2 : Int32)), (.ref a)])) (fun t k => XS.iloadN X2.here hx rfl (hb hby d10_22) rfl k) ?_
  refine Ends.pre (T' := T2.setTop (mkF m 24 #[.val (.ref a), .val (.int (2 : Int32)), .val (.int y), .val (.int (y &&& (255 : Int32)))] [(.int (1 : Int32)), (.int (2 : Int32)), (.ref a)])) (fun t k => XS.iconst X2.here hx rfl (hb hby d10_23) k) ?_
  refine Ends.pre (T' := T2.setTop (mkF m 25 #[.val (.ref a), .val (.int (2 : Int32)), .val (.int y), .val (.int (y &&& (255 : Int32)))] [(.int (3 : Int32)), (.ref a)])) (fun t k => XS.iadd X2.here hx rfl (hb hby d10_24) rfl k) ?_
  obtain ⟨cq3, kq3, q3a, q3b, q3c⟩ := isOf hZ eh2 Ea
  obtain ⟨_, _, ⟨T3, L3, k3, n3⟩, -, X3, ⟨Lc3, hQ3, l3, y3, z3⟩, st3⟩ := X2.virtualBack hx (y := (⟨"java/lang/String", "charAt", "(I)C"⟩ : MethodName)) (z := (⟨"java/lang/String", "charAt", "(I)C"⟩ : MethodName)) hown (mvT hZ (hw _ (List.mem_of_getElem? (i := 50) rfl))) (mvT hZ (hw _ (List.mem_of_getElem? (i := 51) rfl))) (notFace_of_selects (args := #[]) (mvT hZ (hw _ (List.mem_of_getElem? (i := 53) rfl)))) (mvT hZ (hw _ (List.mem_of_getElem? (i := 53) rfl))) (mvT hZ (hw _ (List.mem_of_getElem? (i := 52) rfl))) (by decide) (StrChars.Road.chN (W := 0) hZ (own_hch hw) (kI := 4) (hw _ (List.mem_of_getElem? (i := 9) rfl)) Ea Va Ca Aa hcd_a hbd_a SCS hcz SFM hfm hl_a (i := 3) h1i (j := (3 : Int32)) rfl (by decide) (by decide)) q3a q3c (g := (mkF m 25 #[.val (.ref a), .val (.int (2 : Int32)), .val (.int y), .val (.int (y &&& (255 : Int32)))] [(.int (3 : Int32)), (.ref a)])) rfl (by rw [hml]; rfl) (Steps.refl _) (argsL := [(.int (3 : Int32))]) (rest := []) (lenOf pd_1 rfl) rfl (by show 2 * 0 + _ ≤ _; exact Nat.le_of_eq rfl) (hb hby d10_25) (fun _ _ => ⟨rfl, eh2, (by decide : 0 + 0 ≤ _), (by decide : 0 + 0 ≤ _)⟩)
  dsimp only [Pt.U, Pt.locs, Pt.cells, Pt.slots] at X3 l3 y3 z3 st3 hQ3
  subst l3 y3 z3
  obtain ⟨rfl, rfl, eh3⟩ := hQ3
  have N3 := Fr.app N2 (Fr.nil n0)
  rw [g1] at st3
  refine Ends.pre (T' := T3.setTop (mkF m 28 #[.val (.ref a), .val (.int (2 : Int32)), .val (.int y), .val (.int (y &&& (255 : Int32)))] [(.int (own_hexd (y &&& (15 : Int32))))])) (fun t k => st3.trans k) ?_
  refine Ends.pre (T' := T3.setTop (mkF m 29 #[.val (.ref a), .val (.int (2 : Int32)), .val (.int y), .val (.int (y &&& (255 : Int32)))] [(.int (y &&& (255 : Int32))), (.int (own_hexd (y &&& (15 : Int32))))])) (fun t k => XS.iloadN X3.here hx rfl (hb hby d10_28) rfl k) ?_
  refine Ends.pre (T' := T3.setTop (mkF m 31 #[.val (.ref a), .val (.int (2 : Int32)), .val (.int y), .val (.int (y &&& (255 : Int32)))] [(.int (16 : Int32)), (.int (y &&& (255 : Int32))), (.int (own_hexd (y &&& (15 : Int32))))])) (fun t k => XS.bipush X3.here hx rfl (hb hby d10_29) k) ?_
  refine Ends.pre (T' := T3.setTop (mkF m 32 #[.val (.ref a), .val (.int (2 : Int32)), .val (.int y), .val (.int (y &&& (255 : Int32)))] [(.int ((y &&& (255 : Int32)) % (16 : Int32))), (.int (own_hexd (y &&& (15 : Int32))))])) (fun t k => iremM X3 hx rfl (hb hby d10_31) rfl (by decide) k) ?_
  obtain ⟨_, _, ⟨T4, L4, k4, n4⟩, -, X4, ⟨Lc4, hQ4, l4, y4, z4⟩, st4⟩ := Jvm.LawKit.callS X3 hx (y := (⟨"com/example/wireform/wireform/HexFormatPinLaw", "digit", "(I)C"⟩ : MethodName)) hown (mvT hZ (hw _ (List.mem_of_getElem? (i := 72) rfl))) (mvT hZ (hw _ (List.mem_of_getElem? (i := 73) rfl))) (mvT hZ (hw _ (List.mem_of_getElem? (i := 48) rfl))) (mvT hZ (hw _ (List.mem_of_getElem? (i := 74) rfl))) (by decide) (backOf (W := 1) (rm16 l Z a0 hw [] ((y &&& (255 : Int32)) % (16 : Int32)) h0 n0 Z0 (own_remr y)) hZ (hw _ (List.mem_of_getElem? (i := 74) rfl)) (hw _ (List.mem_of_getElem? (i := 48) rfl)) (by decide) (by decide)) (g := (mkF m 32 #[.val (.ref a), .val (.int (2 : Int32)), .val (.int y), .val (.int (y &&& (255 : Int32)))] [(.int ((y &&& (255 : Int32)) % (16 : Int32))), (.int (own_hexd (y &&& (15 : Int32))))])) rfl (by rw [hml]; rfl) (argsL := [(.int ((y &&& (255 : Int32)) % (16 : Int32)))]) (rest := [(.int (own_hexd (y &&& (15 : Int32))))]) (lenOf pd_1 rfl) rfl (by show 2 * 0 + _ ≤ _; exact Nat.le_of_eq rfl) (hb hby d10_32) (fun _ _ => ⟨rfl, eh3, (by decide : 0 + 0 ≤ _), (by decide : 0 + 0 ≤ _)⟩)
  dsimp only [Pt.U, Pt.locs, Pt.cells, Pt.slots] at X4 l4 y4 z4 st4 hQ4
  subst l4 y4 z4
  obtain ⟨rfl, N4q, eh4⟩ := hQ4
  have N4 := Fr.app N3 N4q
  refine Ends.pre (T' := T4.setTop (mkF m 35 #[.val (.ref a), .val (.int (2 : Int32)), .val (.int y), .val (.int (y &&& (255 : Int32)))] [(.int (own_hexd ((y &&& (255 : Int32)) % (16 : Int32)))), (.int (own_hexd (y &&& (15 : Int32))))])) (fun t k => st4 _ k) ?_
  refine Ends.pre (T' := T4.setTop (mkF m 38 #[.val (.ref a), .val (.int (2 : Int32)), .val (.int y), .val (.int (y &&& (255 : Int32)))] [])) (fun t k => XS.icmpNo X4.here hx rfl (hb hby d10_35) rfl (Jvm.Free.XT.ii_ne_f (congrArg own_hexd (own_rem y))) k) ?_
  refine Ends.pre (T' := T4.setTop (mkF m 39 #[.val (.ref a), .val (.int (2 : Int32)), .val (.int y), .val (.int (y &&& (255 : Int32)))] [(.int (1 : Int32))])) (fun t k => XS.iconst X4.here hx rfl (hb hby d10_38) k) ?_
  refine Ends.pre (T' := T4.setTop (mkF m 43 #[.val (.ref a), .val (.int (2 : Int32)), .val (.int y), .val (.int (y &&& (255 : Int32)))] [(.int (1 : Int32))])) (fun t k => XS.goto X4.here hx rfl (pc0 := 39) (pc' := 43) rfl (hb hby d10_39) (by decide) (by decide) k) ?_
  exact Ends.ret (w := (.int (1 : Int32))) X4 hx Bd.notSynchronized Bd.returns rfl (Or.inl ⟨rfl, Or.inr (Or.inl rfl), _, rfl⟩) (hb hby d10_43) eh4 ⟨rfl, N4, rfl⟩ (by decide) (by decide)
theorem ef_rm10_4 (m : MethodId) (x0 : Addr) (x2 : Int32) : entryFrame m #[(.ref x0), (.int (4 : Int32)), (.int x2)] 4 = mkF m 0 #[.val (.ref x0), .val (.int (4 : Int32)), .val (.int x2), .unset] [] := by first | (simp [entryFrame, mkF, argsToLocals, Value.category]; done) | rfl
def Q_rm10_4 (Z : State) (a : Addr) (ta : Addr) (ka : ClassId) (cs_a : List Int32) (n_a : Int32) (vs_a : List Value) (y : Int32) (cz : Int32) (fm : Value) (h0 : Heap) (n0 : Nat) (v : Option Value) (h : Heap) (L : List Loc) : Prop := v = some (.int 1) ∧ Fr n0 L ∧ h = h0
set_option maxRecDepth 65536 in
set_option maxHeartbeats 40000000 in
theorem rm10_4 (l : Launch) (Z : State) (a0 : Array Value) (hw : ∀ d ∈ tables_1, d.before a0 Z = true) (ws : List Jvm.Cond) (a : Addr) (ta : Addr) (ka : ClassId) (cs_a : List Int32) (n_a : Int32) (vs_a : List Value) (y : Int32) (cz : Int32) (fm : Value) (h0 : Heap) (n0 : Nat) (Z0 : n0 ≤ h0.size) (Ea : Exa Z h0 a "java/lang/String") (Ca : Fld Z h0 a "java/lang/String" "coder" "B" (.int 0)) (Va : Fld Z h0 a "java/lang/String" "value" "[B" (.ref ta)) (Aa : Arv Z h0 ta ka .byte n_a vs_a (.int 0)) (hcd_a : StrChars.Road.CodA cs_a 0 n_a vs_a) (hbd_a : ∀ c ∈ cs_a, ¬ c < 0 ∧ ¬ (65535 : Int32) < c) (hl_a : cs_a.length ≤ 4000) (h0i : 4 < cs_a.length) (h1i : 5 < cs_a.length) (g0 : cs_a.getD 4 0 = (own_hexd ((y >>> ((4 : Int32) &&& 31)) &&& (15 : Int32)))) (g1 : cs_a.getD 5 0 = (own_hexd (y &&& (15 : Int32)))) (SCS : Sta Z h0 "java/lang/String" "COMPACT_STRINGS" "Z" (.int cz)) (hcz : ¬ cz = 0) (SFM : Sta Z h0 "jdk/internal/util/Preconditions" "SIOOBE_FORMATTER" "Ljava/util/function/BiFunction;" fm) (hfm : fm.isRef = true) :
    MetFree l (⟨"com/example/wireform/wireform/HexFormatPinLaw", "pair", "(Ljava/lang/String;IB)Z"⟩ : MethodName) (head1 (Jvm.Cond.code (⟨"com/example/wireform/wireform/HexFormatPinLaw", "pair", "(Ljava/lang/String;IB)Z"⟩ : MethodName) method_3_code 4 (some .boolean) :: ws) ({ frames := 4, cells := 0, slots := 0, locals := 53 } : Room)) (fun aa_ U => aa_ = #[(.ref a), (.int (4 : Int32)), (.int y)] ∧ Z.Warmed39 U.vm ∧ U.heap = h0) (fun _ _ _ _ _ => True) (fun _ U o U' => ∃ v L, o = .returned v ∧ Q_rm10_4 Z a ta ka cs_a n_a vs_a y cz fm h0 n0 v U'.heap L ∧ FrameEnd U o U' L ({ frames := 4, cells := 0, slots := 0, locals := 53 } : Room).cells ({ frames := 4, cells := 0, slots := 0, locals := 53 } : Room).slots) := by
  refine MetFree.of_bodySF (plainFor_of_name pn_1) hisR ?_
  intro p e s m args below meth c s₁ Bd hml0 hP hK
  obtain ⟨rfl, hZ, hh⟩ := hP
  have hx := Bd.exec
  have hby := Bd.bytes
  have hml : c.maxLocals = 4 := hml0
  have hown : s.vm.findClass "com/example/wireform/wireform/HexFormatPinLaw" = some m.cls := findClass_of_methodNamed Bd.named
  have hnm := (name_of_methodNamed Bd.named Bd.method).1
  have X0 : Stand p l e ({ frames := 4, cells := 0, slots := 0, locals := 53 } : Room) s m #[(.ref a), (.int (4 : Int32)), (.int y)] below meth c s₁ [] 0 0 := Stand.of_body Bd
  have e0 : s₁.heap = h0 := by rw [← hh, Bd.state]; rfl
  have N0 := Fr.nil n0
  refine Ends.cast (P := EndN s ({ frames := 4, cells := 0, slots := 0, locals := 53 } : Room) (Q_rm10_4 Z a ta ka cs_a n_a vs_a y cz fm h0 n0)) (ef_rm10_4 m a y) ?_
  refine Ends.pre (T' := s₁.setTop (mkF m 1 #[.val (.ref a), .val (.int (4 : Int32)), .val (.int y), .unset] [(.int y)])) (fun t k => XS.iloadN X0.here hx rfl (hb hby d10_0) rfl k) ?_
  refine Ends.pre (T' := s₁.setTop (mkF m 4 #[.val (.ref a), .val (.int (4 : Int32)), .val (.int y), .unset] [(.int (255 : Int32)), (.int y)])) (fun t k => XS.sipush X0.here hx rfl (hb hby d10_1) k) ?_
  refine Ends.pre (T' := s₁.setTop (mkF m 5 #[.val (.ref a), .val (.int (4 : Int32)), .val (.int y), .unset] [(.int (y &&& (255 : Int32)))])) (fun t k => XS.iand X0.here hx rfl (hb hby d10_4) rfl k) ?_
  refine Ends.pre (T' := s₁.setTop (mkF m 6 #[.val (.ref a), .val (.int (4 : Int32)), .val (.int y), .val (.int (y &&& (255 : Int32)))] [])) (fun t k => XS.istoreN (g := (mkF m 5 #[.val (.ref a), .val (.int (4 : Int32)), .val (.int y), .unset] [(.int (y &&& (255 : Int32)))])) X0.here hx rfl (hb hby d10_5) rfl (l' := #[.val (.ref a), .val (.int (4 : Int32)), .val (.int y), .val (.int (y &&& (255 : Int32)))]) rfl k) ?_
  refine Ends.pre (T' := s₁.setTop (mkF m 7 #[.val (.ref a), .val (.int (4 : Int32)), .val (.int y), .val (.int (y &&& (255 : Int32)))] [(.ref a)])) (fun t k => XS.aloadN X0.here hx rfl (hb hby d10_6) rfl rfl k) ?_
  refine Ends.pre (T' := s₁.setTop (mkF m 8 #[.val (.ref a), .val (.int (4 : Int32)), .val (.int y), .val (.int (y &&& (255 : Int32)))] [(.int (4 : Int32)), (.ref a)])) (fun t k => XS.iloadN X0.here hx rfl (hb hby d10_7) rfl k) ?_
  obtain ⟨cq1, kq1, q1a, q1b, q1c⟩ := isOf hZ e0 Ea
  obtain ⟨_, _, ⟨T1, L1, k1, n1⟩, -, X1, ⟨Lc1, hQ1, l1, y1, z1⟩, st1⟩ := X0.virtualBack hx (y := (⟨"java/lang/String", "charAt", "(I)C"⟩ : MethodName)) (z := (⟨"java/lang/String", "charAt", "(I)C"⟩ : MethodName)) hown (mvT hZ (hw _ (List.mem_of_getElem? (i := 50) rfl))) (mvT hZ (hw _ (List.mem_of_getElem? (i := 51) rfl))) (notFace_of_selects (args := #[]) (mvT hZ (hw _ (List.mem_of_getElem? (i := 53) rfl)))) (mvT hZ (hw _ (List.mem_of_getElem? (i := 53) rfl))) (mvT hZ (hw _ (List.mem_of_getElem? (i := 52) rfl))) (by decide) (StrChars.Road.chN (W := 0) hZ (own_hch hw) (kI := 4) (hw _ (List.mem_of_getElem? (i := 9) rfl)) Ea Va Ca Aa hcd_a hbd_a SCS hcz SFM hfm hl_a (i := 4) h0i (j := (4 : Int32)) rfl (by decide) (by decide)) q1a q1c (g := (mkF m 8 #[.val (.ref a), .val (.int (4 : Int32)), .val (.int y), .val (.int (y &&& (255 : Int32)))] [(.int (4 : Int32)), (.ref a)])) rfl (by rw [hml]; rfl) (Steps.refl _) (argsL := [(.int (4 : Int32))]) (rest := []) (lenOf pd_1 rfl) rfl (by show 2 * 0 + _ ≤ _; exact Nat.le_of_eq rfl) (hb hby d10_8) (fun _ _ => ⟨rfl, e0, (by decide : 0 + 0 ≤ _), (by decide : 0 + 0 ≤ _)⟩)
  dsimp only [Pt.U, Pt.locs, Pt.cells, Pt.slots] at X1 l1 y1 z1 st1 hQ1
  subst l1 y1 z1
  obtain ⟨rfl, rfl, eh1⟩ := hQ1
  have N1 := Fr.app N0 (Fr.nil n0)
  rw [g0] at st1
  refine Ends.pre (T' := T1.setTop (mkF m 11 #[.val (.ref a), .val (.int (4 : Int32)), .val (.int y), .val (.int (y &&& (255 : Int32)))] [(.int (own_hexd ((y >>> ((4 : Int32) &&& 31)) &&& (15 : Int32))))])) (fun t k => st1.trans k) ?_
  refine Ends.pre (T' := T1.setTop (mkF m 12 #[.val (.ref a), .val (.int (4 : Int32)), .val (.int y), .val (.int (y &&& (255 : Int32)))] [(.int (y &&& (255 : Int32))), (.int (own_hexd ((y >>> ((4 : Int32) &&& 31)) &&& (15 : Int32))))])) (fun t k => XS.iloadN X1.here hx rfl (hb hby d10_11) rfl k) ?_
  refine Ends.pre (T' := T1.setTop (mkF m 14 #[.val (.ref a), .val (.int (4 : Int32)), .val (.int y), .val (.int (y &&& (255 : Int32)))] [(.int (16 : Int32)), (.int (y &&& (255 : Int32))), (.int (own_hexd ((y >>> ((4 : Int32) &&& 31)) &&& (15 : Int32))))])) (fun t k => XS.bipush X1.here hx rfl (hb hby d10_12) k) ?_
  refine Ends.pre (T' := T1.setTop (mkF m 15 #[.val (.ref a), .val (.int (4 : Int32)), .val (.int y), .val (.int (y &&& (255 : Int32)))] [(.int ((y &&& (255 : Int32)) / (16 : Int32))), (.int (own_hexd ((y >>> ((4 : Int32) &&& 31)) &&& (15 : Int32))))])) (fun t k => XS.idiv X1.here hx rfl (hb hby d10_14) rfl (by decide) k) ?_
  obtain ⟨_, _, ⟨T2, L2, k2, n2⟩, -, X2, ⟨Lc2, hQ2, l2, y2, z2⟩, st2⟩ := Jvm.LawKit.callS X1 hx (y := (⟨"com/example/wireform/wireform/HexFormatPinLaw", "digit", "(I)C"⟩ : MethodName)) hown (mvT hZ (hw _ (List.mem_of_getElem? (i := 72) rfl))) (mvT hZ (hw _ (List.mem_of_getElem? (i := 73) rfl))) (mvT hZ (hw _ (List.mem_of_getElem? (i := 48) rfl))) (mvT hZ (hw _ (List.mem_of_getElem? (i := 74) rfl))) (by decide) (backOf (W := 1) (rm16 l Z a0 hw [] ((y &&& (255 : Int32)) / (16 : Int32)) h0 n0 Z0 (own_divr y)) hZ (hw _ (List.mem_of_getElem? (i := 74) rfl)) (hw _ (List.mem_of_getElem? (i := 48) rfl)) (by decide) (by decide)) (g := (mkF m 15 #[.val (.ref a), .val (.int (4 : Int32)), .val (.int y), .val (.int (y &&& (255 : Int32)))] [(.int ((y &&& (255 : Int32)) / (16 : Int32))), (.int (own_hexd ((y >>> ((4 : Int32) &&& 31)) &&& (15 : Int32))))])) rfl (by rw [hml]; rfl) (argsL := [(.int ((y &&& (255 : Int32)) / (16 : Int32)))]) (rest := [(.int (own_hexd ((y >>> ((4 : Int32) &&& 31)) &&& (15 : Int32))))]) (lenOf pd_1 rfl) rfl (by show 2 * 0 + _ ≤ _; exact Nat.le_of_eq rfl) (hb hby d10_15) (fun _ _ => ⟨rfl, eh1, (by decide : 0 + 0 ≤ _), (by decide : 0 + 0 ≤ _)⟩)
  dsimp only [Pt.U, Pt.locs, Pt.cells, Pt.slots] at X2 l2 y2 z2 st2 hQ2
  subst l2 y2 z2
  obtain ⟨rfl, N2q, eh2⟩ := hQ2
  have N2 := Fr.app N1 N2q
  refine Ends.pre (T' := T2.setTop (mkF m 18 #[.val (.ref a), .val (.int (4 : Int32)), .val (.int y), .val (.int (y &&& (255 : Int32)))] [(.int (own_hexd ((y &&& (255 : Int32)) / (16 : Int32)))), (.int (own_hexd ((y >>> ((4 : Int32) &&& 31)) &&& (15 : Int32))))])) (fun t k => st2 _ k) ?_
  refine Ends.pre (T' := T2.setTop (mkF m 21 #[.val (.ref a), .val (.int (4 : Int32)), .val (.int y), .val (.int (y &&& (255 : Int32)))] [])) (fun t k => XS.icmpNo X2.here hx rfl (hb hby d10_18) rfl (Jvm.Free.XT.ii_ne_f (congrArg own_hexd (own_div y))) k) ?_
  refine Ends.pre (T' := T2.setTop (mkF m 22 #[.val (.ref a), .val (.int (4 : Int32)), .val (.int y), .val (.int (y &&& (255 : Int32)))] [(.ref a)])) (fun t k => XS.aloadN X2.here hx rfl (hb hby d10_21) rfl rfl k) ?_
  refine Ends.pre (T' := T2.setTop (mkF m 23 #[.val (.ref a), .val (.int (4 : Int32)), .val (.int y), .val (.int (y &&& (255 : Int32)))] [(.int (4 : Int32)), (.ref a)])) (fun t k => XS.iloadN X2.here hx rfl (hb hby d10_22) rfl k) ?_
  refine Ends.pre (T' := T2.setTop (mkF m 24 #[.val (.ref a), .val (.int (4 : Int32)), .val (.int y), .val (.int (y &&& (255 : Int32)))] [(.int (1 : Int32)), (.int (4 : Int32)), (.ref a)])) (fun t k => XS.iconst X2.here hx rfl (hb hby d10_23) k) ?_
  refine Ends.pre (T' := T2.setTop (mkF m 25 #[.val (.ref a), .val (.int (4 : Int32)), .val (.int y), .val (.int (y &&& (255 : Int32)))] [(.int (5 : Int32)), (.ref a)])) (fun t k => XS.iadd X2.here hx rfl (hb hby d10_24) rfl k) ?_
  obtain ⟨cq3, kq3, q3a, q3b, q3c⟩ := isOf hZ eh2 Ea
  obtain ⟨_, _, ⟨T3, L3, k3, n3⟩, -, X3, ⟨Lc3, hQ3, l3, y3, z3⟩, st3⟩ := X2.virtualBack hx (y := (⟨"java/lang/String", "charAt", "(I)C"⟩ : MethodName)) (z := (⟨"java/lang/String", "charAt", "(I)C"⟩ : MethodName)) hown (mvT hZ (hw _ (List.mem_of_getElem? (i := 50) rfl))) (mvT hZ (hw _ (List.mem_of_getElem? (i := 51) rfl))) (notFace_of_selects (args := #[]) (mvT hZ (hw _ (List.mem_of_getElem? (i := 53) rfl)))) (mvT hZ (hw _ (List.mem_of_getElem? (i := 53) rfl))) (mvT hZ (hw _ (List.mem_of_getElem? (i := 52) rfl))) (by decide) (StrChars.Road.chN (W := 0) hZ (own_hch hw) (kI := 4) (hw _ (List.mem_of_getElem? (i := 9) rfl)) Ea Va Ca Aa hcd_a hbd_a SCS hcz SFM hfm hl_a (i := 5) h1i (j := (5 : Int32)) rfl (by decide) (by decide)) q3a q3c (g := (mkF m 25 #[.val (.ref a), .val (.int (4 : Int32)), .val (.int y), .val (.int (y &&& (255 : Int32)))] [(.int (5 : Int32)), (.ref a)])) rfl (by rw [hml]; rfl) (Steps.refl _) (argsL := [(.int (5 : Int32))]) (rest := []) (lenOf pd_1 rfl) rfl (by show 2 * 0 + _ ≤ _; exact Nat.le_of_eq rfl) (hb hby d10_25) (fun _ _ => ⟨rfl, eh2, (by decide : 0 + 0 ≤ _), (by decide : 0 + 0 ≤ _)⟩)
  dsimp only [Pt.U, Pt.locs, Pt.cells, Pt.slots] at X3 l3 y3 z3 st3 hQ3
  subst l3 y3 z3
  obtain ⟨rfl, rfl, eh3⟩ := hQ3
  have N3 := Fr.app N2 (Fr.nil n0)
  rw [g1] at st3
  refine Ends.pre (T' := T3.setTop (mkF m 28 #[.val (.ref a), .val (.int (4 : Int32)), .val (.int y), .val (.int (y &&& (255 : Int32)))] [(.int (own_hexd (y &&& (15 : Int32))))])) (fun t k => st3.trans k) ?_
  refine Ends.pre (T' := T3.setTop (mkF m 29 #[.val (.ref a), .val (.int (4 : Int32)), .val (.int y), .val (.int (y &&& (255 : Int32)))] [(.int (y &&& (255 : Int32))), (.int (own_hexd (y &&& (15 : Int32))))])) (fun t k => XS.iloadN X3.here hx rfl (hb hby d10_28) rfl k) ?_
  refine Ends.pre (T' := T3.setTop (mkF m 31 #[.val (.ref a), .val (.int (4 : Int32)), .val (.int y), .val (.int (y &&& (255 : Int32)))] [(.int (16 : Int32)), (.int (y &&& (255 : Int32))), (.int (own_hexd (y &&& (15 : Int32))))])) (fun t k => XS.bipush X3.here hx rfl (hb hby d10_29) k) ?_
  refine Ends.pre (T' := T3.setTop (mkF m 32 #[.val (.ref a), .val (.int (4 : Int32)), .val (.int y), .val (.int (y &&& (255 : Int32)))] [(.int ((y &&& (255 : Int32)) % (16 : Int32))), (.int (own_hexd (y &&& (15 : Int32))))])) (fun t k => iremM X3 hx rfl (hb hby d10_31) rfl (by decide) k) ?_
  obtain ⟨_, _, ⟨T4, L4, k4, n4⟩, -, X4, ⟨Lc4, hQ4, l4, y4, z4⟩, st4⟩ := Jvm.LawKit.callS X3 hx (y := (⟨"com/example/wireform/wireform/HexFormatPinLaw", "digit", "(I)C"⟩ : MethodName)) hown (mvT hZ (hw _ (List.mem_of_getElem? (i := 72) rfl))) (mvT hZ (hw _ (List.mem_of_getElem? (i := 73) rfl))) (mvT hZ (hw _ (List.mem_of_getElem? (i := 48) rfl))) (mvT hZ (hw _ (List.mem_of_getElem? (i := 74) rfl))) (by decide) (backOf (W := 1) (rm16 l Z a0 hw [] ((y &&& (255 : Int32)) % (16 : Int32)) h0 n0 Z0 (own_remr y)) hZ (hw _ (List.mem_of_getElem? (i := 74) rfl)) (hw _ (List.mem_of_getElem? (i := 48) rfl)) (by decide) (by decide)) (g := (mkF m 32 #[.val (.ref a), .val (.int (4 : Int32)), .val (.int y), .val (.int (y &&& (255 : Int32)))] [(.int ((y &&& (255 : Int32)) % (16 : Int32))), (.int (own_hexd (y &&& (15 : Int32))))])) rfl (by rw [hml]; rfl) (argsL := [(.int ((y &&& (255 : Int32)) % (16 : Int32)))]) (rest := [(.int (own_hexd (y &&& (15 : Int32))))]) (lenOf pd_1 rfl) rfl (by show 2 * 0 + _ ≤ _; exact Nat.le_of_eq rfl) (hb hby d10_32) (fun _ _ => ⟨rfl, eh3, (by decide : 0 + 0 ≤ _), (by decide : 0 + 0 ≤ _)⟩)
  dsimp only [Pt.U, Pt.locs, Pt.cells, Pt.slots] at X4 l4 y4 z4 st4 hQ4
  subst l4 y4 z4
  obtain ⟨rfl, N4q, eh4⟩ := hQ4
  have N4 := Fr.app N3 N4q
  refine Ends.pre (T' := T4.setTop (mkF m 35 #[.val (.ref a), .val (.int (4 : Int32)), .val (.int y), .val (.int (y &&& (255 : Int32)))] [(.int (own_hexd ((y &&& (255 : Int32)) % (16 : Int32)))), (.int (own_hexd (y &&& (15 : Int32))))])) (fun t k => st4 _ k) ?_
  refine Ends.pre (T' := T4.setTop (mkF m 38 #[.val (.ref a), .val (.int (4 : Int32)), .val (.int y), .val (.int (y &&& (255 : Int32)))] [])) (fun t k => XS.icmpNo X4.here hx rfl (hb hby d10_35) rfl (Jvm.Free.XT.ii_ne_f (congrArg own_hexd (own_rem y))) k) ?_
  refine Ends.pre (T' := T4.setTop (mkF m 39 #[.val (.ref a), .val (.int (4 : Int32)), .val (.int y), .val (.int (y &&& (255 : Int32)))] [(.int (1 : Int32))])) (fun t k => XS.iconst X4.here hx rfl (hb hby d10_38) k) ?_
  refine Ends.pre (T' := T4.setTop (mkF m 43 #[.val (.ref a), .val (.int (4 : Int32)), .val (.int y), .val (.int (y &&& (255 : Int32)))] [(.int (1 : Int32))])) (fun t k => XS.goto X4.here hx rfl (pc0 := 39) (pc' := 43) rfl (hb hby d10_39) (by decide) (by decide) k) ?_
  exact Ends.ret (w := (.int (1 : Int32))) X4 hx Bd.notSynchronized Bd.returns rfl (Or.inl ⟨rfl, Or.inr (Or.inl rfl), _, rfl⟩) (hb hby d10_43) eh4 ⟨rfl, N4, rfl⟩ (by decide) (by decide)
theorem d1_0 : decode prog_2_method_2_code 0 = .ok (.iconst 2, 1) := by decide +kernel
theorem d1_1 : decode prog_2_method_2_code 1 = .ok (.aload_n 0, 1) := by decide +kernel
theorem d1_2 : decode prog_2_method_2_code 2 = .ok (.arraylength, 1) := by decide +kernel
theorem d1_3 : decode prog_2_method_2_code 3 = .ok (.imul, 1) := by decide +kernel
theorem d1_4 : decode prog_2_method_2_code 4 = .ok (.newarray .char, 2) := by decide +kernel
theorem d1_6 : decode prog_2_method_2_code 6 = .ok (.astore_n 1, 1) := by decide +kernel
theorem d1_7 : decode prog_2_method_2_code 7 = .ok (.iconst 0, 1) := by decide +kernel
theorem d1_8 : decode prog_2_method_2_code 8 = .ok (.istore_n 2, 1) := by decide +kernel
theorem d1_9 : decode prog_2_method_2_code 9 = .ok (.iload_n 2, 1) := by decide +kernel
theorem d1_10 : decode prog_2_method_2_code 10 = .ok (.aload_n 0, 1) := by decide +kernel
theorem d1_11 : decode prog_2_method_2_code 11 = .ok (.arraylength, 1) := by decide +kernel
theorem d1_12 : decode prog_2_method_2_code 12 = .ok (.if_icmp .ge 43, 3) := by decide +kernel
theorem d1_55 : decode prog_2_method_2_code 55 = .ok (.new 13, 3) := by decide +kernel
theorem d1_58 : decode prog_2_method_2_code 58 = .ok (.dup, 1) := by decide +kernel
theorem d1_59 : decode prog_2_method_2_code 59 = .ok (.aload_n 1, 1) := by decide +kernel
theorem d1_60 : decode prog_2_method_2_code 60 = .ok (.invokespecial 15, 3) := by decide +kernel
theorem pd_2 : parseMethodDescriptor "([C)V" = some ⟨[(.array .char)], none⟩ := by decide +kernel
theorem d1_63 : decode prog_2_method_2_code 63 = .ok (.areturn, 1) := by decide +kernel
theorem pn_2 : plainName "com/example/wireform/wireform/Hex" = true := by first | (simp [plainName, overriddenIn]; done) | decide +kernel
theorem ef_rm1_0 (m : MethodId) (x0 : Addr) : entryFrame m #[(.ref x0)] 3 = mkF m 0 #[.val (.ref x0), .unset, .unset] [] := by first | (simp [entryFrame, mkF, argsToLocals, Value.category]; done) | rfl
def Q_rm1_0 (Z : State) (a : Addr) (ka : ClassId) (da : Addr) (cl : Cell) (cz : Int32) (fm : Value) (h0 : Heap) (n0 : Nat) (v : Option Value) (h : Heap) (L : List Loc) : Prop := ∃ r t kb, v = some (.ref r) ∧ Fr n0 L ∧ Keep h0 h [] ∧ Exa Z h r "java/lang/String" ∧ Fld Z h r "java/lang/String" "coder" "B" (.int 0) ∧ Fld Z h r "java/lang/String" "value" "[B" (.ref t) ∧ Arv Z h t kb .byte (0 : Int32) [] (.int 0)
set_option maxRecDepth 65536 in
set_option maxHeartbeats 40000000 in
theorem rm1_0 (l : Launch) (Z : State) (a0 : Array Value) (hw : ∀ d ∈ tables_1, d.before a0 Z = true) (ws : List Jvm.Cond) (a : Addr) (ka : ClassId) (da : Addr) (cl : Cell) (cz : Int32) (fm : Value) (h0 : Heap) (n0 : Nat) (Z0 : n0 ≤ h0.size) (Va : Arv Z h0 a ka .byte (0 : Int32) [] (.int (0 : Int32))) (SDG : Sta Z h0 "com/example/wireform/wireform/Hex" "DIGITS" "[C" (.ref da)) (ADG : Arr Z h0 da cl .char) (hsz : cl.slots.size = 16) (hel : ∀ j : Int32, ¬ (j < 0 ∨ cl.slots.size ≤ j.toNatClampNeg) → cl.slots[j.toNatClampNeg]? = some (.int (own_hexd j))) (SCS : Sta Z h0 "java/lang/String" "COMPACT_STRINGS" "Z" (.int cz)) (hcz : ¬ cz = 0) (SFM : Sta Z h0 "jdk/internal/util/Preconditions" "SIOOBE_FORMATTER" "Ljava/util/function/BiFunction;" fm) (hfm : fm.isRef = true) :
    MetFree l (⟨"com/example/wireform/wireform/Hex", "format", "([B)Ljava/lang/String;"⟩ : MethodName) (head1 (Jvm.Cond.code (⟨"com/example/wireform/wireform/Hex", "format", "([B)Ljava/lang/String;"⟩ : MethodName) prog_2_method_2_code 3 (some (.object "java/lang/String")) :: ws) ({ frames := 3, cells := 6, slots := 12, locals := 43 } : Room)) (fun aa_ U => aa_ = #[(.ref a)] ∧ Z.Warmed39 U.vm ∧ U.heap = h0 ∧ CHv Z consts_1 U.vm h0) (fun _ _ _ _ _ => True) (fun _ U o U' => ∃ v L, o = .returned v ∧ Q_rm1_0 Z a ka da cl cz fm h0 n0 v U'.heap L ∧ CHr Z consts_1 U.vm U.heap U'.vm U'.heap ∧ ReturnedEndW U o U' L ({ frames := 3, cells := 6, slots := 12, locals := 43 } : Room).cells ({ frames := 3, cells := 6, slots := 12, locals := 43 } : Room).slots) := by
  refine MetFree.of_bodySF (plainFor_of_name pn_2) hisR ?_
  intro p e s m args below meth c s₁ Bd hml0 hP hK
  obtain ⟨rfl, hZ, hh, CH0⟩ := hP
  have hx := Bd.exec
  have hby := Bd.bytes
  have hml : c.maxLocals = 3 := hml0
  have hown : s.vm.findClass "com/example/wireform/wireform/Hex" = some m.cls := findClass_of_methodNamed Bd.named
  have hnm := (name_of_methodNamed Bd.named Bd.method).1
  have X0 : Stand p l e ({ frames := 3, cells := 6, slots := 12, locals := 43 } : Room) (s.setVm s.vm) m #[(.ref a)] below meth c s₁ [] 0 0 := Stand.of_body Bd
  have e0 : s₁.heap = h0 := by rw [← hh, Bd.state]; rfl
  have N0 := Fr.nil n0
  have hS0 : s.Since s.vm 0 := own_since s
  have hk0 : 0 ≤ h0.size := Nat.zero_le _
  have CR0 := CHr.refl CH0
  have hEL := own_EW hw
  have wS := own_wS hw
  have hZo := hZ
  refine Ends.cast (P := EndW s ({ frames := 3, cells := 6, slots := 12, locals := 43 } : Room) Z consts_1 (Q_rm1_0 Z a ka da cl cz fm h0 n0)) (ef_rm1_0 m a) ?_
  refine Ends.pre (T' := s₁.setTop (mkF m 1 #[.val (.ref a), .unset, .unset] [(.int (2 : Int32))])) (fun t k => XS.iconst X0.here hx rfl (hb hby d1_0) k) ?_
  refine Ends.pre (T' := s₁.setTop (mkF m 2 #[.val (.ref a), .unset, .unset] [(.ref a), (.int (2 : Int32))])) (fun t k => XS.aloadN X0.here hx rfl (hb hby d1_1) rfl rfl k) ?_
  obtain ⟨cl1, Ar1, q1, S1, N1', H1, G1⟩ := id Va
  refine Ends.pre (T' := s₁.setTop (mkF m 3 #[.val (.ref a), .unset, .unset] [(.int (0 : Int32)), (.int (2 : Int32))])) (fun t k => X0.arraylength hx (by rw [e0]; exact Ar1.1) (State.isArrayOf_alike hZ.alike Ar1.2.1) (g := (mkF m 2 #[.val (.ref a), .unset, .unset] [(.ref a), (.int (2 : Int32))])) rfl rfl (hb hby d1_2) _ (by rw [len_of S1 N1']; exact k)) ?_
  refine Ends.pre (T' := s₁.setTop (mkF m 4 #[.val (.ref a), .unset, .unset] [(.int (0 : Int32))])) (fun t k => XS.imul X0.here hx rfl (hb hby d1_3) rfl k) ?_
  obtain ⟨T2, h2, k2, X2, e2, E2, A2, st2⟩ := newP X0 hx hZ (hw _ (List.mem_of_getElem? (i := 5) rfl)) e0 (g := (mkF m 4 #[.val (.ref a), .unset, .unset] [(.int (0 : Int32))])) rfl (hb hby d1_4) rfl (by decide) (cap := 0) (by decide) (by decide) (by decide) (by decide)
  obtain ⟨b2, g2⟩ : ∃ z, z = h0.size := ⟨_, rfl⟩
  rw [← g2] at A2 st2
  have ge_b2 : n0 ≤ b2 := Nat.le_trans Z0 (Nat.le_of_eq g2.symm)
  have sz_b2 : h0.size ≤ b2 := Nat.le_trans (Keep.refl h0 []).1 (Nat.le_of_eq g2.symm)
  have CR2 := CHr.trans CR0 (CHr.ext E2 CH0)
  have K2 : Keep h0 h2 [] := (Keep.refl h0 []).ext E2
  have V2 : Arv Z h2 b2 k2 .char (0 : Int32) [] (.int (0 : Int32)) := (Arv.new A2 (by decide))
  refine Ends.pre (T' := T2.setTop (mkF m 6 #[.val (.ref a), .unset, .unset] [(.ref b2)])) (fun t k => st2 _ k) ?_
  refine Ends.pre (T' := T2.setTop (mkF m 7 #[.val (.ref a), .val (.ref b2), .unset] [])) (fun t k => XS.astoreN (g := (mkF m 6 #[.val (.ref a), .unset, .unset] [(.ref b2)])) X2.here hx rfl (hb hby d1_6) rfl rfl (l' := #[.val (.ref a), .val (.ref b2), .unset]) rfl k) ?_
  refine Ends.pre (T' := T2.setTop (mkF m 8 #[.val (.ref a), .val (.ref b2), .unset] [(.int (0 : Int32))])) (fun t k => XS.iconst X2.here hx rfl (hb hby d1_7) k) ?_
  refine Ends.pre (T' := T2.setTop (mkF m 9 #[.val (.ref a), .val (.ref b2), .val (.int (0 : Int32))] [])) (fun t k => XS.istoreN (g := (mkF m 8 #[.val (.ref a), .val (.ref b2), .unset] [(.int (0 : Int32))])) X2.here hx rfl (hb hby d1_8) rfl (l' := #[.val (.ref a), .val (.ref b2), .val (.int (0 : Int32))]) rfl k) ?_
  refine Ends.pre (T' := T2.setTop (mkF m 10 #[.val (.ref a), .val (.ref b2), .val (.int (0 : Int32))] [(.int (0 : Int32))])) (fun t k => XS.iloadN X2.here hx rfl (hb hby d1_9) rfl k) ?_
  refine Ends.pre (T' := T2.setTop (mkF m 11 #[.val (.ref a), .val (.ref b2), .val (.int (0 : Int32))] [(.ref a), (.int (0 : Int32))])) (fun t k => XS.aloadN X2.here hx rfl (hb hby d1_10) rfl rfl k) ?_
  have F3 : Arv Z h2 a ka .byte (0 : Int32) [] (.int (0 : Int32)) := (Va.keep K2 nin0)
  obtain ⟨cl4, Ar4, q4, S4, N4', H4, G4⟩ := id F3
  refine Ends.pre (T' := T2.setTop (mkF m 12 #[.val (.ref a), .val (.ref b2), .val (.int (0 : Int32))] [(.int (0 : Int32)), (.int (0 : Int32))])) (fun t k => X2.arraylength hx (by rw [e2]; exact Ar4.1) (State.isArrayOf_alike hZ.alike Ar4.2.1) (g := (mkF m 11 #[.val (.ref a), .val (.ref b2), .val (.int (0 : Int32))] [(.ref a), (.int (0 : Int32))])) rfl rfl (hb hby d1_11) _ (by rw [len_of S4 N4']; exact k)) ?_
  refine Ends.pre (T' := T2.setTop (mkF m 55 #[.val (.ref a), .val (.ref b2), .val (.int (0 : Int32))] [])) (fun t k => XS.icmpYes X2.here hx rfl (pc0 := 12) (pc' := 55) rfl (hb hby d1_12) rfl (by decide) (by decide) (by decide) k) ?_
  obtain ⟨T5, h5, X5, e5, E5, A5, D5, -, st5⟩ := newO X2 hx hZ hown (hw _ (List.mem_of_getElem? (i := 8) rfl)) (hw _ (List.mem_of_getElem? (i := 9) rfl)) (hw _ (List.mem_of_getElem? (i := 10) rfl)) e2 (g := (mkF m 55 #[.val (.ref a), .val (.ref b2), .val (.int (0 : Int32))] [])) rfl (hb hby d1_55) (by decide) (by decide)
  obtain ⟨b5, g5⟩ : ∃ z, z = h2.size := ⟨_, rfl⟩
  rw [← g5] at A5 D5 st5
  have ge_b5 : n0 ≤ b5 := Nat.le_trans (Nat.le_trans Z0 E2.1) (Nat.le_of_eq g5.symm)
  have sz_b5 : h0.size ≤ b5 := Nat.le_trans K2.1 (Nat.le_of_eq g5.symm)
  have CR5 := CHr.trans CR2 (CHr.ext E5 CR2.1)
  have K5 : Keep h0 h5 [] := K2.ext E5
  have Fd5_coder : Fld Z h5 b5 "java/lang/String" "coder" "B" (.int (0 : Int32)) := D5 (Or.inr (hw _ (List.mem_of_getElem? (i := 33) rfl))) (ty := .byte) (by decide)
  have Fd5_value : Fld Z h5 b5 "java/lang/String" "value" "[B" .null := D5 (Or.inr (hw _ (List.mem_of_getElem? (i := 35) rfl))) (ty := (.array .byte)) (by decide)
  refine Ends.pre (T' := T5.setTop (mkF m 58 #[.val (.ref a), .val (.ref b2), .val (.int (0 : Int32))] [(.ref b5)])) (fun t k => st5 _ k) ?_
  refine Ends.pre (T' := T5.setTop (mkF m 59 #[.val (.ref a), .val (.ref b2), .val (.int (0 : Int32))] [(.ref b5), (.ref b5)])) (fun t k => XS.dup X5.here hx rfl (hb hby d1_58) rfl rfl k) ?_
  refine Ends.pre (T' := T5.setTop (mkF m 60 #[.val (.ref a), .val (.ref b2), .val (.int (0 : Int32))] [(.ref b2), (.ref b5), (.ref b5)])) (fun t k => XS.aloadN X5.here hx rfl (hb hby d1_59) rfl rfl k) ?_
  have F6 : Arv Z h5 b2 k2 .char (0 : Int32) [] (.int (0 : Int32)) := (Arv.ext V2 E5)
  obtain ⟨_, _, ⟨T7, L7, k7, n7⟩, -, Xa7, hSa7, ga7, ⟨Lc7, hQ7, l7, y7, z7, CRc7⟩, st7⟩ := X5.specialBackS hx (y := (⟨"java/lang/String", "<init>", "([C)V"⟩ : MethodName)) rfl hown (mvT hZ (hw _ (List.mem_of_getElem? (i := 11) rfl))) (mvT hZ (hw _ (List.mem_of_getElem? (i := 12) rfl))) (mvT hZ (hw _ (List.mem_of_getElem? (i := 13) rfl))) (by decide) (backOfSH (W := 1) (rm_e1 l Z a0 hw [] b5 b2 k2 h5 n0 (Nat.le_trans (Nat.le_trans Z0 E2.1) E5.1) A5 Fd5_value Fd5_coder ge_b5 F6) hZ (hw _ (List.mem_of_getElem? (i := 13) rfl)) (hw _ (List.mem_of_getElem? (i := 10) rfl)) (by decide) (by decide) hEL CR5.1) (g := (mkF m 60 #[.val (.ref a), .val (.ref b2), .val (.int (0 : Int32))] [(.ref b2), (.ref b5), (.ref b5)])) rfl (by rw [hml]; rfl) (Steps.refl _) (a := b5) (argsL := [(.ref b2)]) (rest := [(.ref b5)]) (lenOf pd_2 rfl) rfl (by show 2 * 0 + _ ≤ _; exact Nat.le_of_eq rfl) (hb hby d1_60) (fun _ _ => ⟨rfl, e5, (by decide : 2 + 4 ≤ _), (by decide : 4 + 8 ≤ _)⟩)
  dsimp only [Pt.U, Pt.locs, Pt.cells, Pt.slots] at Xa7 hSa7 ga7 l7 y7 z7 st7 hQ7 CRc7
  subst l7 y7 z7
  obtain ⟨X7, hS7, hZ7, hown7⟩ := rebS hS0 (n1 := T5.heap.size) (by rw [e5]; exact (Nat.le_trans (Nat.le_trans hk0 E2.1) E5.1)) Xa7 hSa7 ga7 hZ hown
  obtain ⟨rfl, N7q, Kc7, Es7, Cs7, t7, kb7, Vs7, As7⟩ := hQ7
  have N7 := Fr.app N0 N7q
  have K7 : Keep h0 T7.heap [] := K5.trans Kc7 (allS (Or.inr sz_b5) all0)
  have CR7 := CHr.trans CR5 CRc7
  have hcd7 : StrChars.Road.CodA ([] : List Int32) 0 (0 : Int32) [] := own_lit rfl rfl own_al0
  have hbd7 : ∀ c ∈ ([] : List Int32), ¬ c < 0 ∧ ¬ (65535 : Int32) < c := own_al0
  refine Ends.pre (T' := T7.setTop (mkF m 63 #[.val (.ref a), .val (.ref b2), .val (.int (0 : Int32))] [(.ref b5)])) (fun t k => st7.trans k) ?_
  exact Ends.retW (w := (.ref b5)) X7 hx Bd.notSynchronized Bd.returns rfl (Or.inr (Or.inr (Or.inr (Or.inr ⟨rfl, rfl, rfl⟩)))) (hb hby d1_63) rfl hZ7 hEL hS7 (Nat.le_refl _) hh CR7 ⟨_, _, _, rfl, N7, K7, Es7, Cs7, Vs7, As7⟩ (by decide) (by decide)
theorem d1_15 : decode prog_2_method_2_code 15 = .ok (.aload_n 1, 1) := by decide +kernel
theorem d1_16 : decode prog_2_method_2_code 16 = .ok (.iconst 2, 1) := by decide +kernel
theorem d1_17 : decode prog_2_method_2_code 17 = .ok (.iload_n 2, 1) := by decide +kernel
theorem d1_18 : decode prog_2_method_2_code 18 = .ok (.imul, 1) := by decide +kernel
theorem d1_19 : decode prog_2_method_2_code 19 = .ok (.getstatic 7, 3) := by decide +kernel
theorem d1_22 : decode prog_2_method_2_code 22 = .ok (.aload_n 0, 1) := by decide +kernel
theorem d1_23 : decode prog_2_method_2_code 23 = .ok (.iload_n 2, 1) := by decide +kernel
theorem d1_24 : decode prog_2_method_2_code 24 = .ok (.baload, 1) := by decide +kernel
theorem d1_25 : decode prog_2_method_2_code 25 = .ok (.iconst 4, 1) := by decide +kernel
theorem d1_26 : decode prog_2_method_2_code 26 = .ok (.ishr, 1) := by decide +kernel
theorem d1_27 : decode prog_2_method_2_code 27 = .ok (.bipush 15, 2) := by decide +kernel
theorem d1_29 : decode prog_2_method_2_code 29 = .ok (.iand, 1) := by decide +kernel
theorem d1_30 : decode prog_2_method_2_code 30 = .ok (.caload, 1) := by decide +kernel
theorem d1_31 : decode prog_2_method_2_code 31 = .ok (.castore, 1) := by decide +kernel
theorem d1_32 : decode prog_2_method_2_code 32 = .ok (.aload_n 1, 1) := by decide +kernel
theorem d1_33 : decode prog_2_method_2_code 33 = .ok (.iconst 2, 1) := by decide +kernel
theorem d1_34 : decode prog_2_method_2_code 34 = .ok (.iload_n 2, 1) := by decide +kernel
theorem d1_35 : decode prog_2_method_2_code 35 = .ok (.imul, 1) := by decide +kernel
theorem d1_36 : decode prog_2_method_2_code 36 = .ok (.iconst 1, 1) := by decide +kernel
theorem d1_37 : decode prog_2_method_2_code 37 = .ok (.iadd, 1) := by decide +kernel
theorem d1_38 : decode prog_2_method_2_code 38 = .ok (.getstatic 7, 3) := by decide +kernel
theorem d1_41 : decode prog_2_method_2_code 41 = .ok (.aload_n 0, 1) := by decide +kernel
theorem d1_42 : decode prog_2_method_2_code 42 = .ok (.iload_n 2, 1) := by decide +kernel
theorem d1_43 : decode prog_2_method_2_code 43 = .ok (.baload, 1) := by decide +kernel
theorem d1_44 : decode prog_2_method_2_code 44 = .ok (.bipush 15, 2) := by decide +kernel
theorem d1_46 : decode prog_2_method_2_code 46 = .ok (.iand, 1) := by decide +kernel
theorem d1_47 : decode prog_2_method_2_code 47 = .ok (.caload, 1) := by decide +kernel
theorem d1_48 : decode prog_2_method_2_code 48 = .ok (.castore, 1) := by decide +kernel
theorem d1_49 : decode prog_2_method_2_code 49 = .ok (.iinc 2 1, 3) := by decide +kernel
theorem d1_52 : decode prog_2_method_2_code 52 = .ok (.goto (-43), 3) := by decide +kernel
theorem ef_rm1_1 (m : MethodId) (x0 : Addr) : entryFrame m #[(.ref x0)] 3 = mkF m 0 #[.val (.ref x0), .unset, .unset] [] := by first | (simp [entryFrame, mkF, argsToLocals, Value.category]; done) | rfl
def Q_rm1_1 (Z : State) (a : Addr) (ka : ClassId) (y0 : Int32) (da : Addr) (cl : Cell) (cz : Int32) (fm : Value) (h0 : Heap) (n0 : Nat) (v : Option Value) (h : Heap) (L : List Loc) : Prop := ∃ r t kb, v = some (.ref r) ∧ Fr n0 L ∧ Keep h0 h [] ∧ Exa Z h r "java/lang/String" ∧ Fld Z h r "java/lang/String" "coder" "B" (.int 0) ∧ Fld Z h r "java/lang/String" "value" "[B" (.ref t) ∧ Arv Z h t kb .byte (2 : Int32) ((([(own_hexd ((y0 >>> ((4 : Int32) &&& 31)) &&& (15 : Int32))), (own_hexd (y0 &&& (15 : Int32)))] : List Int32).map (fun c => c.toInt8.toInt32)).map Value.int) (.int 0)
set_option maxRecDepth 65536 in
set_option maxHeartbeats 40000000 in
theorem rm1_1 (l : Launch) (Z : State) (a0 : Array Value) (hw : ∀ d ∈ tables_1, d.before a0 Z = true) (ws : List Jvm.Cond) (a : Addr) (ka : ClassId) (y0 : Int32) (da : Addr) (cl : Cell) (cz : Int32) (fm : Value) (h0 : Heap) (n0 : Nat) (Z0 : n0 ≤ h0.size) (Va : Arv Z h0 a ka .byte (1 : Int32) [(.int y0)] (.int (0 : Int32))) (SDG : Sta Z h0 "com/example/wireform/wireform/Hex" "DIGITS" "[C" (.ref da)) (ADG : Arr Z h0 da cl .char) (hsz : cl.slots.size = 16) (hel : ∀ j : Int32, ¬ (j < 0 ∨ cl.slots.size ≤ j.toNatClampNeg) → cl.slots[j.toNatClampNeg]? = some (.int (own_hexd j))) (SCS : Sta Z h0 "java/lang/String" "COMPACT_STRINGS" "Z" (.int cz)) (hcz : ¬ cz = 0) (SFM : Sta Z h0 "jdk/internal/util/Preconditions" "SIOOBE_FORMATTER" "Ljava/util/function/BiFunction;" fm) (hfm : fm.isRef = true) :
    MetFree l (⟨"com/example/wireform/wireform/Hex", "format", "([B)Ljava/lang/String;"⟩ : MethodName) (head1 (Jvm.Cond.code (⟨"com/example/wireform/wireform/Hex", "format", "([B)Ljava/lang/String;"⟩ : MethodName) prog_2_method_2_code 3 (some (.object "java/lang/String")) :: ws) ({ frames := 4, cells := 3, slots := 8, locals := 66 } : Room)) (fun aa_ U => aa_ = #[(.ref a)] ∧ Z.Warmed39 U.vm ∧ U.heap = h0) (fun _ _ _ _ _ => True) (fun _ U o U' => ∃ v L, o = .returned v ∧ Q_rm1_1 Z a ka y0 da cl cz fm h0 n0 v U'.heap L ∧ FrameEnd U o U' L ({ frames := 4, cells := 3, slots := 8, locals := 66 } : Room).cells ({ frames := 4, cells := 3, slots := 8, locals := 66 } : Room).slots) := by
  refine MetFree.of_bodySF (plainFor_of_name pn_2) hisR ?_
  intro p e s m args below meth c s₁ Bd hml0 hP hK
  obtain ⟨rfl, hZ, hh⟩ := hP
  have hx := Bd.exec
  have hby := Bd.bytes
  have hml : c.maxLocals = 3 := hml0
  have hown : s.vm.findClass "com/example/wireform/wireform/Hex" = some m.cls := findClass_of_methodNamed Bd.named
  have hnm := (name_of_methodNamed Bd.named Bd.method).1
  have X0 : Stand p l e ({ frames := 4, cells := 3, slots := 8, locals := 66 } : Room) s m #[(.ref a)] below meth c s₁ [] 0 0 := Stand.of_body Bd
  have e0 : s₁.heap = h0 := by rw [← hh, Bd.state]; rfl
  have N0 := Fr.nil n0
  refine Ends.cast (P := EndN s ({ frames := 4, cells := 3, slots := 8, locals := 66 } : Room) (Q_rm1_1 Z a ka y0 da cl cz fm h0 n0)) (ef_rm1_1 m a) ?_
  refine Ends.pre (T' := s₁.setTop (mkF m 1 #[.val (.ref a), .unset, .unset] [(.int (2 : Int32))])) (fun t k => XS.iconst X0.here hx rfl (hb hby d1_0) k) ?_
  refine Ends.pre (T' := s₁.setTop (mkF m 2 #[.val (.ref a), .unset, .unset] [(.ref a), (.int (2 : Int32))])) (fun t k => XS.aloadN X0.here hx rfl (hb hby d1_1) rfl rfl k) ?_
  obtain ⟨cl1, Ar1, q1, S1, N1', H1, G1⟩ := id Va
  refine Ends.pre (T' := s₁.setTop (mkF m 3 #[.val (.ref a), .unset, .unset] [(.int (1 : Int32)), (.int (2 : Int32))])) (fun t k => X0.arraylength hx (by rw [e0]; exact Ar1.1) (State.isArrayOf_alike hZ.alike Ar1.2.1) (g := (mkF m 2 #[.val (.ref a), .unset, .unset] [(.ref a), (.int (2 : Int32))])) rfl rfl (hb hby d1_2) _ (by rw [len_of S1 N1']; exact k)) ?_
  refine Ends.pre (T' := s₁.setTop (mkF m 4 #[.val (.ref a), .unset, .unset] [(.int (2 : Int32))])) (fun t k => XS.imul X0.here hx rfl (hb hby d1_3) rfl k) ?_
  obtain ⟨T2, h2, k2, X2, e2, E2, A2, st2⟩ := newP X0 hx hZ (hw _ (List.mem_of_getElem? (i := 5) rfl)) e0 (g := (mkF m 4 #[.val (.ref a), .unset, .unset] [(.int (2 : Int32))])) rfl (hb hby d1_4) rfl (by decide) (cap := 2) (by decide) (by decide) (by decide) (by decide)
  obtain ⟨b2, g2⟩ : ∃ z, z = h0.size := ⟨_, rfl⟩
  rw [← g2] at A2 st2
  have ge_b2 : n0 ≤ b2 := Nat.le_trans Z0 (Nat.le_of_eq g2.symm)
  have sz_b2 : h0.size ≤ b2 := Nat.le_trans (Keep.refl h0 []).1 (Nat.le_of_eq g2.symm)
  have K2 : Keep h0 h2 [] := (Keep.refl h0 []).ext E2
  have V2 : Arv Z h2 b2 k2 .char (2 : Int32) [(.int (0 : Int32)), (.int (0 : Int32))] (.int (0 : Int32)) := (Arv.new A2 (by decide)).pad (pad_rep [] (.int (0 : Int32)) 2)
  refine Ends.pre (T' := T2.setTop (mkF m 6 #[.val (.ref a), .unset, .unset] [(.ref b2)])) (fun t k => st2 _ k) ?_
  refine Ends.pre (T' := T2.setTop (mkF m 7 #[.val (.ref a), .val (.ref b2), .unset] [])) (fun t k => XS.astoreN (g := (mkF m 6 #[.val (.ref a), .unset, .unset] [(.ref b2)])) X2.here hx rfl (hb hby d1_6) rfl rfl (l' := #[.val (.ref a), .val (.ref b2), .unset]) rfl k) ?_
  refine Ends.pre (T' := T2.setTop (mkF m 8 #[.val (.ref a), .val (.ref b2), .unset] [(.int (0 : Int32))])) (fun t k => XS.iconst X2.here hx rfl (hb hby d1_7) k) ?_
  refine Ends.pre (T' := T2.setTop (mkF m 9 #[.val (.ref a), .val (.ref b2), .val (.int (0 : Int32))] [])) (fun t k => XS.istoreN (g := (mkF m 8 #[.val (.ref a), .val (.ref b2), .unset] [(.int (0 : Int32))])) X2.here hx rfl (hb hby d1_8) rfl (l' := #[.val (.ref a), .val (.ref b2), .val (.int (0 : Int32))]) rfl k) ?_
  refine Ends.pre (T' := T2.setTop (mkF m 10 #[.val (.ref a), .val (.ref b2), .val (.int (0 : Int32))] [(.int (0 : Int32))])) (fun t k => XS.iloadN X2.here hx rfl (hb hby d1_9) rfl k) ?_
  refine Ends.pre (T' := T2.setTop (mkF m 11 #[.val (.ref a), .val (.ref b2), .val (.int (0 : Int32))] [(.ref a), (.int (0 : Int32))])) (fun t k => XS.aloadN X2.here hx rfl (hb hby d1_10) rfl rfl k) ?_
  have F3 : Arv Z h2 a ka .byte (1 : Int32) [(.int y0)] (.int (0 : Int32)) := (Va.keep K2 nin0)
  obtain ⟨cl4, Ar4, q4, S4, N4', H4, G4⟩ := id F3
  refine Ends.pre (T' := T2.setTop (mkF m 12 #[.val (.ref a), .val (.ref b2), .val (.int (0 : Int32))] [(.int (1 : Int32)), (.int (0 : Int32))])) (fun t k => X2.arraylength hx (by rw [e2]; exact Ar4.1) (State.isArrayOf_alike hZ.alike Ar4.2.1) (g := (mkF m 11 #[.val (.ref a), .val (.ref b2), .val (.int (0 : Int32))] [(.ref a), (.int (0 : Int32))])) rfl rfl (hb hby d1_11) _ (by rw [len_of S4 N4']; exact k)) ?_
  refine Ends.pre (T' := T2.setTop (mkF m 15 #[.val (.ref a), .val (.ref b2), .val (.int (0 : Int32))] [])) (fun t k => XS.icmpNo X2.here hx rfl (hb hby d1_12) rfl (by decide) k) ?_
  refine Ends.pre (T' := T2.setTop (mkF m 16 #[.val (.ref a), .val (.ref b2), .val (.int (0 : Int32))] [(.ref b2)])) (fun t k => XS.aloadN X2.here hx rfl (hb hby d1_15) rfl rfl k) ?_
  refine Ends.pre (T' := T2.setTop (mkF m 17 #[.val (.ref a), .val (.ref b2), .val (.int (0 : Int32))] [(.int (2 : Int32)), (.ref b2)])) (fun t k => XS.iconst X2.here hx rfl (hb hby d1_16) k) ?_
  refine Ends.pre (T' := T2.setTop (mkF m 18 #[.val (.ref a), .val (.ref b2), .val (.int (0 : Int32))] [(.int (0 : Int32)), (.int (2 : Int32)), (.ref b2)])) (fun t k => XS.iloadN X2.here hx rfl (hb hby d1_17) rfl k) ?_
  refine Ends.pre (T' := T2.setTop (mkF m 19 #[.val (.ref a), .val (.ref b2), .val (.int (0 : Int32))] [(.int (0 : Int32)), (.ref b2)])) (fun t k => XS.imul X2.here hx rfl (hb hby d1_18) rfl k) ?_
  have F5 : Sta Z h2 "com/example/wireform/wireform/Hex" "DIGITS" "[C" (.ref da) := (Sta_keep0 SDG K2)
  obtain ⟨T6, X6, e6, st6⟩ := getS2 X2 hx hZ hown (host := "") (Or.inl (hw _ (List.mem_of_getElem? (i := 6) rfl))) Via.refl e2 F5 (g := (mkF m 19 #[.val (.ref a), .val (.ref b2), .val (.int (0 : Int32))] [(.int (0 : Int32)), (.ref b2)])) rfl (hb hby d1_19)
  refine Ends.pre (T' := T6.setTop (mkF m 22 #[.val (.ref a), .val (.ref b2), .val (.int (0 : Int32))] [(.ref da), (.int (0 : Int32)), (.ref b2)])) (fun t k => st6 _ k) ?_
  refine Ends.pre (T' := T6.setTop (mkF m 23 #[.val (.ref a), .val (.ref b2), .val (.int (0 : Int32))] [(.ref a), (.ref da), (.int (0 : Int32)), (.ref b2)])) (fun t k => XS.aloadN X6.here hx rfl (hb hby d1_22) rfl rfl k) ?_
  refine Ends.pre (T' := T6.setTop (mkF m 24 #[.val (.ref a), .val (.ref b2), .val (.int (0 : Int32))] [(.int (0 : Int32)), (.ref a), (.ref da), (.int (0 : Int32)), (.ref b2)])) (fun t k => XS.iloadN X6.here hx rfl (hb hby d1_23) rfl k) ?_
  obtain ⟨cl7, Ar7, q7, S7, N7', H7, G7⟩ := id F3
  have hin7 : ¬ ((0 : Int32) < 0 ∨ cl7.slots.size ≤ ((0 : Int32)).toNatClampNeg) := inb_of S7 ⟨by decide, by decide⟩
  refine Ends.pre (T' := T6.setTop (mkF m 25 #[.val (.ref a), .val (.ref b2), .val (.int (0 : Int32))] [(.int y0), (.ref da), (.int (0 : Int32)), (.ref b2)])) (fun t k => X6.baloadBytes hx (j := (0 : Int32)) (v := (.int y0)) (by rw [e6]; exact Ar7.1) (State.isArrayOf_alike hZ.alike Ar7.2.1) Ar7.2.2 hin7 (H7.at hin7 rfl) (g := (mkF m 24 #[.val (.ref a), .val (.ref b2), .val (.int (0 : Int32))] [(.int (0 : Int32)), (.ref a), (.ref da), (.int (0 : Int32)), (.ref b2)])) rfl rfl (hb hby d1_24) _ k) ?_
  refine Ends.pre (T' := T6.setTop (mkF m 26 #[.val (.ref a), .val (.ref b2), .val (.int (0 : Int32))] [(.int (4 : Int32)), (.int y0), (.ref da), (.int (0 : Int32)), (.ref b2)])) (fun t k => XS.iconst X6.here hx rfl (hb hby d1_25) k) ?_
  refine Ends.pre (T' := T6.setTop (mkF m 27 #[.val (.ref a), .val (.ref b2), .val (.int (0 : Int32))] [(.int (y0 >>> ((4 : Int32) &&& 31))), (.ref da), (.int (0 : Int32)), (.ref b2)])) (fun t k => XS.ishr X6.here hx rfl (hb hby d1_26) rfl k) ?_
  refine Ends.pre (T' := T6.setTop (mkF m 29 #[.val (.ref a), .val (.ref b2), .val (.int (0 : Int32))] [(.int (15 : Int32)), (.int (y0 >>> ((4 : Int32) &&& 31))), (.ref da), (.int (0 : Int32)), (.ref b2)])) (fun t k => XS.bipush X6.here hx rfl (hb hby d1_27) k) ?_
  refine Ends.pre (T' := T6.setTop (mkF m 30 #[.val (.ref a), .val (.ref b2), .val (.int (0 : Int32))] [(.int ((y0 >>> ((4 : Int32) &&& 31)) &&& (15 : Int32))), (.ref da), (.int (0 : Int32)), (.ref b2)])) (fun t k => XS.iand X6.here hx rfl (hb hby d1_29) rfl k) ?_
  have hin8 : ¬ (((y0 >>> ((4 : Int32) &&& 31)) &&& (15 : Int32)) < 0 ∨ cl.slots.size ≤ (((y0 >>> ((4 : Int32) &&& 31)) &&& (15 : Int32))).toNatClampNeg) := by rw [hsz]; exact own_in16 (own_and15 _)
  refine Ends.pre (T' := T6.setTop (mkF m 31 #[.val (.ref a), .val (.ref b2), .val (.int (0 : Int32))] [(.int (own_hexd ((y0 >>> ((4 : Int32) &&& 31)) &&& (15 : Int32)))), (.int (0 : Int32)), (.ref b2)])) (fun t k => X6.caload hx (j := ((y0 >>> ((4 : Int32) &&& 31)) &&& (15 : Int32))) (v := (.int (own_hexd ((y0 >>> ((4 : Int32) &&& 31)) &&& (15 : Int32))))) (by rw [e6]; exact (Arr_keep0 ADG K2).1) (State.isArrayOf_alike hZ.alike ADG.2.1) ADG.2.2 hin8 (hel _ hin8) (g := (mkF m 30 #[.val (.ref a), .val (.ref b2), .val (.int (0 : Int32))] [(.int ((y0 >>> ((4 : Int32) &&& 31)) &&& (15 : Int32))), (.ref da), (.int (0 : Int32)), (.ref b2)])) rfl rfl (hb hby d1_30) _ k) ?_
  obtain ⟨cl9, Ar9, q9, S9, N9', H9, G9⟩ := id V2
  have hin9 : ¬ ((0 : Int32) < 0 ∨ cl9.slots.size ≤ ((0 : Int32)).toNatClampNeg) := inb_of S9 ⟨by decide, by decide⟩
  obtain ⟨T9, h9, X9, e9, W9, st9⟩ := stC X6 hx hZ e6 Ar9 (j := (0 : Int32)) hin9 (g := (mkF m 31 #[.val (.ref a), .val (.ref b2), .val (.int (0 : Int32))] [(.int (own_hexd ((y0 >>> ((4 : Int32) &&& 31)) &&& (15 : Int32)))), (.int (0 : Int32)), (.ref b2)])) rfl rfl (hb hby d1_31)
  have V9 : Arv Z h9 b2 k2 .char (2 : Int32) [(.int (own_hexd ((y0 >>> ((4 : Int32) &&& 31)) &&& (15 : Int32)))), (.int (0 : Int32))] (.int (0 : Int32)) := (by have q := Arv.set Ar9 q9 S9 N9' H9 G9 (fits_nar_char _) W9 0 rfl (Nat.le_of_ble_eq_true rfl); rw [own_char (own_hexr (own_and15 _))] at q; exact q)
  have N9 := Fr.snoc X9 N0 ge_b2
  refine Ends.pre (T' := T9.setTop (mkF m 32 #[.val (.ref a), .val (.ref b2), .val (.int (0 : Int32))] [])) (fun t k => st9 _ k) ?_
  have K9 : Keep h0 h9 [] := K2.wr W9 (Or.inr sz_b2)
  refine Ends.pre (T' := T9.setTop (mkF m 33 #[.val (.ref a), .val (.ref b2), .val (.int (0 : Int32))] [(.ref b2)])) (fun t k => XS.aloadN X9.here hx rfl (hb hby d1_32) rfl rfl k) ?_
  refine Ends.pre (T' := T9.setTop (mkF m 34 #[.val (.ref a), .val (.ref b2), .val (.int (0 : Int32))] [(.int (2 : Int32)), (.ref b2)])) (fun t k => XS.iconst X9.here hx rfl (hb hby d1_33) k) ?_
  refine Ends.pre (T' := T9.setTop (mkF m 35 #[.val (.ref a), .val (.ref b2), .val (.int (0 : Int32))] [(.int (0 : Int32)), (.int (2 : Int32)), (.ref b2)])) (fun t k => XS.iloadN X9.here hx rfl (hb hby d1_34) rfl k) ?_
  refine Ends.pre (T' := T9.setTop (mkF m 36 #[.val (.ref a), .val (.ref b2), .val (.int (0 : Int32))] [(.int (0 : Int32)), (.ref b2)])) (fun t k => XS.imul X9.here hx rfl (hb hby d1_35) rfl k) ?_
  refine Ends.pre (T' := T9.setTop (mkF m 37 #[.val (.ref a), .val (.ref b2), .val (.int (0 : Int32))] [(.int (1 : Int32)), (.int (0 : Int32)), (.ref b2)])) (fun t k => XS.iconst X9.here hx rfl (hb hby d1_36) k) ?_
  refine Ends.pre (T' := T9.setTop (mkF m 38 #[.val (.ref a), .val (.ref b2), .val (.int (0 : Int32))] [(.int (1 : Int32)), (.ref b2)])) (fun t k => XS.iadd X9.here hx rfl (hb hby d1_37) rfl k) ?_
  have F10 : Sta Z h9 "com/example/wireform/wireform/Hex" "DIGITS" "[C" (.ref da) := (Sta_keep0 SDG K9)
  obtain ⟨T11, X11, e11, st11⟩ := getS2 X9 hx hZ hown (host := "") (Or.inl (hw _ (List.mem_of_getElem? (i := 6) rfl))) Via.refl e9 F10 (g := (mkF m 38 #[.val (.ref a), .val (.ref b2), .val (.int (0 : Int32))] [(.int (1 : Int32)), (.ref b2)])) rfl (hb hby d1_38)
  refine Ends.pre (T' := T11.setTop (mkF m 41 #[.val (.ref a), .val (.ref b2), .val (.int (0 : Int32))] [(.ref da), (.int (1 : Int32)), (.ref b2)])) (fun t k => st11 _ k) ?_
  refine Ends.pre (T' := T11.setTop (mkF m 42 #[.val (.ref a), .val (.ref b2), .val (.int (0 : Int32))] [(.ref a), (.ref da), (.int (1 : Int32)), (.ref b2)])) (fun t k => XS.aloadN X11.here hx rfl (hb hby d1_41) rfl rfl k) ?_
  refine Ends.pre (T' := T11.setTop (mkF m 43 #[.val (.ref a), .val (.ref b2), .val (.int (0 : Int32))] [(.int (0 : Int32)), (.ref a), (.ref da), (.int (1 : Int32)), (.ref b2)])) (fun t k => XS.iloadN X11.here hx rfl (hb hby d1_42) rfl k) ?_
  have F12 : Arv Z h9 a ka .byte (1 : Int32) [(.int y0)] (.int (0 : Int32)) := (Va.keep K9 nin0)
  obtain ⟨cl13, Ar13, q13, S13, N13', H13, G13⟩ := id F12
  have hin13 : ¬ ((0 : Int32) < 0 ∨ cl13.slots.size ≤ ((0 : Int32)).toNatClampNeg) := inb_of S13 ⟨by decide, by decide⟩
  refine Ends.pre (T' := T11.setTop (mkF m 44 #[.val (.ref a), .val (.ref b2), .val (.int (0 : Int32))] [(.int y0), (.ref da), (.int (1 : Int32)), (.ref b2)])) (fun t k => X11.baloadBytes hx (j := (0 : Int32)) (v := (.int y0)) (by rw [e11]; exact Ar13.1) (State.isArrayOf_alike hZ.alike Ar13.2.1) Ar13.2.2 hin13 (H13.at hin13 rfl) (g := (mkF m 43 #[.val (.ref a), .val (.ref b2), .val (.int (0 : Int32))] [(.int (0 : Int32)), (.ref a), (.ref da), (.int (1 : Int32)), (.ref b2)])) rfl rfl (hb hby d1_43) _ k) ?_
  refine Ends.pre (T' := T11.setTop (mkF m 46 #[.val (.ref a), .val (.ref b2), .val (.int (0 : Int32))] [(.int (15 : Int32)), (.int y0), (.ref da), (.int (1 : Int32)), (.ref b2)])) (fun t k => XS.bipush X11.here hx rfl (hb hby d1_44) k) ?_
  refine Ends.pre (T' := T11.setTop (mkF m 47 #[.val (.ref a), .val (.ref b2), .val (.int (0 : Int32))] [(.int (y0 &&& (15 : Int32))), (.ref da), (.int (1 : Int32)), (.ref b2)])) (fun t k => XS.iand X11.here hx rfl (hb hby d1_46) rfl k) ?_
  have hin14 : ¬ ((y0 &&& (15 : Int32)) < 0 ∨ cl.slots.size ≤ ((y0 &&& (15 : Int32))).toNatClampNeg) := by rw [hsz]; exact own_in16 (own_and15 _)
  refine Ends.pre (T' := T11.setTop (mkF m 48 #[.val (.ref a), .val (.ref b2), .val (.int (0 : Int32))] [(.int (own_hexd (y0 &&& (15 : Int32)))), (.int (1 : Int32)), (.ref b2)])) (fun t k => X11.caload hx (j := (y0 &&& (15 : Int32))) (v := (.int (own_hexd (y0 &&& (15 : Int32))))) (by rw [e11]; exact (Arr_keep0 ADG K9).1) (State.isArrayOf_alike hZ.alike ADG.2.1) ADG.2.2 hin14 (hel _ hin14) (g := (mkF m 47 #[.val (.ref a), .val (.ref b2), .val (.int (0 : Int32))] [(.int (y0 &&& (15 : Int32))), (.ref da), (.int (1 : Int32)), (.ref b2)])) rfl rfl (hb hby d1_47) _ k) ?_
  obtain ⟨cl15, Ar15, q15, S15, N15', H15, G15⟩ := id V9
  have hin15 : ¬ ((1 : Int32) < 0 ∨ cl15.slots.size ≤ ((1 : Int32)).toNatClampNeg) := inb_of S15 ⟨by decide, by decide⟩
  obtain ⟨T15, h15, X15, e15, W15, st15⟩ := stC X11 hx hZ e11 Ar15 (j := (1 : Int32)) hin15 (g := (mkF m 48 #[.val (.ref a), .val (.ref b2), .val (.int (0 : Int32))] [(.int (own_hexd (y0 &&& (15 : Int32)))), (.int (1 : Int32)), (.ref b2)])) rfl rfl (hb hby d1_48)
  have V15 : Arv Z h15 b2 k2 .char (2 : Int32) [(.int (own_hexd ((y0 >>> ((4 : Int32) &&& 31)) &&& (15 : Int32)))), (.int (own_hexd (y0 &&& (15 : Int32))))] (.int (0 : Int32)) := (by have q := Arv.set Ar15 q15 S15 N15' H15 G15 (fits_nar_char _) W15 1 rfl (Nat.le_of_ble_eq_true rfl); rw [own_char (own_hexr (own_and15 _))] at q; exact q)
  have N15 := Fr.snoc X15 N9 ge_b2
  refine Ends.pre (T' := T15.setTop (mkF m 49 #[.val (.ref a), .val (.ref b2), .val (.int (0 : Int32))] [])) (fun t k => st15 _ k) ?_
  have K15 : Keep h0 h15 [] := K9.wr W15 (Or.inr sz_b2)
  refine Ends.pre (T' := T15.setTop (mkF m 52 #[.val (.ref a), .val (.ref b2), .val (.int (1 : Int32))] [])) (fun t k => XS.iinc (g := (mkF m 49 #[.val (.ref a), .val (.ref b2), .val (.int (0 : Int32))] [])) X15.here hx rfl (hb hby d1_49) rfl (l' := #[.val (.ref a), .val (.ref b2), .val (.int (1 : Int32))]) rfl k) ?_
  refine Ends.pre (T' := T15.setTop (mkF m 9 #[.val (.ref a), .val (.ref b2), .val (.int (1 : Int32))] [])) (fun t k => XS.goto X15.here hx rfl (pc0 := 52) (pc' := 9) rfl (hb hby d1_52) (by decide) (by decide) k) ?_
  refine Ends.pre (T' := T15.setTop (mkF m 10 #[.val (.ref a), .val (.ref b2), .val (.int (1 : Int32))] [(.int (1 : Int32))])) (fun t k => XS.iloadN X15.here hx rfl (hb hby d1_9) rfl k) ?_
  refine Ends.pre (T' := T15.setTop (mkF m 11 #[.val (.ref a), .val (.ref b2), .val (.int (1 : Int32))] [(.ref a), (.int (1 : Int32))])) (fun t k => XS.aloadN X15.here hx rfl (hb hby d1_10) rfl rfl k) ?_
  have F16 : Arv Z h15 a ka .byte (1 : Int32) [(.int y0)] (.int (0 : Int32)) := (Va.keep K15 nin0)
  obtain ⟨cl17, Ar17, q17, S17, N17', H17, G17⟩ := id F16
  refine Ends.pre (T' := T15.setTop (mkF m 12 #[.val (.ref a), .val (.ref b2), .val (.int (1 : Int32))] [(.int (1 : Int32)), (.int (1 : Int32))])) (fun t k => X15.arraylength hx (by rw [e15]; exact Ar17.1) (State.isArrayOf_alike hZ.alike Ar17.2.1) (g := (mkF m 11 #[.val (.ref a), .val (.ref b2), .val (.int (1 : Int32))] [(.ref a), (.int (1 : Int32))])) rfl rfl (hb hby d1_11) _ (by rw [len_of S17 N17']; exact k)) ?_
  refine Ends.pre (T' := T15.setTop (mkF m 55 #[.val (.ref a), .val (.ref b2), .val (.int (1 : Int32))] [])) (fun t k => XS.icmpYes X15.here hx rfl (pc0 := 12) (pc' := 55) rfl (hb hby d1_12) rfl (by decide) (by decide) (by decide) k) ?_
  obtain ⟨T18, h18, X18, e18, E18, A18, D18, -, st18⟩ := newO X15 hx hZ hown (hw _ (List.mem_of_getElem? (i := 8) rfl)) (hw _ (List.mem_of_getElem? (i := 9) rfl)) (hw _ (List.mem_of_getElem? (i := 10) rfl)) e15 (g := (mkF m 55 #[.val (.ref a), .val (.ref b2), .val (.int (1 : Int32))] [])) rfl (hb hby d1_55) (by decide) (by decide)
  obtain ⟨b18, g18⟩ : ∃ z, z = h15.size := ⟨_, rfl⟩
  rw [← g18] at A18 D18 st18
  have ge_b18 : n0 ≤ b18 := Nat.le_trans (Nat.le_trans (Nat.le_trans (Nat.le_trans Z0 E2.1) (Keep.of_wr W9).1) (Keep.of_wr W15).1) (Nat.le_of_eq g18.symm)
  have sz_b18 : h0.size ≤ b18 := Nat.le_trans K15.1 (Nat.le_of_eq g18.symm)
  have K18 : Keep h0 h18 [] := K15.ext E18
  have Fd18_coder : Fld Z h18 b18 "java/lang/String" "coder" "B" (.int (0 : Int32)) := D18 (Or.inr (hw _ (List.mem_of_getElem? (i := 33) rfl))) (ty := .byte) (by decide)
  have Fd18_value : Fld Z h18 b18 "java/lang/String" "value" "[B" .null := D18 (Or.inr (hw _ (List.mem_of_getElem? (i := 35) rfl))) (ty := (.array .byte)) (by decide)
  refine Ends.pre (T' := T18.setTop (mkF m 58 #[.val (.ref a), .val (.ref b2), .val (.int (1 : Int32))] [(.ref b18)])) (fun t k => st18 _ k) ?_
  refine Ends.pre (T' := T18.setTop (mkF m 59 #[.val (.ref a), .val (.ref b2), .val (.int (1 : Int32))] [(.ref b18), (.ref b18)])) (fun t k => XS.dup X18.here hx rfl (hb hby d1_58) rfl rfl k) ?_
  refine Ends.pre (T' := T18.setTop (mkF m 60 #[.val (.ref a), .val (.ref b2), .val (.int (1 : Int32))] [(.ref b2), (.ref b18), (.ref b18)])) (fun t k => XS.aloadN X18.here hx rfl (hb hby d1_59) rfl rfl k) ?_
  have hp19 : ∀ c ∈ ([(own_hexd ((y0 >>> ((4 : Int32) &&& 31)) &&& (15 : Int32))), (own_hexd (y0 &&& (15 : Int32)))] : List Int32), ¬ c < 0 ∧ ¬ (255 : Int32) < c := (own_alS (own_hexr (own_and15 _)) (own_alS (own_hexr (own_and15 _)) own_al0))
  have hbd19 := own_up _ hp19
  have F20 : Arv Z h18 b2 k2 .char (2 : Int32) [(.int (own_hexd ((y0 >>> ((4 : Int32) &&& 31)) &&& (15 : Int32)))), (.int (own_hexd (y0 &&& (15 : Int32))))] (.int (0 : Int32)) := (Arv.ext V15 E18)
  have F21 : Sta Z h18 "java/lang/String" "COMPACT_STRINGS" "Z" (.int cz) := (Sta_keep0 SCS K18)
  obtain ⟨_, _, ⟨T22, L22, k22, n22⟩, -, X22, ⟨Lc22, hQ22, l22, y22, z22⟩, st22⟩ := X18.specialBack hx (y := (⟨"java/lang/String", "<init>", "([C)V"⟩ : MethodName)) rfl hown (mvT hZ (hw _ (List.mem_of_getElem? (i := 11) rfl))) (mvT hZ (hw _ (List.mem_of_getElem? (i := 12) rfl))) (mvT hZ (hw _ (List.mem_of_getElem? (i := 13) rfl))) (by decide) (StrChars.Road.backV (W := 1) hZ (own_hws hw) (kI := 4) (hw _ (List.mem_of_getElem? (i := 9) rfl)) (cs := ([(own_hexd ((y0 >>> ((4 : Int32) &&& 31)) &&& (15 : Int32))), (own_hexd (y0 &&& (15 : Int32)))] : List Int32)) (bs := (([(own_hexd ((y0 >>> ((4 : Int32) &&& 31)) &&& (15 : Int32))), (own_hexd (y0 &&& (15 : Int32)))] : List Int32).map (fun c => c.toInt8.toInt32))) (n := 2) ge_b18 (Nat.le_trans (Nat.le_trans (Nat.le_trans (Nat.le_trans Z0 E2.1) (Keep.of_wr W9).1) (Keep.of_wr W15).1) E18.1) A18 Fd18_value Fd18_coder F20 F21 hcz rfl rfl (by decide) (by decide) hp19 rfl (by decide) (by decide)) (g := (mkF m 60 #[.val (.ref a), .val (.ref b2), .val (.int (1 : Int32))] [(.ref b2), (.ref b18), (.ref b18)])) rfl (by rw [hml]; rfl) (Steps.refl _) (a := b18) (argsL := [(.ref b2)]) (rest := [(.ref b18)]) (lenOf pd_2 rfl) rfl (by show 2 * 0 + _ ≤ _; exact Nat.le_of_eq rfl) (hb hby d1_60) (fun _ _ => ⟨rfl, e18, (by decide : 2 + 1 ≤ _), (by decide : 6 + 2 ≤ _)⟩)
  dsimp only [Pt.U, Pt.locs, Pt.cells, Pt.slots] at X22 l22 y22 z22 st22 hQ22
  subst l22 y22 z22
  obtain ⟨rfl, N22q, Kc22, Es22, Cs22, t22, kb22, gt22, ft22, nt22, Vs22, As22⟩ := hQ22
  have N22 := Fr.app N15 N22q
  have K22 : Keep h0 T22.heap [] := K18.trans Kc22 (allS (Or.inr sz_b18) all0)
  have hcd22 : StrChars.Road.CodA ([(own_hexd ((y0 >>> ((4 : Int32) &&& 31)) &&& (15 : Int32))), (own_hexd (y0 &&& (15 : Int32)))] : List Int32) 0 (2 : Int32) ((([(own_hexd ((y0 >>> ((4 : Int32) &&& 31)) &&& (15 : Int32))), (own_hexd (y0 &&& (15 : Int32)))] : List Int32).map (fun c => c.toInt8.toInt32)).map Value.int) := StrChars.Road.codOf (n := 2) rfl (fun c hc => (hp19 c hc).2)
  refine Ends.pre (T' := T22.setTop (mkF m 63 #[.val (.ref a), .val (.ref b2), .val (.int (1 : Int32))] [(.ref b18)])) (fun t k => st22.trans k) ?_
  exact Ends.ret (w := (.ref b18)) X22 hx Bd.notSynchronized Bd.returns rfl (Or.inr (Or.inr (Or.inr (Or.inr ⟨rfl, rfl, rfl⟩)))) (hb hby d1_63) rfl ⟨_, _, _, rfl, N22, K22, Es22, Cs22, Vs22, As22⟩ (by decide) (by decide)
theorem ef_rm1_2 (m : MethodId) (x0 : Addr) : entryFrame m #[(.ref x0)] 3 = mkF m 0 #[.val (.ref x0), .unset, .unset] [] := by first | (simp [entryFrame, mkF, argsToLocals, Value.category]; done) | rfl
def Q_rm1_2 (Z : State) (a : Addr) (ka : ClassId) (y0 : Int32) (y1 : Int32) (da : Addr) (cl : Cell) (cz : Int32) (fm : Value) (h0 : Heap) (n0 : Nat) (v : Option Value) (h : Heap) (L : List Loc) : Prop := ∃ r t kb, v = some (.ref r) ∧ Fr n0 L ∧ Keep h0 h [] ∧ Exa Z h r "java/lang/String" ∧ Fld Z h r "java/lang/String" "coder" "B" (.int 0) ∧ Fld Z h r "java/lang/String" "value" "[B" (.ref t) ∧ Arv Z h t kb .byte (4 : Int32) ((([(own_hexd ((y0 >>> ((4 : Int32) &&& 31)) &&& (15 : Int32))), (own_hexd (y0 &&& (15 : Int32))), (own_hexd ((y1 >>> ((4 : Int32) &&& 31)) &&& (15 : Int32))), (own_hexd (y1 &&& (15 : Int32)))] : List Int32).map (fun c => c.toInt8.toInt32)).map Value.int) (.int 0)
set_option maxRecDepth 65536 in
set_option maxHeartbeats 40000000 in
theorem rm1_2 (l : Launch) (Z : State) (a0 : Array Value) (hw : ∀ d ∈ tables_1, d.before a0 Z = true) (ws : List Jvm.Cond) (a : Addr) (ka : ClassId) (y0 : Int32) (y1 : Int32) (da : Addr) (cl : Cell) (cz : Int32) (fm : Value) (h0 : Heap) (n0 : Nat) (Z0 : n0 ≤ h0.size) (Va : Arv Z h0 a ka .byte (2 : Int32) [(.int y0), (.int y1)] (.int (0 : Int32))) (SDG : Sta Z h0 "com/example/wireform/wireform/Hex" "DIGITS" "[C" (.ref da)) (ADG : Arr Z h0 da cl .char) (hsz : cl.slots.size = 16) (hel : ∀ j : Int32, ¬ (j < 0 ∨ cl.slots.size ≤ j.toNatClampNeg) → cl.slots[j.toNatClampNeg]? = some (.int (own_hexd j))) (SCS : Sta Z h0 "java/lang/String" "COMPACT_STRINGS" "Z" (.int cz)) (hcz : ¬ cz = 0) (SFM : Sta Z h0 "jdk/internal/util/Preconditions" "SIOOBE_FORMATTER" "Ljava/util/function/BiFunction;" fm) (hfm : fm.isRef = true) :
    MetFree l (⟨"com/example/wireform/wireform/Hex", "format", "([B)Ljava/lang/String;"⟩ : MethodName) (head1 (Jvm.Cond.code (⟨"com/example/wireform/wireform/Hex", "format", "([B)Ljava/lang/String;"⟩ : MethodName) prog_2_method_2_code 3 (some (.object "java/lang/String")) :: ws) ({ frames := 4, cells := 3, slots := 12, locals := 66 } : Room)) (fun aa_ U => aa_ = #[(.ref a)] ∧ Z.Warmed39 U.vm ∧ U.heap = h0) (fun _ _ _ _ _ => True) (fun _ U o U' => ∃ v L, o = .returned v ∧ Q_rm1_2 Z a ka y0 y1 da cl cz fm h0 n0 v U'.heap L ∧ FrameEnd U o U' L ({ frames := 4, cells := 3, slots := 12, locals := 66 } : Room).cells ({ frames := 4, cells := 3, slots := 12, locals := 66 } : Room).slots) := by
  refine MetFree.of_bodySF (plainFor_of_name pn_2) hisR ?_
  intro p e s m args below meth c s₁ Bd hml0 hP hK
  obtain ⟨rfl, hZ, hh⟩ := hP
  have hx := Bd.exec
  have hby := Bd.bytes
  have hml : c.maxLocals = 3 := hml0
  have hown : s.vm.findClass "com/example/wireform/wireform/Hex" = some m.cls := findClass_of_methodNamed Bd.named
  have hnm := (name_of_methodNamed Bd.named Bd.method).1
  have X0 : Stand p l e ({ frames := 4, cells := 3, slots := 12, locals := 66 } : Room) s m #[(.ref a)] below meth c s₁ [] 0 0 := Stand.of_body Bd
  have e0 : s₁.heap = h0 := by rw [← hh, Bd.state]; rfl
  have N0 := Fr.nil n0
  refine Ends.cast (P := EndN s ({ frames := 4, cells := 3, slots := 12, locals := 66 } : Room) (Q_rm1_2 Z a ka y0 y1 da cl cz fm h0 n0)) (ef_rm1_2 m a) ?_
  refine Ends.pre (T' := s₁.setTop (mkF m 1 #[.val (.ref a), .unset, .unset] [(.int (2 : Int32))])) (fun t k => XS.iconst X0.here hx rfl (hb hby d1_0) k) ?_
  refine Ends.pre (T' := s₁.setTop (mkF m 2 #[.val (.ref a), .unset, .unset] [(.ref a), (.int (2 : Int32))])) (fun t k => XS.aloadN X0.here hx rfl (hb hby d1_1) rfl rfl k) ?_
  obtain ⟨cl1, Ar1, q1, S1, N1', H1, G1⟩ := id Va
  refine Ends.pre (T' := s₁.setTop (mkF m 3 #[.val (.ref a), .unset, .unset] [(.int (2 : Int32)), (.int (2 : Int32))])) (fun t k => X0.arraylength hx (by rw [e0]; exact Ar1.1) (State.isArrayOf_alike hZ.alike Ar1.2.1) (g := (mkF m 2 #[.val (.ref a), .unset, .unset] [(.ref a), (.int (2 : Int32))])) rfl rfl (hb hby d1_2) _ (by rw [len_of S1 N1']; exact k)) ?_
  refine Ends.pre (T' := s₁.setTop (mkF m 4 #[.val (.ref a), .unset, .unset] [(.int (4 : Int32))])) (fun t k => XS.imul X0.here hx rfl (hb hby d1_3) rfl k) ?_
  obtain ⟨T2, h2, k2, X2, e2, E2, A2, st2⟩ := newP X0 hx hZ (hw _ (List.mem_of_getElem? (i := 5) rfl)) e0 (g := (mkF m 4 #[.val (.ref a), .unset, .unset] [(.int (4 : Int32))])) rfl (hb hby d1_4) rfl (by decide) (cap := 4) (by decide) (by decide) (by decide) (by decide)
  obtain ⟨b2, g2⟩ : ∃ z, z = h0.size := ⟨_, rfl⟩
  rw [← g2] at A2 st2
  have ge_b2 : n0 ≤ b2 := Nat.le_trans Z0 (Nat.le_of_eq g2.symm)
  have sz_b2 : h0.size ≤ b2 := Nat.le_trans (Keep.refl h0 []).1 (Nat.le_of_eq g2.symm)
  have K2 : Keep h0 h2 [] := (Keep.refl h0 []).ext E2
  have V2 : Arv Z h2 b2 k2 .char (4 : Int32) [(.int (0 : Int32)), (.int (0 : Int32)), (.int (0 : Int32)), (.int (0 : Int32))] (.int (0 : Int32)) := (Arv.new A2 (by decide)).pad (pad_rep [] (.int (0 : Int32)) 4)
  refine Ends.pre (T' := T2.setTop (mkF m 6 #[.val (.ref a), .unset, .unset] [(.ref b2)])) (fun t k => st2 _ k) ?_
  refine Ends.pre (T' := T2.setTop (mkF m 7 #[.val (.ref a), .val (.ref b2), .unset] [])) (fun t k => XS.astoreN (g := (mkF m 6 #[.val (.ref a), .unset, .unset] [(.ref b2)])) X2.here hx rfl (hb hby d1_6) rfl rfl (l' := #[.val (.ref a), .val (.ref b2), .unset]) rfl k) ?_
  refine Ends.pre (T' := T2.setTop (mkF m 8 #[.val (.ref a), .val (.ref b2), .unset] [(.int (0 : Int32))])) (fun t k => XS.iconst X2.here hx rfl (hb hby d1_7) k) ?_
  refine Ends.pre (T' := T2.setTop (mkF m 9 #[.val (.ref a), .val (.ref b2), .val (.int (0 : Int32))] [])) (fun t k => XS.istoreN (g := (mkF m 8 #[.val (.ref a), .val (.ref b2), .unset] [(.int (0 : Int32))])) X2.here hx rfl (hb hby d1_8) rfl (l' := #[.val (.ref a), .val (.ref b2), .val (.int (0 : Int32))]) rfl k) ?_
  refine Ends.pre (T' := T2.setTop (mkF m 10 #[.val (.ref a), .val (.ref b2), .val (.int (0 : Int32))] [(.int (0 : Int32))])) (fun t k => XS.iloadN X2.here hx rfl (hb hby d1_9) rfl k) ?_
  refine Ends.pre (T' := T2.setTop (mkF m 11 #[.val (.ref a), .val (.ref b2), .val (.int (0 : Int32))] [(.ref a), (.int (0 : Int32))])) (fun t k => XS.aloadN X2.here hx rfl (hb hby d1_10) rfl rfl k) ?_
  have F3 : Arv Z h2 a ka .byte (2 : Int32) [(.int y0), (.int y1)] (.int (0 : Int32)) := (Va.keep K2 nin0)
  obtain ⟨cl4, Ar4, q4, S4, N4', H4, G4⟩ := id F3
  refine Ends.pre (T' := T2.setTop (mkF m 12 #[.val (.ref a), .val (.ref b2), .val (.int (0 : Int32))] [(.int (2 : Int32)), (.int (0 : Int32))])) (fun t k => X2.arraylength hx (by rw [e2]; exact Ar4.1) (State.isArrayOf_alike hZ.alike Ar4.2.1) (g := (mkF m 11 #[.val (.ref a), .val (.ref b2), .val (.int (0 : Int32))] [(.ref a), (.int (0 : Int32))])) rfl rfl (hb hby d1_11) _ (by rw [len_of S4 N4']; exact k)) ?_
  refine Ends.pre (T' := T2.setTop (mkF m 15 #[.val (.ref a), .val (.ref b2), .val (.int (0 : Int32))] [])) (fun t k => XS.icmpNo X2.here hx rfl (hb hby d1_12) rfl (by decide) k) ?_
  refine Ends.pre (T' := T2.setTop (mkF m 16 #[.val (.ref a), .val (.ref b2), .val (.int (0 : Int32))] [(.ref b2)])) (fun t k => XS.aloadN X2.here hx rfl (hb hby d1_15) rfl rfl k) ?_
  refine Ends.pre (T' := T2.setTop (mkF m 17 #[.val (.ref a), .val (.ref b2), .val (.int (0 : Int32))] [(.int (2 : Int32)), (.ref b2)])) (fun t k => XS.iconst X2.here hx rfl (hb hby d1_16) k) ?_
  refine Ends.pre (T' := T2.setTop (mkF m 18 #[.val (.ref a), .val (.ref b2), .val (.int (0 : Int32))] [(.int (0 : Int32)), (.int (2 : Int32)), (.ref b2)])) (fun t k => XS.iloadN X2.here hx rfl (hb hby d1_17) rfl k) ?_
  refine Ends.pre (T' := T2.setTop (mkF m 19 #[.val (.ref a), .val (.ref b2), .val (.int (0 : Int32))] [(.int (0 : Int32)), (.ref b2)])) (fun t k => XS.imul X2.here hx rfl (hb hby d1_18) rfl k) ?_
  have F5 : Sta Z h2 "com/example/wireform/wireform/Hex" "DIGITS" "[C" (.ref da) := (Sta_keep0 SDG K2)
  obtain ⟨T6, X6, e6, st6⟩ := getS2 X2 hx hZ hown (host := "") (Or.inl (hw _ (List.mem_of_getElem? (i := 6) rfl))) Via.refl e2 F5 (g := (mkF m 19 #[.val (.ref a), .val (.ref b2), .val (.int (0 : Int32))] [(.int (0 : Int32)), (.ref b2)])) rfl (hb hby d1_19)
  refine Ends.pre (T' := T6.setTop (mkF m 22 #[.val (.ref a), .val (.ref b2), .val (.int (0 : Int32))] [(.ref da), (.int (0 : Int32)), (.ref b2)])) (fun t k => st6 _ k) ?_
  refine Ends.pre (T' := T6.setTop (mkF m 23 #[.val (.ref a), .val (.ref b2), .val (.int (0 : Int32))] [(.ref a), (.ref da), (.int (0 : Int32)), (.ref b2)])) (fun t k => XS.aloadN X6.here hx rfl (hb hby d1_22) rfl rfl k) ?_
  refine Ends.pre (T' := T6.setTop (mkF m 24 #[.val (.ref a), .val (.ref b2), .val (.int (0 : Int32))] [(.int (0 : Int32)), (.ref a), (.ref da), (.int (0 : Int32)), (.ref b2)])) (fun t k => XS.iloadN X6.here hx rfl (hb hby d1_23) rfl k) ?_
  obtain ⟨cl7, Ar7, q7, S7, N7', H7, G7⟩ := id F3
  have hin7 : ¬ ((0 : Int32) < 0 ∨ cl7.slots.size ≤ ((0 : Int32)).toNatClampNeg) := inb_of S7 ⟨by decide, by decide⟩
  refine Ends.pre (T' := T6.setTop (mkF m 25 #[.val (.ref a), .val (.ref b2), .val (.int (0 : Int32))] [(.int y0), (.ref da), (.int (0 : Int32)), (.ref b2)])) (fun t k => X6.baloadBytes hx (j := (0 : Int32)) (v := (.int y0)) (by rw [e6]; exact Ar7.1) (State.isArrayOf_alike hZ.alike Ar7.2.1) Ar7.2.2 hin7 (H7.at hin7 rfl) (g := (mkF m 24 #[.val (.ref a), .val (.ref b2), .val (.int (0 : Int32))] [(.int (0 : Int32)), (.ref a), (.ref da), (.int (0 : Int32)), (.ref b2)])) rfl rfl (hb hby d1_24) _ k) ?_
  refine Ends.pre (T' := T6.setTop (mkF m 26 #[.val (.ref a), .val (.ref b2), .val (.int (0 : Int32))] [(.int (4 : Int32)), (.int y0), (.ref da), (.int (0 : Int32)), (.ref b2)])) (fun t k => XS.iconst X6.here hx rfl (hb hby d1_25) k) ?_
  refine Ends.pre (T' := T6.setTop (mkF m 27 #[.val (.ref a), .val (.ref b2), .val (.int (0 : Int32))] [(.int (y0 >>> ((4 : Int32) &&& 31))), (.ref da), (.int (0 : Int32)), (.ref b2)])) (fun t k => XS.ishr X6.here hx rfl (hb hby d1_26) rfl k) ?_
  refine Ends.pre (T' := T6.setTop (mkF m 29 #[.val (.ref a), .val (.ref b2), .val (.int (0 : Int32))] [(.int (15 : Int32)), (.int (y0 >>> ((4 : Int32) &&& 31))), (.ref da), (.int (0 : Int32)), (.ref b2)])) (fun t k => XS.bipush X6.here hx rfl (hb hby d1_27) k) ?_
  refine Ends.pre (T' := T6.setTop (mkF m 30 #[.val (.ref a), .val (.ref b2), .val (.int (0 : Int32))] [(.int ((y0 >>> ((4 : Int32) &&& 31)) &&& (15 : Int32))), (.ref da), (.int (0 : Int32)), (.ref b2)])) (fun t k => XS.iand X6.here hx rfl (hb hby d1_29) rfl k) ?_
  have hin8 : ¬ (((y0 >>> ((4 : Int32) &&& 31)) &&& (15 : Int32)) < 0 ∨ cl.slots.size ≤ (((y0 >>> ((4 : Int32) &&& 31)) &&& (15 : Int32))).toNatClampNeg) := by rw [hsz]; exact own_in16 (own_and15 _)
  refine Ends.pre (T' := T6.setTop (mkF m 31 #[.val (.ref a), .val (.ref b2), .val (.int (0 : Int32))] [(.int (own_hexd ((y0 >>> ((4 : Int32) &&& 31)) &&& (15 : Int32)))), (.int (0 : Int32)), (.ref b2)])) (fun t k => X6.caload hx (j := ((y0 >>> ((4 : Int32) &&& 31)) &&& (15 : Int32))) (v := (.int (own_hexd ((y0 >>> ((4 : Int32) &&& 31)) &&& (15 : Int32))))) (by rw [e6]; exact (Arr_keep0 ADG K2).1) (State.isArrayOf_alike hZ.alike ADG.2.1) ADG.2.2 hin8 (hel _ hin8) (g := (mkF m 30 #[.val (.ref a), .val (.ref b2), .val (.int (0 : Int32))] [(.int ((y0 >>> ((4 : Int32) &&& 31)) &&& (15 : Int32))), (.ref da), (.int (0 : Int32)), (.ref b2)])) rfl rfl (hb hby d1_30) _ k) ?_
  obtain ⟨cl9, Ar9, q9, S9, N9', H9, G9⟩ := id V2
  have hin9 : ¬ ((0 : Int32) < 0 ∨ cl9.slots.size ≤ ((0 : Int32)).toNatClampNeg) := inb_of S9 ⟨by decide, by decide⟩
  obtain ⟨T9, h9, X9, e9, W9, st9⟩ := stC X6 hx hZ e6 Ar9 (j := (0 : Int32)) hin9 (g := (mkF m 31 #[.val (.ref a), .val (.ref b2), .val (.int (0 : Int32))] [(.int (own_hexd ((y0 >>> ((4 : Int32) &&& 31)) &&& (15 : Int32)))), (.int (0 : Int32)), (.ref b2)])) rfl rfl (hb hby d1_31)
  have V9 : Arv Z h9 b2 k2 .char (4 : Int32) [(.int (own_hexd ((y0 >>> ((4 : Int32) &&& 31)) &&& (15 : Int32)))), (.int (0 : Int32)), (.int (0 : Int32)), (.int (0 : Int32))] (.int (0 : Int32)) := (by have q := Arv.set Ar9 q9 S9 N9' H9 G9 (fits_nar_char _) W9 0 rfl (Nat.le_of_ble_eq_true rfl); rw [own_char (own_hexr (own_and15 _))] at q; exact q)
  have N9 := Fr.snoc X9 N0 ge_b2
  refine Ends.pre (T' := T9.setTop (mkF m 32 #[.val (.ref a), .val (.ref b2), .val (.int (0 : Int32))] [])) (fun t k => st9 _ k) ?_
  have K9 : Keep h0 h9 [] := K2.wr W9 (Or.inr sz_b2)
  refine Ends.pre (T' := T9.setTop (mkF m 33 #[.val (.ref a), .val (.ref b2), .val (.int (0 : Int32))] [(.ref b2)])) (fun t k => XS.aloadN X9.here hx rfl (hb hby d1_32) rfl rfl k) ?_
  refine Ends.pre (T' := T9.setTop (mkF m 34 #[.val (.ref a), .val (.ref b2), .val (.int (0 : Int32))] [(.int (2 : Int32)), (.ref b2)])) (fun t k => XS.iconst X9.here hx rfl (hb hby d1_33) k) ?_
  refine Ends.pre (T' := T9.setTop (mkF m 35 #[.val (.ref a), .val (.ref b2), .val (.int (0 : Int32))] [(.int (0 : Int32)), (.int (2 : Int32)), (.ref b2)])) (fun t k => XS.iloadN X9.here hx rfl (hb hby d1_34) rfl k) ?_
  refine Ends.pre (T' := T9.setTop (mkF m 36 #[.val (.ref a), .val (.ref b2), .val (.int (0 : Int32))] [(.int (0 : Int32)), (.ref b2)])) (fun t k => XS.imul X9.here hx rfl (hb hby d1_35) rfl k) ?_
  refine Ends.pre (T' := T9.setTop (mkF m 37 #[.val (.ref a), .val (.ref b2), .val (.int (0 : Int32))] [(.int (1 : Int32)), (.int (0 : Int32)), (.ref b2)])) (fun t k => XS.iconst X9.here hx rfl (hb hby d1_36) k) ?_
  refine Ends.pre (T' := T9.setTop (mkF m 38 #[.val (.ref a), .val (.ref b2), .val (.int (0 : Int32))] [(.int (1 : Int32)), (.ref b2)])) (fun t k => XS.iadd X9.here hx rfl (hb hby d1_37) rfl k) ?_
  have F10 : Sta Z h9 "com/example/wireform/wireform/Hex" "DIGITS" "[C" (.ref da) := (Sta_keep0 SDG K9)
  obtain ⟨T11, X11, e11, st11⟩ := getS2 X9 hx hZ hown (host := "") (Or.inl (hw _ (List.mem_of_getElem? (i := 6) rfl))) Via.refl e9 F10 (g := (mkF m 38 #[.val (.ref a), .val (.ref b2), .val (.int (0 : Int32))] [(.int (1 : Int32)), (.ref b2)])) rfl (hb hby d1_38)
  refine Ends.pre (T' := T11.setTop (mkF m 41 #[.val (.ref a), .val (.ref b2), .val (.int (0 : Int32))] [(.ref da), (.int (1 : Int32)), (.ref b2)])) (fun t k => st11 _ k) ?_
  refine Ends.pre (T' := T11.setTop (mkF m 42 #[.val (.ref a), .val (.ref b2), .val (.int (0 : Int32))] [(.ref a), (.ref da), (.int (1 : Int32)), (.ref b2)])) (fun t k => XS.aloadN X11.here hx rfl (hb hby d1_41) rfl rfl k) ?_
  refine Ends.pre (T' := T11.setTop (mkF m 43 #[.val (.ref a), .val (.ref b2), .val (.int (0 : Int32))] [(.int (0 : Int32)), (.ref a), (.ref da), (.int (1 : Int32)), (.ref b2)])) (fun t k => XS.iloadN X11.here hx rfl (hb hby d1_42) rfl k) ?_
  have F12 : Arv Z h9 a ka .byte (2 : Int32) [(.int y0), (.int y1)] (.int (0 : Int32)) := (Va.keep K9 nin0)
  obtain ⟨cl13, Ar13, q13, S13, N13', H13, G13⟩ := id F12
  have hin13 : ¬ ((0 : Int32) < 0 ∨ cl13.slots.size ≤ ((0 : Int32)).toNatClampNeg) := inb_of S13 ⟨by decide, by decide⟩
  refine Ends.pre (T' := T11.setTop (mkF m 44 #[.val (.ref a), .val (.ref b2), .val (.int (0 : Int32))] [(.int y0), (.ref da), (.int (1 : Int32)), (.ref b2)])) (fun t k => X11.baloadBytes hx (j := (0 : Int32)) (v := (.int y0)) (by rw [e11]; exact Ar13.1) (State.isArrayOf_alike hZ.alike Ar13.2.1) Ar13.2.2 hin13 (H13.at hin13 rfl) (g := (mkF m 43 #[.val (.ref a), .val (.ref b2), .val (.int (0 : Int32))] [(.int (0 : Int32)), (.ref a), (.ref da), (.int (1 : Int32)), (.ref b2)])) rfl rfl (hb hby d1_43) _ k) ?_
  refine Ends.pre (T' := T11.setTop (mkF m 46 #[.val (.ref a), .val (.ref b2), .val (.int (0 : Int32))] [(.int (15 : Int32)), (.int y0), (.ref da), (.int (1 : Int32)), (.ref b2)])) (fun t k => XS.bipush X11.here hx rfl (hb hby d1_44) k) ?_
  refine Ends.pre (T' := T11.setTop (mkF m 47 #[.val (.ref a), .val (.ref b2), .val (.int (0 : Int32))] [(.int (y0 &&& (15 : Int32))), (.ref da), (.int (1 : Int32)), (.ref b2)])) (fun t k => XS.iand X11.here hx rfl (hb hby d1_46) rfl k) ?_
  have hin14 : ¬ ((y0 &&& (15 : Int32)) < 0 ∨ cl.slots.size ≤ ((y0 &&& (15 : Int32))).toNatClampNeg) := by rw [hsz]; exact own_in16 (own_and15 _)
  refine Ends.pre (T' := T11.setTop (mkF m 48 #[.val (.ref a), .val (.ref b2), .val (.int (0 : Int32))] [(.int (own_hexd (y0 &&& (15 : Int32)))), (.int (1 : Int32)), (.ref b2)])) (fun t k => X11.caload hx (j := (y0 &&& (15 : Int32))) (v := (.int (own_hexd (y0 &&& (15 : Int32))))) (by rw [e11]; exact (Arr_keep0 ADG K9).1) (State.isArrayOf_alike hZ.alike ADG.2.1) ADG.2.2 hin14 (hel _ hin14) (g := (mkF m 47 #[.val (.ref a), .val (.ref b2), .val (.int (0 : Int32))] [(.int (y0 &&& (15 : Int32))), (.ref da), (.int (1 : Int32)), (.ref b2)])) rfl rfl (hb hby d1_47) _ k) ?_
  obtain ⟨cl15, Ar15, q15, S15, N15', H15, G15⟩ := id V9
  have hin15 : ¬ ((1 : Int32) < 0 ∨ cl15.slots.size ≤ ((1 : Int32)).toNatClampNeg) := inb_of S15 ⟨by decide, by decide⟩
  obtain ⟨T15, h15, X15, e15, W15, st15⟩ := stC X11 hx hZ e11 Ar15 (j := (1 : Int32)) hin15 (g := (mkF m 48 #[.val (.ref a), .val (.ref b2), .val (.int (0 : Int32))] [(.int (own_hexd (y0 &&& (15 : Int32)))), (.int (1 : Int32)), (.ref b2)])) rfl rfl (hb hby d1_48)
  have V15 : Arv Z h15 b2 k2 .char (4 : Int32) [(.int (own_hexd ((y0 >>> ((4 : Int32) &&& 31)) &&& (15 : Int32)))), (.int (own_hexd (y0 &&& (15 : Int32)))), (.int (0 : Int32)), (.int (0 : Int32))] (.int (0 : Int32)) := (by have q := Arv.set Ar15 q15 S15 N15' H15 G15 (fits_nar_char _) W15 1 rfl (Nat.le_of_ble_eq_true rfl); rw [own_char (own_hexr (own_and15 _))] at q; exact q)
  have N15 := Fr.snoc X15 N9 ge_b2
  refine Ends.pre (T' := T15.setTop (mkF m 49 #[.val (.ref a), .val (.ref b2), .val (.int (0 : Int32))] [])) (fun t k => st15 _ k) ?_
  have K15 : Keep h0 h15 [] := K9.wr W15 (Or.inr sz_b2)
  refine Ends.pre (T' := T15.setTop (mkF m 52 #[.val (.ref a), .val (.ref b2), .val (.int (1 : Int32))] [])) (fun t k => XS.iinc (g := (mkF m 49 #[.val (.ref a), .val (.ref b2), .val (.int (0 : Int32))] [])) X15.here hx rfl (hb hby d1_49) rfl (l' := #[.val (.ref a), .val (.ref b2), .val (.int (1 : Int32))]) rfl k) ?_
  refine Ends.pre (T' := T15.setTop (mkF m 9 #[.val (.ref a), .val (.ref b2), .val (.int (1 : Int32))] [])) (fun t k => XS.goto X15.here hx rfl (pc0 := 52) (pc' := 9) rfl (hb hby d1_52) (by decide) (by decide) k) ?_
  refine Ends.pre (T' := T15.setTop (mkF m 10 #[.val (.ref a), .val (.ref b2), .val (.int (1 : Int32))] [(.int (1 : Int32))])) (fun t k => XS.iloadN X15.here hx rfl (hb hby d1_9) rfl k) ?_
  refine Ends.pre (T' := T15.setTop (mkF m 11 #[.val (.ref a), .val (.ref b2), .val (.int (1 : Int32))] [(.ref a), (.int (1 : Int32))])) (fun t k => XS.aloadN X15.here hx rfl (hb hby d1_10) rfl rfl k) ?_
  have F16 : Arv Z h15 a ka .byte (2 : Int32) [(.int y0), (.int y1)] (.int (0 : Int32)) := (Va.keep K15 nin0)
  obtain ⟨cl17, Ar17, q17, S17, N17', H17, G17⟩ := id F16
  refine Ends.pre (T' := T15.setTop (mkF m 12 #[.val (.ref a), .val (.ref b2), .val (.int (1 : Int32))] [(.int (2 : Int32)), (.int (1 : Int32))])) (fun t k => X15.arraylength hx (by rw [e15]; exact Ar17.1) (State.isArrayOf_alike hZ.alike Ar17.2.1) (g := (mkF m 11 #[.val (.ref a), .val (.ref b2), .val (.int (1 : Int32))] [(.ref a), (.int (1 : Int32))])) rfl rfl (hb hby d1_11) _ (by rw [len_of S17 N17']; exact k)) ?_
  refine Ends.pre (T' := T15.setTop (mkF m 15 #[.val (.ref a), .val (.ref b2), .val (.int (1 : Int32))] [])) (fun t k => XS.icmpNo X15.here hx rfl (hb hby d1_12) rfl (by decide) k) ?_
  refine Ends.pre (T' := T15.setTop (mkF m 16 #[.val (.ref a), .val (.ref b2), .val (.int (1 : Int32))] [(.ref b2)])) (fun t k => XS.aloadN X15.here hx rfl (hb hby d1_15) rfl rfl k) ?_
  refine Ends.pre (T' := T15.setTop (mkF m 17 #[.val (.ref a), .val (.ref b2), .val (.int (1 : Int32))] [(.int (2 : Int32)), (.ref b2)])) (fun t k => XS.iconst X15.here hx rfl (hb hby d1_16) k) ?_
  refine Ends.pre (T' := T15.setTop (mkF m 18 #[.val (.ref a), .val (.ref b2), .val (.int (1 : Int32))] [(.int (1 : Int32)), (.int (2 : Int32)), (.ref b2)])) (fun t k => XS.iloadN X15.here hx rfl (hb hby d1_17) rfl k) ?_
  refine Ends.pre (T' := T15.setTop (mkF m 19 #[.val (.ref a), .val (.ref b2), .val (.int (1 : Int32))] [(.int (2 : Int32)), (.ref b2)])) (fun t k => XS.imul X15.here hx rfl (hb hby d1_18) rfl k) ?_
  have F18 : Sta Z h15 "com/example/wireform/wireform/Hex" "DIGITS" "[C" (.ref da) := (Sta_keep0 SDG K15)
  obtain ⟨T19, X19, e19, st19⟩ := getS2 X15 hx hZ hown (host := "") (Or.inl (hw _ (List.mem_of_getElem? (i := 6) rfl))) Via.refl e15 F18 (g := (mkF m 19 #[.val (.ref a), .val (.ref b2), .val (.int (1 : Int32))] [(.int (2 : Int32)), (.ref b2)])) rfl (hb hby d1_19)
  refine Ends.pre (T' := T19.setTop (mkF m 22 #[.val (.ref a), .val (.ref b2), .val (.int (1 : Int32))] [(.ref da), (.int (2 : Int32)), (.ref b2)])) (fun t k => st19 _ k) ?_
  refine Ends.pre (T' := T19.setTop (mkF m 23 #[.val (.ref a), .val (.ref b2), .val (.int (1 : Int32))] [(.ref a), (.ref da), (.int (2 : Int32)), (.ref b2)])) (fun t k => XS.aloadN X19.here hx rfl (hb hby d1_22) rfl rfl k) ?_
  refine Ends.pre (T' := T19.setTop (mkF m 24 #[.val (.ref a), .val (.ref b2), .val (.int (1 : Int32))] [(.int (1 : Int32)), (.ref a), (.ref da), (.int (2 : Int32)), (.ref b2)])) (fun t k => XS.iloadN X19.here hx rfl (hb hby d1_23) rfl k) ?_
  obtain ⟨cl20, Ar20, q20, S20, N20', H20, G20⟩ := id F16
  have hin20 : ¬ ((1 : Int32) < 0 ∨ cl20.slots.size ≤ ((1 : Int32)).toNatClampNeg) := inb_of S20 ⟨by decide, by decide⟩
  refine Ends.pre (T' := T19.setTop (mkF m 25 #[.val (.ref a), .val (.ref b2), .val (.int (1 : Int32))] [(.int y1), (.ref da), (.int (2 : Int32)), (.ref b2)])) (fun t k => X19.baloadBytes hx (j := (1 : Int32)) (v := (.int y1)) (by rw [e19]; exact Ar20.1) (State.isArrayOf_alike hZ.alike Ar20.2.1) Ar20.2.2 hin20 (H20.at hin20 rfl) (g := (mkF m 24 #[.val (.ref a), .val (.ref b2), .val (.int (1 : Int32))] [(.int (1 : Int32)), (.ref a), (.ref da), (.int (2 : Int32)), (.ref b2)])) rfl rfl (hb hby d1_24) _ k) ?_
  refine Ends.pre (T' := T19.setTop (mkF m 26 #[.val (.ref a), .val (.ref b2), .val (.int (1 : Int32))] [(.int (4 : Int32)), (.int y1), (.ref da), (.int (2 : Int32)), (.ref b2)])) (fun t k => XS.iconst X19.here hx rfl (hb hby d1_25) k) ?_
  refine Ends.pre (T' := T19.setTop (mkF m 27 #[.val (.ref a), .val (.ref b2), .val (.int (1 : Int32))] [(.int (y1 >>> ((4 : Int32) &&& 31))), (.ref da), (.int (2 : Int32)), (.ref b2)])) (fun t k => XS.ishr X19.here hx rfl (hb hby d1_26) rfl k) ?_
  refine Ends.pre (T' := T19.setTop (mkF m 29 #[.val (.ref a), .val (.ref b2), .val (.int (1 : Int32))] [(.int (15 : Int32)), (.int (y1 >>> ((4 : Int32) &&& 31))), (.ref da), (.int (2 : Int32)), (.ref b2)])) (fun t k => XS.bipush X19.here hx rfl (hb hby d1_27) k) ?_
  refine Ends.pre (T' := T19.setTop (mkF m 30 #[.val (.ref a), .val (.ref b2), .val (.int (1 : Int32))] [(.int ((y1 >>> ((4 : Int32) &&& 31)) &&& (15 : Int32))), (.ref da), (.int (2 : Int32)), (.ref b2)])) (fun t k => XS.iand X19.here hx rfl (hb hby d1_29) rfl k) ?_
  have hin21 : ¬ (((y1 >>> ((4 : Int32) &&& 31)) &&& (15 : Int32)) < 0 ∨ cl.slots.size ≤ (((y1 >>> ((4 : Int32) &&& 31)) &&& (15 : Int32))).toNatClampNeg) := by rw [hsz]; exact own_in16 (own_and15 _)
  refine Ends.pre (T' := T19.setTop (mkF m 31 #[.val (.ref a), .val (.ref b2), .val (.int (1 : Int32))] [(.int (own_hexd ((y1 >>> ((4 : Int32) &&& 31)) &&& (15 : Int32)))), (.int (2 : Int32)), (.ref b2)])) (fun t k => X19.caload hx (j := ((y1 >>> ((4 : Int32) &&& 31)) &&& (15 : Int32))) (v := (.int (own_hexd ((y1 >>> ((4 : Int32) &&& 31)) &&& (15 : Int32))))) (by rw [e19]; exact (Arr_keep0 ADG K15).1) (State.isArrayOf_alike hZ.alike ADG.2.1) ADG.2.2 hin21 (hel _ hin21) (g := (mkF m 30 #[.val (.ref a), .val (.ref b2), .val (.int (1 : Int32))] [(.int ((y1 >>> ((4 : Int32) &&& 31)) &&& (15 : Int32))), (.ref da), (.int (2 : Int32)), (.ref b2)])) rfl rfl (hb hby d1_30) _ k) ?_
  obtain ⟨cl22, Ar22, q22, S22, N22', H22, G22⟩ := id V15
  have hin22 : ¬ ((2 : Int32) < 0 ∨ cl22.slots.size ≤ ((2 : Int32)).toNatClampNeg) := inb_of S22 ⟨by decide, by decide⟩
  obtain ⟨T22, h22, X22, e22, W22, st22⟩ := stC X19 hx hZ e19 Ar22 (j := (2 : Int32)) hin22 (g := (mkF m 31 #[.val (.ref a), .val (.ref b2), .val (.int (1 : Int32))] [(.int (own_hexd ((y1 >>> ((4 : Int32) &&& 31)) &&& (15 : Int32)))), (.int (2 : Int32)), (.ref b2)])) rfl rfl (hb hby d1_31)
  have V22 : Arv Z h22 b2 k2 .char (4 : Int32) [(.int (own_hexd ((y0 >>> ((4 : Int32) &&& 31)) &&& (15 : Int32)))), (.int (own_hexd (y0 &&& (15 : Int32)))), (.int (own_hexd ((y1 >>> ((4 : Int32) &&& 31)) &&& (15 : Int32)))), (.int (0 : Int32))] (.int (0 : Int32)) := (by have q := Arv.set Ar22 q22 S22 N22' H22 G22 (fits_nar_char _) W22 2 rfl (Nat.le_of_ble_eq_true rfl); rw [own_char (own_hexr (own_and15 _))] at q; exact q)
  have N22 := Fr.snoc X22 N15 ge_b2
  refine Ends.pre (T' := T22.setTop (mkF m 32 #[.val (.ref a), .val (.ref b2), .val (.int (1 : Int32))] [])) (fun t k => st22 _ k) ?_
  have K22 : Keep h0 h22 [] := K15.wr W22 (Or.inr sz_b2)
  refine Ends.pre (T' := T22.setTop (mkF m 33 #[.val (.ref a), .val (.ref b2), .val (.int (1 : Int32))] [(.ref b2)])) (fun t k => XS.aloadN X22.here hx rfl (hb hby d1_32) rfl rfl k) ?_
  refine Ends.pre (T' := T22.setTop (mkF m 34 #[.val (.ref a), .val (.ref b2), .val (.int (1 : Int32))] [(.int (2 : Int32)), (.ref b2)])) (fun t k => XS.iconst X22.here hx rfl (hb hby d1_33) k) ?_
  refine Ends.pre (T' := T22.setTop (mkF m 35 #[.val (.ref a), .val (.ref b2), .val (.int (1 : Int32))] [(.int (1 : Int32)), (.int (2 : Int32)), (.ref b2)])) (fun t k => XS.iloadN X22.here hx rfl (hb hby d1_34) rfl k) ?_
  refine Ends.pre (T' := T22.setTop (mkF m 36 #[.val (.ref a), .val (.ref b2), .val (.int (1 : Int32))] [(.int (2 : Int32)), (.ref b2)])) (fun t k => XS.imul X22.here hx rfl (hb hby d1_35) rfl k) ?_
  refine Ends.pre (T' := T22.setTop (mkF m 37 #[.val (.ref a), .val (.ref b2), .val (.int (1 : Int32))] [(.int (1 : Int32)), (.int (2 : Int32)), (.ref b2)])) (fun t k => XS.iconst X22.here hx rfl (hb hby d1_36) k) ?_
  refine Ends.pre (T' := T22.setTop (mkF m 38 #[.val (.ref a), .val (.ref b2), .val (.int (1 : Int32))] [(.int (3 : Int32)), (.ref b2)])) (fun t k => XS.iadd X22.here hx rfl (hb hby d1_37) rfl k) ?_
  have F23 : Sta Z h22 "com/example/wireform/wireform/Hex" "DIGITS" "[C" (.ref da) := (Sta_keep0 SDG K22)
  obtain ⟨T24, X24, e24, st24⟩ := getS2 X22 hx hZ hown (host := "") (Or.inl (hw _ (List.mem_of_getElem? (i := 6) rfl))) Via.refl e22 F23 (g := (mkF m 38 #[.val (.ref a), .val (.ref b2), .val (.int (1 : Int32))] [(.int (3 : Int32)), (.ref b2)])) rfl (hb hby d1_38)
  refine Ends.pre (T' := T24.setTop (mkF m 41 #[.val (.ref a), .val (.ref b2), .val (.int (1 : Int32))] [(.ref da), (.int (3 : Int32)), (.ref b2)])) (fun t k => st24 _ k) ?_
  refine Ends.pre (T' := T24.setTop (mkF m 42 #[.val (.ref a), .val (.ref b2), .val (.int (1 : Int32))] [(.ref a), (.ref da), (.int (3 : Int32)), (.ref b2)])) (fun t k => XS.aloadN X24.here hx rfl (hb hby d1_41) rfl rfl k) ?_
  refine Ends.pre (T' := T24.setTop (mkF m 43 #[.val (.ref a), .val (.ref b2), .val (.int (1 : Int32))] [(.int (1 : Int32)), (.ref a), (.ref da), (.int (3 : Int32)), (.ref b2)])) (fun t k => XS.iloadN X24.here hx rfl (hb hby d1_42) rfl k) ?_
  have F25 : Arv Z h22 a ka .byte (2 : Int32) [(.int y0), (.int y1)] (.int (0 : Int32)) := (Va.keep K22 nin0)
  obtain ⟨cl26, Ar26, q26, S26, N26', H26, G26⟩ := id F25
  have hin26 : ¬ ((1 : Int32) < 0 ∨ cl26.slots.size ≤ ((1 : Int32)).toNatClampNeg) := inb_of S26 ⟨by decide, by decide⟩
  refine Ends.pre (T' := T24.setTop (mkF m 44 #[.val (.ref a), .val (.ref b2), .val (.int (1 : Int32))] [(.int y1), (.ref da), (.int (3 : Int32)), (.ref b2)])) (fun t k => X24.baloadBytes hx (j := (1 : Int32)) (v := (.int y1)) (by rw [e24]; exact Ar26.1) (State.isArrayOf_alike hZ.alike Ar26.2.1) Ar26.2.2 hin26 (H26.at hin26 rfl) (g := (mkF m 43 #[.val (.ref a), .val (.ref b2), .val (.int (1 : Int32))] [(.int (1 : Int32)), (.ref a), (.ref da), (.int (3 : Int32)), (.ref b2)])) rfl rfl (hb hby d1_43) _ k) ?_
  refine Ends.pre (T' := T24.setTop (mkF m 46 #[.val (.ref a), .val (.ref b2), .val (.int (1 : Int32))] [(.int (15 : Int32)), (.int y1), (.ref da), (.int (3 : Int32)), (.ref b2)])) (fun t k => XS.bipush X24.here hx rfl (hb hby d1_44) k) ?_
  refine Ends.pre (T' := T24.setTop (mkF m 47 #[.val (.ref a), .val (.ref b2), .val (.int (1 : Int32))] [(.int (y1 &&& (15 : Int32))), (.ref da), (.int (3 : Int32)), (.ref b2)])) (fun t k => XS.iand X24.here hx rfl (hb hby d1_46) rfl k) ?_
  have hin27 : ¬ ((y1 &&& (15 : Int32)) < 0 ∨ cl.slots.size ≤ ((y1 &&& (15 : Int32))).toNatClampNeg) := by rw [hsz]; exact own_in16 (own_and15 _)
  refine Ends.pre (T' := T24.setTop (mkF m 48 #[.val (.ref a), .val (.ref b2), .val (.int (1 : Int32))] [(.int (own_hexd (y1 &&& (15 : Int32)))), (.int (3 : Int32)), (.ref b2)])) (fun t k => X24.caload hx (j := (y1 &&& (15 : Int32))) (v := (.int (own_hexd (y1 &&& (15 : Int32))))) (by rw [e24]; exact (Arr_keep0 ADG K22).1) (State.isArrayOf_alike hZ.alike ADG.2.1) ADG.2.2 hin27 (hel _ hin27) (g := (mkF m 47 #[.val (.ref a), .val (.ref b2), .val (.int (1 : Int32))] [(.int (y1 &&& (15 : Int32))), (.ref da), (.int (3 : Int32)), (.ref b2)])) rfl rfl (hb hby d1_47) _ k) ?_
  obtain ⟨cl28, Ar28, q28, S28, N28', H28, G28⟩ := id V22
  have hin28 : ¬ ((3 : Int32) < 0 ∨ cl28.slots.size ≤ ((3 : Int32)).toNatClampNeg) := inb_of S28 ⟨by decide, by decide⟩
  obtain ⟨T28, h28, X28, e28, W28, st28⟩ := stC X24 hx hZ e24 Ar28 (j := (3 : Int32)) hin28 (g := (mkF m 48 #[.val (.ref a), .val (.ref b2), .val (.int (1 : Int32))] [(.int (own_hexd (y1 &&& (15 : Int32)))), (.int (3 : Int32)), (.ref b2)])) rfl rfl (hb hby d1_48)
  have V28 : Arv Z h28 b2 k2 .char (4 : Int32) [(.int (own_hexd ((y0 >>> ((4 : Int32) &&& 31)) &&& (15 : Int32)))), (.int (own_hexd (y0 &&& (15 : Int32)))), (.int (own_hexd ((y1 >>> ((4 : Int32) &&& 31)) &&& (15 : Int32)))), (.int (own_hexd (y1 &&& (15 : Int32))))] (.int (0 : Int32)) := (by have q := Arv.set Ar28 q28 S28 N28' H28 G28 (fits_nar_char _) W28 3 rfl (Nat.le_of_ble_eq_true rfl); rw [own_char (own_hexr (own_and15 _))] at q; exact q)
  have N28 := Fr.snoc X28 N22 ge_b2
  refine Ends.pre (T' := T28.setTop (mkF m 49 #[.val (.ref a), .val (.ref b2), .val (.int (1 : Int32))] [])) (fun t k => st28 _ k) ?_
  have K28 : Keep h0 h28 [] := K22.wr W28 (Or.inr sz_b2)
  refine Ends.pre (T' := T28.setTop (mkF m 52 #[.val (.ref a), .val (.ref b2), .val (.int (2 : Int32))] [])) (fun t k => XS.iinc (g := (mkF m 49 #[.val (.ref a), .val (.ref b2), .val (.int (1 : Int32))] [])) X28.here hx rfl (hb hby d1_49) rfl (l' := #[.val (.ref a), .val (.ref b2), .val (.int (2 : Int32))]) rfl k) ?_
  refine Ends.pre (T' := T28.setTop (mkF m 9 #[.val (.ref a), .val (.ref b2), .val (.int (2 : Int32))] [])) (fun t k => XS.goto X28.here hx rfl (pc0 := 52) (pc' := 9) rfl (hb hby d1_52) (by decide) (by decide) k) ?_
  refine Ends.pre (T' := T28.setTop (mkF m 10 #[.val (.ref a), .val (.ref b2), .val (.int (2 : Int32))] [(.int (2 : Int32))])) (fun t k => XS.iloadN X28.here hx rfl (hb hby d1_9) rfl k) ?_
  refine Ends.pre (T' := T28.setTop (mkF m 11 #[.val (.ref a), .val (.ref b2), .val (.int (2 : Int32))] [(.ref a), (.int (2 : Int32))])) (fun t k => XS.aloadN X28.here hx rfl (hb hby d1_10) rfl rfl k) ?_
  have F29 : Arv Z h28 a ka .byte (2 : Int32) [(.int y0), (.int y1)] (.int (0 : Int32)) := (Va.keep K28 nin0)
  obtain ⟨cl30, Ar30, q30, S30, N30', H30, G30⟩ := id F29
  refine Ends.pre (T' := T28.setTop (mkF m 12 #[.val (.ref a), .val (.ref b2), .val (.int (2 : Int32))] [(.int (2 : Int32)), (.int (2 : Int32))])) (fun t k => X28.arraylength hx (by rw [e28]; exact Ar30.1) (State.isArrayOf_alike hZ.alike Ar30.2.1) (g := (mkF m 11 #[.val (.ref a), .val (.ref b2), .val (.int (2 : Int32))] [(.ref a), (.int (2 : Int32))])) rfl rfl (hb hby d1_11) _ (by rw [len_of S30 N30']; exact k)) ?_
  refine Ends.pre (T' := T28.setTop (mkF m 55 #[.val (.ref a), .val (.ref b2), .val (.int (2 : Int32))] [])) (fun t k => XS.icmpYes X28.here hx rfl (pc0 := 12) (pc' := 55) rfl (hb hby d1_12) rfl (by decide) (by decide) (by decide) k) ?_
  obtain ⟨T31, h31, X31, e31, E31, A31, D31, -, st31⟩ := newO X28 hx hZ hown (hw _ (List.mem_of_getElem? (i := 8) rfl)) (hw _ (List.mem_of_getElem? (i := 9) rfl)) (hw _ (List.mem_of_getElem? (i := 10) rfl)) e28 (g := (mkF m 55 #[.val (.ref a), .val (.ref b2), .val (.int (2 : Int32))] [])) rfl (hb hby d1_55) (by decide) (by decide)
  obtain ⟨b31, g31⟩ : ∃ z, z = h28.size := ⟨_, rfl⟩
  rw [← g31] at A31 D31 st31
  have ge_b31 : n0 ≤ b31 := Nat.le_trans (Nat.le_trans (Nat.le_trans (Nat.le_trans (Nat.le_trans (Nat.le_trans Z0 E2.1) (Keep.of_wr W9).1) (Keep.of_wr W15).1) (Keep.of_wr W22).1) (Keep.of_wr W28).1) (Nat.le_of_eq g31.symm)
  have sz_b31 : h0.size ≤ b31 := Nat.le_trans K28.1 (Nat.le_of_eq g31.symm)
  have K31 : Keep h0 h31 [] := K28.ext E31
  have Fd31_coder : Fld Z h31 b31 "java/lang/String" "coder" "B" (.int (0 : Int32)) := D31 (Or.inr (hw _ (List.mem_of_getElem? (i := 33) rfl))) (ty := .byte) (by decide)
  have Fd31_value : Fld Z h31 b31 "java/lang/String" "value" "[B" .null := D31 (Or.inr (hw _ (List.mem_of_getElem? (i := 35) rfl))) (ty := (.array .byte)) (by decide)
  refine Ends.pre (T' := T31.setTop (mkF m 58 #[.val (.ref a), .val (.ref b2), .val (.int (2 : Int32))] [(.ref b31)])) (fun t k => st31 _ k) ?_
  refine Ends.pre (T' := T31.setTop (mkF m 59 #[.val (.ref a), .val (.ref b2), .val (.int (2 : Int32))] [(.ref b31), (.ref b31)])) (fun t k => XS.dup X31.here hx rfl (hb hby d1_58) rfl rfl k) ?_
  refine Ends.pre (T' := T31.setTop (mkF m 60 #[.val (.ref a), .val (.ref b2), .val (.int (2 : Int32))] [(.ref b2), (.ref b31), (.ref b31)])) (fun t k => XS.aloadN X31.here hx rfl (hb hby d1_59) rfl rfl k) ?_
  have hp32 : ∀ c ∈ ([(own_hexd ((y0 >>> ((4 : Int32) &&& 31)) &&& (15 : Int32))), (own_hexd (y0 &&& (15 : Int32))), (own_hexd ((y1 >>> ((4 : Int32) &&& 31)) &&& (15 : Int32))), (own_hexd (y1 &&& (15 : Int32)))] : List Int32), ¬ c < 0 ∧ ¬ (255 : Int32) < c := (own_alS (own_hexr (own_and15 _)) (own_alS (own_hexr (own_and15 _)) (own_alS (own_hexr (own_and15 _)) (own_alS (own_hexr (own_and15 _)) own_al0))))
  have hbd32 := own_up _ hp32
  have F33 : Arv Z h31 b2 k2 .char (4 : Int32) [(.int (own_hexd ((y0 >>> ((4 : Int32) &&& 31)) &&& (15 : Int32)))), (.int (own_hexd (y0 &&& (15 : Int32)))), (.int (own_hexd ((y1 >>> ((4 : Int32) &&& 31)) &&& (15 : Int32)))), (.int (own_hexd (y1 &&& (15 : Int32))))] (.int (0 : Int32)) := (Arv.ext V28 E31)
  have F34 : Sta Z h31 "java/lang/String" "COMPACT_STRINGS" "Z" (.int cz) := (Sta_keep0 SCS K31)
  obtain ⟨_, _, ⟨T35, L35, k35, n35⟩, -, X35, ⟨Lc35, hQ35, l35, y35, z35⟩, st35⟩ := X31.specialBack hx (y := (⟨"java/lang/String", "<init>", "([C)V"⟩ : MethodName)) rfl hown (mvT hZ (hw _ (List.mem_of_getElem? (i := 11) rfl))) (mvT hZ (hw _ (List.mem_of_getElem? (i := 12) rfl))) (mvT hZ (hw _ (List.mem_of_getElem? (i := 13) rfl))) (by decide) (StrChars.Road.backV (W := 1) hZ (own_hws hw) (kI := 4) (hw _ (List.mem_of_getElem? (i := 9) rfl)) (cs := ([(own_hexd ((y0 >>> ((4 : Int32) &&& 31)) &&& (15 : Int32))), (own_hexd (y0 &&& (15 : Int32))), (own_hexd ((y1 >>> ((4 : Int32) &&& 31)) &&& (15 : Int32))), (own_hexd (y1 &&& (15 : Int32)))] : List Int32)) (bs := (([(own_hexd ((y0 >>> ((4 : Int32) &&& 31)) &&& (15 : Int32))), (own_hexd (y0 &&& (15 : Int32))), (own_hexd ((y1 >>> ((4 : Int32) &&& 31)) &&& (15 : Int32))), (own_hexd (y1 &&& (15 : Int32)))] : List Int32).map (fun c => c.toInt8.toInt32))) (n := 4) ge_b31 (Nat.le_trans (Nat.le_trans (Nat.le_trans (Nat.le_trans (Nat.le_trans (Nat.le_trans Z0 E2.1) (Keep.of_wr W9).1) (Keep.of_wr W15).1) (Keep.of_wr W22).1) (Keep.of_wr W28).1) E31.1) A31 Fd31_value Fd31_coder F33 F34 hcz rfl rfl (by decide) (by decide) hp32 rfl (by decide) (by decide)) (g := (mkF m 60 #[.val (.ref a), .val (.ref b2), .val (.int (2 : Int32))] [(.ref b2), (.ref b31), (.ref b31)])) rfl (by rw [hml]; rfl) (Steps.refl _) (a := b31) (argsL := [(.ref b2)]) (rest := [(.ref b31)]) (lenOf pd_2 rfl) rfl (by show 2 * 0 + _ ≤ _; exact Nat.le_of_eq rfl) (hb hby d1_60) (fun _ _ => ⟨rfl, e31, (by decide : 2 + 1 ≤ _), (by decide : 8 + 4 ≤ _)⟩)
  dsimp only [Pt.U, Pt.locs, Pt.cells, Pt.slots] at X35 l35 y35 z35 st35 hQ35
  subst l35 y35 z35
  obtain ⟨rfl, N35q, Kc35, Es35, Cs35, t35, kb35, gt35, ft35, nt35, Vs35, As35⟩ := hQ35
  have N35 := Fr.app N28 N35q
  have K35 : Keep h0 T35.heap [] := K31.trans Kc35 (allS (Or.inr sz_b31) all0)
  have hcd35 : StrChars.Road.CodA ([(own_hexd ((y0 >>> ((4 : Int32) &&& 31)) &&& (15 : Int32))), (own_hexd (y0 &&& (15 : Int32))), (own_hexd ((y1 >>> ((4 : Int32) &&& 31)) &&& (15 : Int32))), (own_hexd (y1 &&& (15 : Int32)))] : List Int32) 0 (4 : Int32) ((([(own_hexd ((y0 >>> ((4 : Int32) &&& 31)) &&& (15 : Int32))), (own_hexd (y0 &&& (15 : Int32))), (own_hexd ((y1 >>> ((4 : Int32) &&& 31)) &&& (15 : Int32))), (own_hexd (y1 &&& (15 : Int32)))] : List Int32).map (fun c => c.toInt8.toInt32)).map Value.int) := StrChars.Road.codOf (n := 4) rfl (fun c hc => (hp32 c hc).2)
  refine Ends.pre (T' := T35.setTop (mkF m 63 #[.val (.ref a), .val (.ref b2), .val (.int (2 : Int32))] [(.ref b31)])) (fun t k => st35.trans k) ?_
  exact Ends.ret (w := (.ref b31)) X35 hx Bd.notSynchronized Bd.returns rfl (Or.inr (Or.inr (Or.inr (Or.inr ⟨rfl, rfl, rfl⟩)))) (hb hby d1_63) rfl ⟨_, _, _, rfl, N35, K35, Es35, Cs35, Vs35, As35⟩ (by decide) (by decide)
theorem ef_rm1_3 (m : MethodId) (x0 : Addr) : entryFrame m #[(.ref x0)] 3 = mkF m 0 #[.val (.ref x0), .unset, .unset] [] := by first | (simp [entryFrame, mkF, argsToLocals, Value.category]; done) | rfl
def Q_rm1_3 (Z : State) (a : Addr) (ka : ClassId) (y0 : Int32) (y1 : Int32) (y2 : Int32) (da : Addr) (cl : Cell) (cz : Int32) (fm : Value) (h0 : Heap) (n0 : Nat) (v : Option Value) (h : Heap) (L : List Loc) : Prop := ∃ r t kb, v = some (.ref r) ∧ Fr n0 L ∧ Keep h0 h [] ∧ Exa Z h r "java/lang/String" ∧ Fld Z h r "java/lang/String" "coder" "B" (.int 0) ∧ Fld Z h r "java/lang/String" "value" "[B" (.ref t) ∧ Arv Z h t kb .byte (6 : Int32) ((([(own_hexd ((y0 >>> ((4 : Int32) &&& 31)) &&& (15 : Int32))), (own_hexd (y0 &&& (15 : Int32))), (own_hexd ((y1 >>> ((4 : Int32) &&& 31)) &&& (15 : Int32))), (own_hexd (y1 &&& (15 : Int32))), (own_hexd ((y2 >>> ((4 : Int32) &&& 31)) &&& (15 : Int32))), (own_hexd (y2 &&& (15 : Int32)))] : List Int32).map (fun c => c.toInt8.toInt32)).map Value.int) (.int 0)
set_option maxRecDepth 65536 in
set_option maxHeartbeats 40000000 in
theorem rm1_3 (l : Launch) (Z : State) (a0 : Array Value) (hw : ∀ d ∈ tables_1, d.before a0 Z = true) (ws : List Jvm.Cond) (a : Addr) (ka : ClassId) (y0 : Int32) (y1 : Int32) (y2 : Int32) (da : Addr) (cl : Cell) (cz : Int32) (fm : Value) (h0 : Heap) (n0 : Nat) (Z0 : n0 ≤ h0.size) (Va : Arv Z h0 a ka .byte (3 : Int32) [(.int y0), (.int y1), (.int y2)] (.int (0 : Int32))) (SDG : Sta Z h0 "com/example/wireform/wireform/Hex" "DIGITS" "[C" (.ref da)) (ADG : Arr Z h0 da cl .char) (hsz : cl.slots.size = 16) (hel : ∀ j : Int32, ¬ (j < 0 ∨ cl.slots.size ≤ j.toNatClampNeg) → cl.slots[j.toNatClampNeg]? = some (.int (own_hexd j))) (SCS : Sta Z h0 "java/lang/String" "COMPACT_STRINGS" "Z" (.int cz)) (hcz : ¬ cz = 0) (SFM : Sta Z h0 "jdk/internal/util/Preconditions" "SIOOBE_FORMATTER" "Ljava/util/function/BiFunction;" fm) (hfm : fm.isRef = true) :
    MetFree l (⟨"com/example/wireform/wireform/Hex", "format", "([B)Ljava/lang/String;"⟩ : MethodName) (head1 (Jvm.Cond.code (⟨"com/example/wireform/wireform/Hex", "format", "([B)Ljava/lang/String;"⟩ : MethodName) prog_2_method_2_code 3 (some (.object "java/lang/String")) :: ws) ({ frames := 4, cells := 3, slots := 16, locals := 66 } : Room)) (fun aa_ U => aa_ = #[(.ref a)] ∧ Z.Warmed39 U.vm ∧ U.heap = h0) (fun _ _ _ _ _ => True) (fun _ U o U' => ∃ v L, o = .returned v ∧ Q_rm1_3 Z a ka y0 y1 y2 da cl cz fm h0 n0 v U'.heap L ∧ FrameEnd U o U' L ({ frames := 4, cells := 3, slots := 16, locals := 66 } : Room).cells ({ frames := 4, cells := 3, slots := 16, locals := 66 } : Room).slots) := by
  refine MetFree.of_bodySF (plainFor_of_name pn_2) hisR ?_
  intro p e s m args below meth c s₁ Bd hml0 hP hK
  obtain ⟨rfl, hZ, hh⟩ := hP
  have hx := Bd.exec
  have hby := Bd.bytes
  have hml : c.maxLocals = 3 := hml0
  have hown : s.vm.findClass "com/example/wireform/wireform/Hex" = some m.cls := findClass_of_methodNamed Bd.named
  have hnm := (name_of_methodNamed Bd.named Bd.method).1
  have X0 : Stand p l e ({ frames := 4, cells := 3, slots := 16, locals := 66 } : Room) s m #[(.ref a)] below meth c s₁ [] 0 0 := Stand.of_body Bd
  have e0 : s₁.heap = h0 := by rw [← hh, Bd.state]; rfl
  have N0 := Fr.nil n0
  refine Ends.cast (P := EndN s ({ frames := 4, cells := 3, slots := 16, locals := 66 } : Room) (Q_rm1_3 Z a ka y0 y1 y2 da cl cz fm h0 n0)) (ef_rm1_3 m a) ?_
  refine Ends.pre (T' := s₁.setTop (mkF m 1 #[.val (.ref a), .unset, .unset] [(.int (2 : Int32))])) (fun t k => XS.iconst X0.here hx rfl (hb hby d1_0) k) ?_
  refine Ends.pre (T' := s₁.setTop (mkF m 2 #[.val (.ref a), .unset, .unset] [(.ref a), (.int (2 : Int32))])) (fun t k => XS.aloadN X0.here hx rfl (hb hby d1_1) rfl rfl k) ?_
  obtain ⟨cl1, Ar1, q1, S1, N1', H1, G1⟩ := id Va
  refine Ends.pre (T' := s₁.setTop (mkF m 3 #[.val (.ref a), .unset, .unset] [(.int (3 : Int32)), (.int (2 : Int32))])) (fun t k => X0.arraylength hx (by rw [e0]; exact Ar1.1) (State.isArrayOf_alike hZ.alike Ar1.2.1) (g := (mkF m 2 #[.val (.ref a), .unset, .unset] [(.ref a), (.int (2 : Int32))])) rfl rfl (hb hby d1_2) _ (by rw [len_of S1 N1']; exact k)) ?_
  refine Ends.pre (T' := s₁.setTop (mkF m 4 #[.val (.ref a), .unset, .unset] [(.int (6 : Int32))])) (fun t k => XS.imul X0.here hx rfl (hb hby d1_3) rfl k) ?_
  obtain ⟨T2, h2, k2, X2, e2, E2, A2, st2⟩ := newP X0 hx hZ (hw _ (List.mem_of_getElem? (i := 5) rfl)) e0 (g := (mkF m 4 #[.val (.ref a), .unset, .unset] [(.int (6 : Int32))])) rfl (hb hby d1_4) rfl (by decide) (cap := 6) (by decide) (by decide) (by decide) (by decide)
  obtain ⟨b2, g2⟩ : ∃ z, z = h0.size := ⟨_, rfl⟩
  rw [← g2] at A2 st2
  have ge_b2 : n0 ≤ b2 := Nat.le_trans Z0 (Nat.le_of_eq g2.symm)
  have sz_b2 : h0.size ≤ b2 := Nat.le_trans (Keep.refl h0 []).1 (Nat.le_of_eq g2.symm)
  have K2 : Keep h0 h2 [] := (Keep.refl h0 []).ext E2
  have V2 : Arv Z h2 b2 k2 .char (6 : Int32) [(.int (0 : Int32)), (.int (0 : Int32)), (.int (0 : Int32)), (.int (0 : Int32)), (.int (0 : Int32)), (.int (0 : Int32))] (.int (0 : Int32)) := (Arv.new A2 (by decide)).pad (pad_rep [] (.int (0 : Int32)) 6)
  refine Ends.pre (T' := T2.setTop (mkF m 6 #[.val (.ref a), .unset, .unset] [(.ref b2)])) (fun t k => st2 _ k) ?_
  refine Ends.pre (T' := T2.setTop (mkF m 7 #[.val (.ref a), .val (.ref b2), .unset] [])) (fun t k => XS.astoreN (g := (mkF m 6 #[.val (.ref a), .unset, .unset] [(.ref b2)])) X2.here hx rfl (hb hby d1_6) rfl rfl (l' := #[.val (.ref a), .val (.ref b2), .unset]) rfl k) ?_
  refine Ends.pre (T' := T2.setTop (mkF m 8 #[.val (.ref a), .val (.ref b2), .unset] [(.int (0 : Int32))])) (fun t k => XS.iconst X2.here hx rfl (hb hby d1_7) k) ?_
  refine Ends.pre (T' := T2.setTop (mkF m 9 #[.val (.ref a), .val (.ref b2), .val (.int (0 : Int32))] [])) (fun t k => XS.istoreN (g := (mkF m 8 #[.val (.ref a), .val (.ref b2), .unset] [(.int (0 : Int32))])) X2.here hx rfl (hb hby d1_8) rfl (l' := #[.val (.ref a), .val (.ref b2), .val (.int (0 : Int32))]) rfl k) ?_
  refine Ends.pre (T' := T2.setTop (mkF m 10 #[.val (.ref a), .val (.ref b2), .val (.int (0 : Int32))] [(.int (0 : Int32))])) (fun t k => XS.iloadN X2.here hx rfl (hb hby d1_9) rfl k) ?_
  refine Ends.pre (T' := T2.setTop (mkF m 11 #[.val (.ref a), .val (.ref b2), .val (.int (0 : Int32))] [(.ref a), (.int (0 : Int32))])) (fun t k => XS.aloadN X2.here hx rfl (hb hby d1_10) rfl rfl k) ?_
  have F3 : Arv Z h2 a ka .byte (3 : Int32) [(.int y0), (.int y1), (.int y2)] (.int (0 : Int32)) := (Va.keep K2 nin0)
  obtain ⟨cl4, Ar4, q4, S4, N4', H4, G4⟩ := id F3
  refine Ends.pre (T' := T2.setTop (mkF m 12 #[.val (.ref a), .val (.ref b2), .val (.int (0 : Int32))] [(.int (3 : Int32)), (.int (0 : Int32))])) (fun t k => X2.arraylength hx (by rw [e2]; exact Ar4.1) (State.isArrayOf_alike hZ.alike Ar4.2.1) (g := (mkF m 11 #[.val (.ref a), .val (.ref b2), .val (.int (0 : Int32))] [(.ref a), (.int (0 : Int32))])) rfl rfl (hb hby d1_11) _ (by rw [len_of S4 N4']; exact k)) ?_
  refine Ends.pre (T' := T2.setTop (mkF m 15 #[.val (.ref a), .val (.ref b2), .val (.int (0 : Int32))] [])) (fun t k => XS.icmpNo X2.here hx rfl (hb hby d1_12) rfl (by decide) k) ?_
  refine Ends.pre (T' := T2.setTop (mkF m 16 #[.val (.ref a), .val (.ref b2), .val (.int (0 : Int32))] [(.ref b2)])) (fun t k => XS.aloadN X2.here hx rfl (hb hby d1_15) rfl rfl k) ?_
  refine Ends.pre (T' := T2.setTop (mkF m 17 #[.val (.ref a), .val (.ref b2), .val (.int (0 : Int32))] [(.int (2 : Int32)), (.ref b2)])) (fun t k => XS.iconst X2.here hx rfl (hb hby d1_16) k) ?_
  refine Ends.pre (T' := T2.setTop (mkF m 18 #[.val (.ref a), .val (.ref b2), .val (.int (0 : Int32))] [(.int (0 : Int32)), (.int (2 : Int32)), (.ref b2)])) (fun t k => XS.iloadN X2.here hx rfl (hb hby d1_17) rfl k) ?_
  refine Ends.pre (T' := T2.setTop (mkF m 19 #[.val (.ref a), .val (.ref b2), .val (.int (0 : Int32))] [(.int (0 : Int32)), (.ref b2)])) (fun t k => XS.imul X2.here hx rfl (hb hby d1_18) rfl k) ?_
  have F5 : Sta Z h2 "com/example/wireform/wireform/Hex" "DIGITS" "[C" (.ref da) := (Sta_keep0 SDG K2)
  obtain ⟨T6, X6, e6, st6⟩ := getS2 X2 hx hZ hown (host := "") (Or.inl (hw _ (List.mem_of_getElem? (i := 6) rfl))) Via.refl e2 F5 (g := (mkF m 19 #[.val (.ref a), .val (.ref b2), .val (.int (0 : Int32))] [(.int (0 : Int32)), (.ref b2)])) rfl (hb hby d1_19)
  refine Ends.pre (T' := T6.setTop (mkF m 22 #[.val (.ref a), .val (.ref b2), .val (.int (0 : Int32))] [(.ref da), (.int (0 : Int32)), (.ref b2)])) (fun t k => st6 _ k) ?_
  refine Ends.pre (T' := T6.setTop (mkF m 23 #[.val (.ref a), .val (.ref b2), .val (.int (0 : Int32))] [(.ref a), (.ref da), (.int (0 : Int32)), (.ref b2)])) (fun t k => XS.aloadN X6.here hx rfl (hb hby d1_22) rfl rfl k) ?_
  refine Ends.pre (T' := T6.setTop (mkF m 24 #[.val (.ref a), .val (.ref b2), .val (.int (0 : Int32))] [(.int (0 : Int32)), (.ref a), (.ref da), (.int (0 : Int32)), (.ref b2)])) (fun t k => XS.iloadN X6.here hx rfl (hb hby d1_23) rfl k) ?_
  obtain ⟨cl7, Ar7, q7, S7, N7', H7, G7⟩ := id F3
  have hin7 : ¬ ((0 : Int32) < 0 ∨ cl7.slots.size ≤ ((0 : Int32)).toNatClampNeg) := inb_of S7 ⟨by decide, by decide⟩
  refine Ends.pre (T' := T6.setTop (mkF m 25 #[.val (.ref a), .val (.ref b2), .val (.int (0 : Int32))] [(.int y0), (.ref da), (.int (0 : Int32)), (.ref b2)])) (fun t k => X6.baloadBytes hx (j := (0 : Int32)) (v := (.int y0)) (by rw [e6]; exact Ar7.1) (State.isArrayOf_alike hZ.alike Ar7.2.1) Ar7.2.2 hin7 (H7.at hin7 rfl) (g := (mkF m 24 #[.val (.ref a), .val (.ref b2), .val (.int (0 : Int32))] [(.int (0 : Int32)), (.ref a), (.ref da), (.int (0 : Int32)), (.ref b2)])) rfl rfl (hb hby d1_24) _ k) ?_
  refine Ends.pre (T' := T6.setTop (mkF m 26 #[.val (.ref a), .val (.ref b2), .val (.int (0 : Int32))] [(.int (4 : Int32)), (.int y0), (.ref da), (.int (0 : Int32)), (.ref b2)])) (fun t k => XS.iconst X6.here hx rfl (hb hby d1_25) k) ?_
  refine Ends.pre (T' := T6.setTop (mkF m 27 #[.val (.ref a), .val (.ref b2), .val (.int (0 : Int32))] [(.int (y0 >>> ((4 : Int32) &&& 31))), (.ref da), (.int (0 : Int32)), (.ref b2)])) (fun t k => XS.ishr X6.here hx rfl (hb hby d1_26) rfl k) ?_
  refine Ends.pre (T' := T6.setTop (mkF m 29 #[.val (.ref a), .val (.ref b2), .val (.int (0 : Int32))] [(.int (15 : Int32)), (.int (y0 >>> ((4 : Int32) &&& 31))), (.ref da), (.int (0 : Int32)), (.ref b2)])) (fun t k => XS.bipush X6.here hx rfl (hb hby d1_27) k) ?_
  refine Ends.pre (T' := T6.setTop (mkF m 30 #[.val (.ref a), .val (.ref b2), .val (.int (0 : Int32))] [(.int ((y0 >>> ((4 : Int32) &&& 31)) &&& (15 : Int32))), (.ref da), (.int (0 : Int32)), (.ref b2)])) (fun t k => XS.iand X6.here hx rfl (hb hby d1_29) rfl k) ?_
  have hin8 : ¬ (((y0 >>> ((4 : Int32) &&& 31)) &&& (15 : Int32)) < 0 ∨ cl.slots.size ≤ (((y0 >>> ((4 : Int32) &&& 31)) &&& (15 : Int32))).toNatClampNeg) := by rw [hsz]; exact own_in16 (own_and15 _)
  refine Ends.pre (T' := T6.setTop (mkF m 31 #[.val (.ref a), .val (.ref b2), .val (.int (0 : Int32))] [(.int (own_hexd ((y0 >>> ((4 : Int32) &&& 31)) &&& (15 : Int32)))), (.int (0 : Int32)), (.ref b2)])) (fun t k => X6.caload hx (j := ((y0 >>> ((4 : Int32) &&& 31)) &&& (15 : Int32))) (v := (.int (own_hexd ((y0 >>> ((4 : Int32) &&& 31)) &&& (15 : Int32))))) (by rw [e6]; exact (Arr_keep0 ADG K2).1) (State.isArrayOf_alike hZ.alike ADG.2.1) ADG.2.2 hin8 (hel _ hin8) (g := (mkF m 30 #[.val (.ref a), .val (.ref b2), .val (.int (0 : Int32))] [(.int ((y0 >>> ((4 : Int32) &&& 31)) &&& (15 : Int32))), (.ref da), (.int (0 : Int32)), (.ref b2)])) rfl rfl (hb hby d1_30) _ k) ?_
  obtain ⟨cl9, Ar9, q9, S9, N9', H9, G9⟩ := id V2
  have hin9 : ¬ ((0 : Int32) < 0 ∨ cl9.slots.size ≤ ((0 : Int32)).toNatClampNeg) := inb_of S9 ⟨by decide, by decide⟩
  obtain ⟨T9, h9, X9, e9, W9, st9⟩ := stC X6 hx hZ e6 Ar9 (j := (0 : Int32)) hin9 (g := (mkF m 31 #[.val (.ref a), .val (.ref b2), .val (.int (0 : Int32))] [(.int (own_hexd ((y0 >>> ((4 : Int32) &&& 31)) &&& (15 : Int32)))), (.int (0 : Int32)), (.ref b2)])) rfl rfl (hb hby d1_31)
  have V9 : Arv Z h9 b2 k2 .char (6 : Int32) [(.int (own_hexd ((y0 >>> ((4 : Int32) &&& 31)) &&& (15 : Int32)))), (.int (0 : Int32)), (.int (0 : Int32)), (.int (0 : Int32)), (.int (0 : Int32)), (.int (0 : Int32))] (.int (0 : Int32)) := (by have q := Arv.set Ar9 q9 S9 N9' H9 G9 (fits_nar_char _) W9 0 rfl (Nat.le_of_ble_eq_true rfl); rw [own_char (own_hexr (own_and15 _))] at q; exact q)
  have N9 := Fr.snoc X9 N0 ge_b2
  refine Ends.pre (T' := T9.setTop (mkF m 32 #[.val (.ref a), .val (.ref b2), .val (.int (0 : Int32))] [])) (fun t k => st9 _ k) ?_
  have K9 : Keep h0 h9 [] := K2.wr W9 (Or.inr sz_b2)
  refine Ends.pre (T' := T9.setTop (mkF m 33 #[.val (.ref a), .val (.ref b2), .val (.int (0 : Int32))] [(.ref b2)])) (fun t k => XS.aloadN X9.here hx rfl (hb hby d1_32) rfl rfl k) ?_
  refine Ends.pre (T' := T9.setTop (mkF m 34 #[.val (.ref a), .val (.ref b2), .val (.int (0 : Int32))] [(.int (2 : Int32)), (.ref b2)])) (fun t k => XS.iconst X9.here hx rfl (hb hby d1_33) k) ?_
  refine Ends.pre (T' := T9.setTop (mkF m 35 #[.val (.ref a), .val (.ref b2), .val (.int (0 : Int32))] [(.int (0 : Int32)), (.int (2 : Int32)), (.ref b2)])) (fun t k => XS.iloadN X9.here hx rfl (hb hby d1_34) rfl k) ?_
  refine Ends.pre (T' := T9.setTop (mkF m 36 #[.val (.ref a), .val (.ref b2), .val (.int (0 : Int32))] [(.int (0 : Int32)), (.ref b2)])) (fun t k => XS.imul X9.here hx rfl (hb hby d1_35) rfl k) ?_
  refine Ends.pre (T' := T9.setTop (mkF m 37 #[.val (.ref a), .val (.ref b2), .val (.int (0 : Int32))] [(.int (1 : Int32)), (.int (0 : Int32)), (.ref b2)])) (fun t k => XS.iconst X9.here hx rfl (hb hby d1_36) k) ?_
  refine Ends.pre (T' := T9.setTop (mkF m 38 #[.val (.ref a), .val (.ref b2), .val (.int (0 : Int32))] [(.int (1 : Int32)), (.ref b2)])) (fun t k => XS.iadd X9.here hx rfl (hb hby d1_37) rfl k) ?_
  have F10 : Sta Z h9 "com/example/wireform/wireform/Hex" "DIGITS" "[C" (.ref da) := (Sta_keep0 SDG K9)
  obtain ⟨T11, X11, e11, st11⟩ := getS2 X9 hx hZ hown (host := "") (Or.inl (hw _ (List.mem_of_getElem? (i := 6) rfl))) Via.refl e9 F10 (g := (mkF m 38 #[.val (.ref a), .val (.ref b2), .val (.int (0 : Int32))] [(.int (1 : Int32)), (.ref b2)])) rfl (hb hby d1_38)
  refine Ends.pre (T' := T11.setTop (mkF m 41 #[.val (.ref a), .val (.ref b2), .val (.int (0 : Int32))] [(.ref da), (.int (1 : Int32)), (.ref b2)])) (fun t k => st11 _ k) ?_
  refine Ends.pre (T' := T11.setTop (mkF m 42 #[.val (.ref a), .val (.ref b2), .val (.int (0 : Int32))] [(.ref a), (.ref da), (.int (1 : Int32)), (.ref b2)])) (fun t k => XS.aloadN X11.here hx rfl (hb hby d1_41) rfl rfl k) ?_
  refine Ends.pre (T' := T11.setTop (mkF m 43 #[.val (.ref a), .val (.ref b2), .val (.int (0 : Int32))] [(.int (0 : Int32)), (.ref a), (.ref da), (.int (1 : Int32)), (.ref b2)])) (fun t k => XS.iloadN X11.here hx rfl (hb hby d1_42) rfl k) ?_
  have F12 : Arv Z h9 a ka .byte (3 : Int32) [(.int y0), (.int y1), (.int y2)] (.int (0 : Int32)) := (Va.keep K9 nin0)
  obtain ⟨cl13, Ar13, q13, S13, N13', H13, G13⟩ := id F12
  have hin13 : ¬ ((0 : Int32) < 0 ∨ cl13.slots.size ≤ ((0 : Int32)).toNatClampNeg) := inb_of S13 ⟨by decide, by decide⟩
  refine Ends.pre (T' := T11.setTop (mkF m 44 #[.val (.ref a), .val (.ref b2), .val (.int (0 : Int32))] [(.int y0), (.ref da), (.int (1 : Int32)), (.ref b2)])) (fun t k => X11.baloadBytes hx (j := (0 : Int32)) (v := (.int y0)) (by rw [e11]; exact Ar13.1) (State.isArrayOf_alike hZ.alike Ar13.2.1) Ar13.2.2 hin13 (H13.at hin13 rfl) (g := (mkF m 43 #[.val (.ref a), .val (.ref b2), .val (.int (0 : Int32))] [(.int (0 : Int32)), (.ref a), (.ref da), (.int (1 : Int32)), (.ref b2)])) rfl rfl (hb hby d1_43) _ k) ?_
  refine Ends.pre (T' := T11.setTop (mkF m 46 #[.val (.ref a), .val (.ref b2), .val (.int (0 : Int32))] [(.int (15 : Int32)), (.int y0), (.ref da), (.int (1 : Int32)), (.ref b2)])) (fun t k => XS.bipush X11.here hx rfl (hb hby d1_44) k) ?_
  refine Ends.pre (T' := T11.setTop (mkF m 47 #[.val (.ref a), .val (.ref b2), .val (.int (0 : Int32))] [(.int (y0 &&& (15 : Int32))), (.ref da), (.int (1 : Int32)), (.ref b2)])) (fun t k => XS.iand X11.here hx rfl (hb hby d1_46) rfl k) ?_
  have hin14 : ¬ ((y0 &&& (15 : Int32)) < 0 ∨ cl.slots.size ≤ ((y0 &&& (15 : Int32))).toNatClampNeg) := by rw [hsz]; exact own_in16 (own_and15 _)
  refine Ends.pre (T' := T11.setTop (mkF m 48 #[.val (.ref a), .val (.ref b2), .val (.int (0 : Int32))] [(.int (own_hexd (y0 &&& (15 : Int32)))), (.int (1 : Int32)), (.ref b2)])) (fun t k => X11.caload hx (j := (y0 &&& (15 : Int32))) (v := (.int (own_hexd (y0 &&& (15 : Int32))))) (by rw [e11]; exact (Arr_keep0 ADG K9).1) (State.isArrayOf_alike hZ.alike ADG.2.1) ADG.2.2 hin14 (hel _ hin14) (g := (mkF m 47 #[.val (.ref a), .val (.ref b2), .val (.int (0 : Int32))] [(.int (y0 &&& (15 : Int32))), (.ref da), (.int (1 : Int32)), (.ref b2)])) rfl rfl (hb hby d1_47) _ k) ?_
  obtain ⟨cl15, Ar15, q15, S15, N15', H15, G15⟩ := id V9
  have hin15 : ¬ ((1 : Int32) < 0 ∨ cl15.slots.size ≤ ((1 : Int32)).toNatClampNeg) := inb_of S15 ⟨by decide, by decide⟩
  obtain ⟨T15, h15, X15, e15, W15, st15⟩ := stC X11 hx hZ e11 Ar15 (j := (1 : Int32)) hin15 (g := (mkF m 48 #[.val (.ref a), .val (.ref b2), .val (.int (0 : Int32))] [(.int (own_hexd (y0 &&& (15 : Int32)))), (.int (1 : Int32)), (.ref b2)])) rfl rfl (hb hby d1_48)
  have V15 : Arv Z h15 b2 k2 .char (6 : Int32) [(.int (own_hexd ((y0 >>> ((4 : Int32) &&& 31)) &&& (15 : Int32)))), (.int (own_hexd (y0 &&& (15 : Int32)))), (.int (0 : Int32)), (.int (0 : Int32)), (.int (0 : Int32)), (.int (0 : Int32))] (.int (0 : Int32)) := (by have q := Arv.set Ar15 q15 S15 N15' H15 G15 (fits_nar_char _) W15 1 rfl (Nat.le_of_ble_eq_true rfl); rw [own_char (own_hexr (own_and15 _))] at q; exact q)
  have N15 := Fr.snoc X15 N9 ge_b2
  refine Ends.pre (T' := T15.setTop (mkF m 49 #[.val (.ref a), .val (.ref b2), .val (.int (0 : Int32))] [])) (fun t k => st15 _ k) ?_
  have K15 : Keep h0 h15 [] := K9.wr W15 (Or.inr sz_b2)
  refine Ends.pre (T' := T15.setTop (mkF m 52 #[.val (.ref a), .val (.ref b2), .val (.int (1 : Int32))] [])) (fun t k => XS.iinc (g := (mkF m 49 #[.val (.ref a), .val (.ref b2), .val (.int (0 : Int32))] [])) X15.here hx rfl (hb hby d1_49) rfl (l' := #[.val (.ref a), .val (.ref b2), .val (.int (1 : Int32))]) rfl k) ?_
  refine Ends.pre (T' := T15.setTop (mkF m 9 #[.val (.ref a), .val (.ref b2), .val (.int (1 : Int32))] [])) (fun t k => XS.goto X15.here hx rfl (pc0 := 52) (pc' := 9) rfl (hb hby d1_52) (by decide) (by decide) k) ?_
  refine Ends.pre (T' := T15.setTop (mkF m 10 #[.val (.ref a), .val (.ref b2), .val (.int (1 : Int32))] [(.int (1 : Int32))])) (fun t k => XS.iloadN X15.here hx rfl (hb hby d1_9) rfl k) ?_
  refine Ends.pre (T' := T15.setTop (mkF m 11 #[.val (.ref a), .val (.ref b2), .val (.int (1 : Int32))] [(.ref a), (.int (1 : Int32))])) (fun t k => XS.aloadN X15.here hx rfl (hb hby d1_10) rfl rfl k) ?_
  have F16 : Arv Z h15 a ka .byte (3 : Int32) [(.int y0), (.int y1), (.int y2)] (.int (0 : Int32)) := (Va.keep K15 nin0)
  obtain ⟨cl17, Ar17, q17, S17, N17', H17, G17⟩ := id F16
  refine Ends.pre (T' := T15.setTop (mkF m 12 #[.val (.ref a), .val (.ref b2), .val (.int (1 : Int32))] [(.int (3 : Int32)), (.int (1 : Int32))])) (fun t k => X15.arraylength hx (by rw [e15]; exact Ar17.1) (State.isArrayOf_alike hZ.alike Ar17.2.1) (g := (mkF m 11 #[.val (.ref a), .val (.ref b2), .val (.int (1 : Int32))] [(.ref a), (.int (1 : Int32))])) rfl rfl (hb hby d1_11) _ (by rw [len_of S17 N17']; exact k)) ?_
  refine Ends.pre (T' := T15.setTop (mkF m 15 #[.val (.ref a), .val (.ref b2), .val (.int (1 : Int32))] [])) (fun t k => XS.icmpNo X15.here hx rfl (hb hby d1_12) rfl (by decide) k) ?_
  refine Ends.pre (T' := T15.setTop (mkF m 16 #[.val (.ref a), .val (.ref b2), .val (.int (1 : Int32))] [(.ref b2)])) (fun t k => XS.aloadN X15.here hx rfl (hb hby d1_15) rfl rfl k) ?_
  refine Ends.pre (T' := T15.setTop (mkF m 17 #[.val (.ref a), .val (.ref b2), .val (.int (1 : Int32))] [(.int (2 : Int32)), (.ref b2)])) (fun t k => XS.iconst X15.here hx rfl (hb hby d1_16) k) ?_
  refine Ends.pre (T' := T15.setTop (mkF m 18 #[.val (.ref a), .val (.ref b2), .val (.int (1 : Int32))] [(.int (1 : Int32)), (.int (2 : Int32)), (.ref b2)])) (fun t k => XS.iloadN X15.here hx rfl (hb hby d1_17) rfl k) ?_
  refine Ends.pre (T' := T15.setTop (mkF m 19 #[.val (.ref a), .val (.ref b2), .val (.int (1 : Int32))] [(.int (2 : Int32)), (.ref b2)])) (fun t k => XS.imul X15.here hx rfl (hb hby d1_18) rfl k) ?_
  have F18 : Sta Z h15 "com/example/wireform/wireform/Hex" "DIGITS" "[C" (.ref da) := (Sta_keep0 SDG K15)
  obtain ⟨T19, X19, e19, st19⟩ := getS2 X15 hx hZ hown (host := "") (Or.inl (hw _ (List.mem_of_getElem? (i := 6) rfl))) Via.refl e15 F18 (g := (mkF m 19 #[.val (.ref a), .val (.ref b2), .val (.int (1 : Int32))] [(.int (2 : Int32)), (.ref b2)])) rfl (hb hby d1_19)
  refine Ends.pre (T' := T19.setTop (mkF m 22 #[.val (.ref a), .val (.ref b2), .val (.int (1 : Int32))] [(.ref da), (.int (2 : Int32)), (.ref b2)])) (fun t k => st19 _ k) ?_
  refine Ends.pre (T' := T19.setTop (mkF m 23 #[.val (.ref a), .val (.ref b2), .val (.int (1 : Int32))] [(.ref a), (.ref da), (.int (2 : Int32)), (.ref b2)])) (fun t k => XS.aloadN X19.here hx rfl (hb hby d1_22) rfl rfl k) ?_
  refine Ends.pre (T' := T19.setTop (mkF m 24 #[.val (.ref a), .val (.ref b2), .val (.int (1 : Int32))] [(.int (1 : Int32)), (.ref a), (.ref da), (.int (2 : Int32)), (.ref b2)])) (fun t k => XS.iloadN X19.here hx rfl (hb hby d1_23) rfl k) ?_
  obtain ⟨cl20, Ar20, q20, S20, N20', H20, G20⟩ := id F16
  have hin20 : ¬ ((1 : Int32) < 0 ∨ cl20.slots.size ≤ ((1 : Int32)).toNatClampNeg) := inb_of S20 ⟨by decide, by decide⟩
  refine Ends.pre (T' := T19.setTop (mkF m 25 #[.val (.ref a), .val (.ref b2), .val (.int (1 : Int32))] [(.int y1), (.ref da), (.int (2 : Int32)), (.ref b2)])) (fun t k => X19.baloadBytes hx (j := (1 : Int32)) (v := (.int y1)) (by rw [e19]; exact Ar20.1) (State.isArrayOf_alike hZ.alike Ar20.2.1) Ar20.2.2 hin20 (H20.at hin20 rfl) (g := (mkF m 24 #[.val (.ref a), .val (.ref b2), .val (.int (1 : Int32))] [(.int (1 : Int32)), (.ref a), (.ref da), (.int (2 : Int32)), (.ref b2)])) rfl rfl (hb hby d1_24) _ k) ?_
  refine Ends.pre (T' := T19.setTop (mkF m 26 #[.val (.ref a), .val (.ref b2), .val (.int (1 : Int32))] [(.int (4 : Int32)), (.int y1), (.ref da), (.int (2 : Int32)), (.ref b2)])) (fun t k => XS.iconst X19.here hx rfl (hb hby d1_25) k) ?_
  refine Ends.pre (T' := T19.setTop (mkF m 27 #[.val (.ref a), .val (.ref b2), .val (.int (1 : Int32))] [(.int (y1 >>> ((4 : Int32) &&& 31))), (.ref da), (.int (2 : Int32)), (.ref b2)])) (fun t k => XS.ishr X19.here hx rfl (hb hby d1_26) rfl k) ?_
  refine Ends.pre (T' := T19.setTop (mkF m 29 #[.val (.ref a), .val (.ref b2), .val (.int (1 : Int32))] [(.int (15 : Int32)), (.int (y1 >>> ((4 : Int32) &&& 31))), (.ref da), (.int (2 : Int32)), (.ref b2)])) (fun t k => XS.bipush X19.here hx rfl (hb hby d1_27) k) ?_
  refine Ends.pre (T' := T19.setTop (mkF m 30 #[.val (.ref a), .val (.ref b2), .val (.int (1 : Int32))] [(.int ((y1 >>> ((4 : Int32) &&& 31)) &&& (15 : Int32))), (.ref da), (.int (2 : Int32)), (.ref b2)])) (fun t k => XS.iand X19.here hx rfl (hb hby d1_29) rfl k) ?_
  have hin21 : ¬ (((y1 >>> ((4 : Int32) &&& 31)) &&& (15 : Int32)) < 0 ∨ cl.slots.size ≤ (((y1 >>> ((4 : Int32) &&& 31)) &&& (15 : Int32))).toNatClampNeg) := by rw [hsz]; exact own_in16 (own_and15 _)
  refine Ends.pre (T' := T19.setTop (mkF m 31 #[.val (.ref a), .val (.ref b2), .val (.int (1 : Int32))] [(.int (own_hexd ((y1 >>> ((4 : Int32) &&& 31)) &&& (15 : Int32)))), (.int (2 : Int32)), (.ref b2)])) (fun t k => X19.caload hx (j := ((y1 >>> ((4 : Int32) &&& 31)) &&& (15 : Int32))) (v := (.int (own_hexd ((y1 >>> ((4 : Int32) &&& 31)) &&& (15 : Int32))))) (by rw [e19]; exact (Arr_keep0 ADG K15).1) (State.isArrayOf_alike hZ.alike ADG.2.1) ADG.2.2 hin21 (hel _ hin21) (g := (mkF m 30 #[.val (.ref a), .val (.ref b2), .val (.int (1 : Int32))] [(.int ((y1 >>> ((4 : Int32) &&& 31)) &&& (15 : Int32))), (.ref da), (.int (2 : Int32)), (.ref b2)])) rfl rfl (hb hby d1_30) _ k) ?_
  obtain ⟨cl22, Ar22, q22, S22, N22', H22, G22⟩ := id V15
  have hin22 : ¬ ((2 : Int32) < 0 ∨ cl22.slots.size ≤ ((2 : Int32)).toNatClampNeg) := inb_of S22 ⟨by decide, by decide⟩
  obtain ⟨T22, h22, X22, e22, W22, st22⟩ := stC X19 hx hZ e19 Ar22 (j := (2 : Int32)) hin22 (g := (mkF m 31 #[.val (.ref a), .val (.ref b2), .val (.int (1 : Int32))] [(.int (own_hexd ((y1 >>> ((4 : Int32) &&& 31)) &&& (15 : Int32)))), (.int (2 : Int32)), (.ref b2)])) rfl rfl (hb hby d1_31)
  have V22 : Arv Z h22 b2 k2 .char (6 : Int32) [(.int (own_hexd ((y0 >>> ((4 : Int32) &&& 31)) &&& (15 : Int32)))), (.int (own_hexd (y0 &&& (15 : Int32)))), (.int (own_hexd ((y1 >>> ((4 : Int32) &&& 31)) &&& (15 : Int32)))), (.int (0 : Int32)), (.int (0 : Int32)), (.int (0 : Int32))] (.int (0 : Int32)) := (by have q := Arv.set Ar22 q22 S22 N22' H22 G22 (fits_nar_char _) W22 2 rfl (Nat.le_of_ble_eq_true rfl); rw [own_char (own_hexr (own_and15 _))] at q; exact q)
  have N22 := Fr.snoc X22 N15 ge_b2
  refine Ends.pre (T' := T22.setTop (mkF m 32 #[.val (.ref a), .val (.ref b2), .val (.int (1 : Int32))] [])) (fun t k => st22 _ k) ?_
  have K22 : Keep h0 h22 [] := K15.wr W22 (Or.inr sz_b2)
  refine Ends.pre (T' := T22.setTop (mkF m 33 #[.val (.ref a), .val (.ref b2), .val (.int (1 : Int32))] [(.ref b2)])) (fun t k => XS.aloadN X22.here hx rfl (hb hby d1_32) rfl rfl k) ?_
  refine Ends.pre (T' := T22.setTop (mkF m 34 #[.val (.ref a), .val (.ref b2), .val (.int (1 : Int32))] [(.int (2 : Int32)), (.ref b2)])) (fun t k => XS.iconst X22.here hx rfl (hb hby d1_33) k) ?_
  refine Ends.pre (T' := T22.setTop (mkF m 35 #[.val (.ref a), .val (.ref b2), .val (.int (1 : Int32))] [(.int (1 : Int32)), (.int (2 : Int32)), (.ref b2)])) (fun t k => XS.iloadN X22.here hx rfl (hb hby d1_34) rfl k) ?_
  refine Ends.pre (T' := T22.setTop (mkF m 36 #[.val (.ref a), .val (.ref b2), .val (.int (1 : Int32))] [(.int (2 : Int32)), (.ref b2)])) (fun t k => XS.imul X22.here hx rfl (hb hby d1_35) rfl k) ?_
  refine Ends.pre (T' := T22.setTop (mkF m 37 #[.val (.ref a), .val (.ref b2), .val (.int (1 : Int32))] [(.int (1 : Int32)), (.int (2 : Int32)), (.ref b2)])) (fun t k => XS.iconst X22.here hx rfl (hb hby d1_36) k) ?_
  refine Ends.pre (T' := T22.setTop (mkF m 38 #[.val (.ref a), .val (.ref b2), .val (.int (1 : Int32))] [(.int (3 : Int32)), (.ref b2)])) (fun t k => XS.iadd X22.here hx rfl (hb hby d1_37) rfl k) ?_
  have F23 : Sta Z h22 "com/example/wireform/wireform/Hex" "DIGITS" "[C" (.ref da) := (Sta_keep0 SDG K22)
  obtain ⟨T24, X24, e24, st24⟩ := getS2 X22 hx hZ hown (host := "") (Or.inl (hw _ (List.mem_of_getElem? (i := 6) rfl))) Via.refl e22 F23 (g := (mkF m 38 #[.val (.ref a), .val (.ref b2), .val (.int (1 : Int32))] [(.int (3 : Int32)), (.ref b2)])) rfl (hb hby d1_38)
  refine Ends.pre (T' := T24.setTop (mkF m 41 #[.val (.ref a), .val (.ref b2), .val (.int (1 : Int32))] [(.ref da), (.int (3 : Int32)), (.ref b2)])) (fun t k => st24 _ k) ?_
  refine Ends.pre (T' := T24.setTop (mkF m 42 #[.val (.ref a), .val (.ref b2), .val (.int (1 : Int32))] [(.ref a), (.ref da), (.int (3 : Int32)), (.ref b2)])) (fun t k => XS.aloadN X24.here hx rfl (hb hby d1_41) rfl rfl k) ?_
  refine Ends.pre (T' := T24.setTop (mkF m 43 #[.val (.ref a), .val (.ref b2), .val (.int (1 : Int32))] [(.int (1 : Int32)), (.ref a), (.ref da), (.int (3 : Int32)), (.ref b2)])) (fun t k => XS.iloadN X24.here hx rfl (hb hby d1_42) rfl k) ?_
  have F25 : Arv Z h22 a ka .byte (3 : Int32) [(.int y0), (.int y1), (.int y2)] (.int (0 : Int32)) := (Va.keep K22 nin0)
  obtain ⟨cl26, Ar26, q26, S26, N26', H26, G26⟩ := id F25
  have hin26 : ¬ ((1 : Int32) < 0 ∨ cl26.slots.size ≤ ((1 : Int32)).toNatClampNeg) := inb_of S26 ⟨by decide, by decide⟩
  refine Ends.pre (T' := T24.setTop (mkF m 44 #[.val (.ref a), .val (.ref b2), .val (.int (1 : Int32))] [(.int y1), (.ref da), (.int (3 : Int32)), (.ref b2)])) (fun t k => X24.baloadBytes hx (j := (1 : Int32)) (v := (.int y1)) (by rw [e24]; exact Ar26.1) (State.isArrayOf_alike hZ.alike Ar26.2.1) Ar26.2.2 hin26 (H26.at hin26 rfl) (g := (mkF m 43 #[.val (.ref a), .val (.ref b2), .val (.int (1 : Int32))] [(.int (1 : Int32)), (.ref a), (.ref da), (.int (3 : Int32)), (.ref b2)])) rfl rfl (hb hby d1_43) _ k) ?_
  refine Ends.pre (T' := T24.setTop (mkF m 46 #[.val (.ref a), .val (.ref b2), .val (.int (1 : Int32))] [(.int (15 : Int32)), (.int y1), (.ref da), (.int (3 : Int32)), (.ref b2)])) (fun t k => XS.bipush X24.here hx rfl (hb hby d1_44) k) ?_
  refine Ends.pre (T' := T24.setTop (mkF m 47 #[.val (.ref a), .val (.ref b2), .val (.int (1 : Int32))] [(.int (y1 &&& (15 : Int32))), (.ref da), (.int (3 : Int32)), (.ref b2)])) (fun t k => XS.iand X24.here hx rfl (hb hby d1_46) rfl k) ?_
  have hin27 : ¬ ((y1 &&& (15 : Int32)) < 0 ∨ cl.slots.size ≤ ((y1 &&& (15 : Int32))).toNatClampNeg) := by rw [hsz]; exact own_in16 (own_and15 _)
  refine Ends.pre (T' := T24.setTop (mkF m 48 #[.val (.ref a), .val (.ref b2), .val (.int (1 : Int32))] [(.int (own_hexd (y1 &&& (15 : Int32)))), (.int (3 : Int32)), (.ref b2)])) (fun t k => X24.caload hx (j := (y1 &&& (15 : Int32))) (v := (.int (own_hexd (y1 &&& (15 : Int32))))) (by rw [e24]; exact (Arr_keep0 ADG K22).1) (State.isArrayOf_alike hZ.alike ADG.2.1) ADG.2.2 hin27 (hel _ hin27) (g := (mkF m 47 #[.val (.ref a), .val (.ref b2), .val (.int (1 : Int32))] [(.int (y1 &&& (15 : Int32))), (.ref da), (.int (3 : Int32)), (.ref b2)])) rfl rfl (hb hby d1_47) _ k) ?_
  obtain ⟨cl28, Ar28, q28, S28, N28', H28, G28⟩ := id V22
  have hin28 : ¬ ((3 : Int32) < 0 ∨ cl28.slots.size ≤ ((3 : Int32)).toNatClampNeg) := inb_of S28 ⟨by decide, by decide⟩
  obtain ⟨T28, h28, X28, e28, W28, st28⟩ := stC X24 hx hZ e24 Ar28 (j := (3 : Int32)) hin28 (g := (mkF m 48 #[.val (.ref a), .val (.ref b2), .val (.int (1 : Int32))] [(.int (own_hexd (y1 &&& (15 : Int32)))), (.int (3 : Int32)), (.ref b2)])) rfl rfl (hb hby d1_48)
  have V28 : Arv Z h28 b2 k2 .char (6 : Int32) [(.int (own_hexd ((y0 >>> ((4 : Int32) &&& 31)) &&& (15 : Int32)))), (.int (own_hexd (y0 &&& (15 : Int32)))), (.int (own_hexd ((y1 >>> ((4 : Int32) &&& 31)) &&& (15 : Int32)))), (.int (own_hexd (y1 &&& (15 : Int32)))), (.int (0 : Int32)), (.int (0 : Int32))] (.int (0 : Int32)) := (by have q := Arv.set Ar28 q28 S28 N28' H28 G28 (fits_nar_char _) W28 3 rfl (Nat.le_of_ble_eq_true rfl); rw [own_char (own_hexr (own_and15 _))] at q; exact q)
  have N28 := Fr.snoc X28 N22 ge_b2
  refine Ends.pre (T' := T28.setTop (mkF m 49 #[.val (.ref a), .val (.ref b2), .val (.int (1 : Int32))] [])) (fun t k => st28 _ k) ?_
  have K28 : Keep h0 h28 [] := K22.wr W28 (Or.inr sz_b2)
  refine Ends.pre (T' := T28.setTop (mkF m 52 #[.val (.ref a), .val (.ref b2), .val (.int (2 : Int32))] [])) (fun t k => XS.iinc (g := (mkF m 49 #[.val (.ref a), .val (.ref b2), .val (.int (1 : Int32))] [])) X28.here hx rfl (hb hby d1_49) rfl (l' := #[.val (.ref a), .val (.ref b2), .val (.int (2 : Int32))]) rfl k) ?_
  refine Ends.pre (T' := T28.setTop (mkF m 9 #[.val (.ref a), .val (.ref b2), .val (.int (2 : Int32))] [])) (fun t k => XS.goto X28.here hx rfl (pc0 := 52) (pc' := 9) rfl (hb hby d1_52) (by decide) (by decide) k) ?_
  refine Ends.pre (T' := T28.setTop (mkF m 10 #[.val (.ref a), .val (.ref b2), .val (.int (2 : Int32))] [(.int (2 : Int32))])) (fun t k => XS.iloadN X28.here hx rfl (hb hby d1_9) rfl k) ?_
  refine Ends.pre (T' := T28.setTop (mkF m 11 #[.val (.ref a), .val (.ref b2), .val (.int (2 : Int32))] [(.ref a), (.int (2 : Int32))])) (fun t k => XS.aloadN X28.here hx rfl (hb hby d1_10) rfl rfl k) ?_
  have F29 : Arv Z h28 a ka .byte (3 : Int32) [(.int y0), (.int y1), (.int y2)] (.int (0 : Int32)) := (Va.keep K28 nin0)
  obtain ⟨cl30, Ar30, q30, S30, N30', H30, G30⟩ := id F29
  refine Ends.pre (T' := T28.setTop (mkF m 12 #[.val (.ref a), .val (.ref b2), .val (.int (2 : Int32))] [(.int (3 : Int32)), (.int (2 : Int32))])) (fun t k => X28.arraylength hx (by rw [e28]; exact Ar30.1) (State.isArrayOf_alike hZ.alike Ar30.2.1) (g := (mkF m 11 #[.val (.ref a), .val (.ref b2), .val (.int (2 : Int32))] [(.ref a), (.int (2 : Int32))])) rfl rfl (hb hby d1_11) _ (by rw [len_of S30 N30']; exact k)) ?_
  refine Ends.pre (T' := T28.setTop (mkF m 15 #[.val (.ref a), .val (.ref b2), .val (.int (2 : Int32))] [])) (fun t k => XS.icmpNo X28.here hx rfl (hb hby d1_12) rfl (by decide) k) ?_
  refine Ends.pre (T' := T28.setTop (mkF m 16 #[.val (.ref a), .val (.ref b2), .val (.int (2 : Int32))] [(.ref b2)])) (fun t k => XS.aloadN X28.here hx rfl (hb hby d1_15) rfl rfl k) ?_
  refine Ends.pre (T' := T28.setTop (mkF m 17 #[.val (.ref a), .val (.ref b2), .val (.int (2 : Int32))] [(.int (2 : Int32)), (.ref b2)])) (fun t k => XS.iconst X28.here hx rfl (hb hby d1_16) k) ?_
  refine Ends.pre (T' := T28.setTop (mkF m 18 #[.val (.ref a), .val (.ref b2), .val (.int (2 : Int32))] [(.int (2 : Int32)), (.int (2 : Int32)), (.ref b2)])) (fun t k => XS.iloadN X28.here hx rfl (hb hby d1_17) rfl k) ?_
  refine Ends.pre (T' := T28.setTop (mkF m 19 #[.val (.ref a), .val (.ref b2), .val (.int (2 : Int32))] [(.int (4 : Int32)), (.ref b2)])) (fun t k => XS.imul X28.here hx rfl (hb hby d1_18) rfl k) ?_
  have F31 : Sta Z h28 "com/example/wireform/wireform/Hex" "DIGITS" "[C" (.ref da) := (Sta_keep0 SDG K28)
  obtain ⟨T32, X32, e32, st32⟩ := getS2 X28 hx hZ hown (host := "") (Or.inl (hw _ (List.mem_of_getElem? (i := 6) rfl))) Via.refl e28 F31 (g := (mkF m 19 #[.val (.ref a), .val (.ref b2), .val (.int (2 : Int32))] [(.int (4 : Int32)), (.ref b2)])) rfl (hb hby d1_19)
  refine Ends.pre (T' := T32.setTop (mkF m 22 #[.val (.ref a), .val (.ref b2), .val (.int (2 : Int32))] [(.ref da), (.int (4 : Int32)), (.ref b2)])) (fun t k => st32 _ k) ?_
  refine Ends.pre (T' := T32.setTop (mkF m 23 #[.val (.ref a), .val (.ref b2), .val (.int (2 : Int32))] [(.ref a), (.ref da), (.int (4 : Int32)), (.ref b2)])) (fun t k => XS.aloadN X32.here hx rfl (hb hby d1_22) rfl rfl k) ?_
  refine Ends.pre (T' := T32.setTop (mkF m 24 #[.val (.ref a), .val (.ref b2), .val (.int (2 : Int32))] [(.int (2 : Int32)), (.ref a), (.ref da), (.int (4 : Int32)), (.ref b2)])) (fun t k => XS.iloadN X32.here hx rfl (hb hby d1_23) rfl k) ?_
  obtain ⟨cl33, Ar33, q33, S33, N33', H33, G33⟩ := id F29
  have hin33 : ¬ ((2 : Int32) < 0 ∨ cl33.slots.size ≤ ((2 : Int32)).toNatClampNeg) := inb_of S33 ⟨by decide, by decide⟩
  refine Ends.pre (T' := T32.setTop (mkF m 25 #[.val (.ref a), .val (.ref b2), .val (.int (2 : Int32))] [(.int y2), (.ref da), (.int (4 : Int32)), (.ref b2)])) (fun t k => X32.baloadBytes hx (j := (2 : Int32)) (v := (.int y2)) (by rw [e32]; exact Ar33.1) (State.isArrayOf_alike hZ.alike Ar33.2.1) Ar33.2.2 hin33 (H33.at hin33 rfl) (g := (mkF m 24 #[.val (.ref a), .val (.ref b2), .val (.int (2 : Int32))] [(.int (2 : Int32)), (.ref a), (.ref da), (.int (4 : Int32)), (.ref b2)])) rfl rfl (hb hby d1_24) _ k) ?_
  refine Ends.pre (T' := T32.setTop (mkF m 26 #[.val (.ref a), .val (.ref b2), .val (.int (2 : Int32))] [(.int (4 : Int32)), (.int y2), (.ref da), (.int (4 : Int32)), (.ref b2)])) (fun t k => XS.iconst X32.here hx rfl (hb hby d1_25) k) ?_
  refine Ends.pre (T' := T32.setTop (mkF m 27 #[.val (.ref a), .val (.ref b2), .val (.int (2 : Int32))] [(.int (y2 >>> ((4 : Int32) &&& 31))), (.ref da), (.int (4 : Int32)), (.ref b2)])) (fun t k => XS.ishr X32.here hx rfl (hb hby d1_26) rfl k) ?_
  refine Ends.pre (T' := T32.setTop (mkF m 29 #[.val (.ref a), .val (.ref b2), .val (.int (2 : Int32))] [(.int (15 : Int32)), (.int (y2 >>> ((4 : Int32) &&& 31))), (.ref da), (.int (4 : Int32)), (.ref b2)])) (fun t k => XS.bipush X32.here hx rfl (hb hby d1_27) k) ?_
  refine Ends.pre (T' := T32.setTop (mkF m 30 #[.val (.ref a), .val (.ref b2), .val (.int (2 : Int32))] [(.int ((y2 >>> ((4 : Int32) &&& 31)) &&& (15 : Int32))), (.ref da), (.int (4 : Int32)), (.ref b2)])) (fun t k => XS.iand X32.here hx rfl (hb hby d1_29) rfl k) ?_
  have hin34 : ¬ (((y2 >>> ((4 : Int32) &&& 31)) &&& (15 : Int32)) < 0 ∨ cl.slots.size ≤ (((y2 >>> ((4 : Int32) &&& 31)) &&& (15 : Int32))).toNatClampNeg) := by rw [hsz]; exact own_in16 (own_and15 _)
  refine Ends.pre (T' := T32.setTop (mkF m 31 #[.val (.ref a), .val (.ref b2), .val (.int (2 : Int32))] [(.int (own_hexd ((y2 >>> ((4 : Int32) &&& 31)) &&& (15 : Int32)))), (.int (4 : Int32)), (.ref b2)])) (fun t k => X32.caload hx (j := ((y2 >>> ((4 : Int32) &&& 31)) &&& (15 : Int32))) (v := (.int (own_hexd ((y2 >>> ((4 : Int32) &&& 31)) &&& (15 : Int32))))) (by rw [e32]; exact (Arr_keep0 ADG K28).1) (State.isArrayOf_alike hZ.alike ADG.2.1) ADG.2.2 hin34 (hel _ hin34) (g := (mkF m 30 #[.val (.ref a), .val (.ref b2), .val (.int (2 : Int32))] [(.int ((y2 >>> ((4 : Int32) &&& 31)) &&& (15 : Int32))), (.ref da), (.int (4 : Int32)), (.ref b2)])) rfl rfl (hb hby d1_30) _ k) ?_
  obtain ⟨cl35, Ar35, q35, S35, N35', H35, G35⟩ := id V28
  have hin35 : ¬ ((4 : Int32) < 0 ∨ cl35.slots.size ≤ ((4 : Int32)).toNatClampNeg) := inb_of S35 ⟨by decide, by decide⟩
  obtain ⟨T35, h35, X35, e35, W35, st35⟩ := stC X32 hx hZ e32 Ar35 (j := (4 : Int32)) hin35 (g := (mkF m 31 #[.val (.ref a), .val (.ref b2), .val (.int (2 : Int32))] [(.int (own_hexd ((y2 >>> ((4 : Int32) &&& 31)) &&& (15 : Int32)))), (.int (4 : Int32)), (.ref b2)])) rfl rfl (hb hby d1_31)
  have V35 : Arv Z h35 b2 k2 .char (6 : Int32) [(.int (own_hexd ((y0 >>> ((4 : Int32) &&& 31)) &&& (15 : Int32)))), (.int (own_hexd (y0 &&& (15 : Int32)))), (.int (own_hexd ((y1 >>> ((4 : Int32) &&& 31)) &&& (15 : Int32)))), (.int (own_hexd (y1 &&& (15 : Int32)))), (.int (own_hexd ((y2 >>> ((4 : Int32) &&& 31)) &&& (15 : Int32)))), (.int (0 : Int32))] (.int (0 : Int32)) := (by have q := Arv.set Ar35 q35 S35 N35' H35 G35 (fits_nar_char _) W35 4 rfl (Nat.le_of_ble_eq_true rfl); rw [own_char (own_hexr (own_and15 _))] at q; exact q)
  have N35 := Fr.snoc X35 N28 ge_b2
  refine Ends.pre (T' := T35.setTop (mkF m 32 #[.val (.ref a), .val (.ref b2), .val (.int (2 : Int32))] [])) (fun t k => st35 _ k) ?_
  have K35 : Keep h0 h35 [] := K28.wr W35 (Or.inr sz_b2)
  refine Ends.pre (T' := T35.setTop (mkF m 33 #[.val (.ref a), .val (.ref b2), .val (.int (2 : Int32))] [(.ref b2)])) (fun t k => XS.aloadN X35.here hx rfl (hb hby d1_32) rfl rfl k) ?_
  refine Ends.pre (T' := T35.setTop (mkF m 34 #[.val (.ref a), .val (.ref b2), .val (.int (2 : Int32))] [(.int (2 : Int32)), (.ref b2)])) (fun t k => XS.iconst X35.here hx rfl (hb hby d1_33) k) ?_
  refine Ends.pre (T' := T35.setTop (mkF m 35 #[.val (.ref a), .val (.ref b2), .val (.int (2 : Int32))] [(.int (2 : Int32)), (.int (2 : Int32)), (.ref b2)])) (fun t k => XS.iloadN X35.here hx rfl (hb hby d1_34) rfl k) ?_
  refine Ends.pre (T' := T35.setTop (mkF m 36 #[.val (.ref a), .val (.ref b2), .val (.int (2 : Int32))] [(.int (4 : Int32)), (.ref b2)])) (fun t k => XS.imul X35.here hx rfl (hb hby d1_35) rfl k) ?_
  refine Ends.pre (T' := T35.setTop (mkF m 37 #[.val (.ref a), .val (.ref b2), .val (.int (2 : Int32))] [(.int (1 : Int32)), (.int (4 : Int32)), (.ref b2)])) (fun t k => XS.iconst X35.here hx rfl (hb hby d1_36) k) ?_
  refine Ends.pre (T' := T35.setTop (mkF m 38 #[.val (.ref a), .val (.ref b2), .val (.int (2 : Int32))] [(.int (5 : Int32)), (.ref b2)])) (fun t k => XS.iadd X35.here hx rfl (hb hby d1_37) rfl k) ?_
  have F36 : Sta Z h35 "com/example/wireform/wireform/Hex" "DIGITS" "[C" (.ref da) := (Sta_keep0 SDG K35)
  obtain ⟨T37, X37, e37, st37⟩ := getS2 X35 hx hZ hown (host := "") (Or.inl (hw _ (List.mem_of_getElem? (i := 6) rfl))) Via.refl e35 F36 (g := (mkF m 38 #[.val (.ref a), .val (.ref b2), .val (.int (2 : Int32))] [(.int (5 : Int32)), (.ref b2)])) rfl (hb hby d1_38)
  refine Ends.pre (T' := T37.setTop (mkF m 41 #[.val (.ref a), .val (.ref b2), .val (.int (2 : Int32))] [(.ref da), (.int (5 : Int32)), (.ref b2)])) (fun t k => st37 _ k) ?_
  refine Ends.pre (T' := T37.setTop (mkF m 42 #[.val (.ref a), .val (.ref b2), .val (.int (2 : Int32))] [(.ref a), (.ref da), (.int (5 : Int32)), (.ref b2)])) (fun t k => XS.aloadN X37.here hx rfl (hb hby d1_41) rfl rfl k) ?_
  refine Ends.pre (T' := T37.setTop (mkF m 43 #[.val (.ref a), .val (.ref b2), .val (.int (2 : Int32))] [(.int (2 : Int32)), (.ref a), (.ref da), (.int (5 : Int32)), (.ref b2)])) (fun t k => XS.iloadN X37.here hx rfl (hb hby d1_42) rfl k) ?_
  have F38 : Arv Z h35 a ka .byte (3 : Int32) [(.int y0), (.int y1), (.int y2)] (.int (0 : Int32)) := (Va.keep K35 nin0)
  obtain ⟨cl39, Ar39, q39, S39, N39', H39, G39⟩ := id F38
  have hin39 : ¬ ((2 : Int32) < 0 ∨ cl39.slots.size ≤ ((2 : Int32)).toNatClampNeg) := inb_of S39 ⟨by decide, by decide⟩
  refine Ends.pre (T' := T37.setTop (mkF m 44 #[.val (.ref a), .val (.ref b2), .val (.int (2 : Int32))] [(.int y2), (.ref da), (.int (5 : Int32)), (.ref b2)])) (fun t k => X37.baloadBytes hx (j := (2 : Int32)) (v := (.int y2)) (by rw [e37]; exact Ar39.1) (State.isArrayOf_alike hZ.alike Ar39.2.1) Ar39.2.2 hin39 (H39.at hin39 rfl) (g := (mkF m 43 #[.val (.ref a), .val (.ref b2), .val (.int (2 : Int32))] [(.int (2 : Int32)), (.ref a), (.ref da), (.int (5 : Int32)), (.ref b2)])) rfl rfl (hb hby d1_43) _ k) ?_
  refine Ends.pre (T' := T37.setTop (mkF m 46 #[.val (.ref a), .val (.ref b2), .val (.int (2 : Int32))] [(.int (15 : Int32)), (.int y2), (.ref da), (.int (5 : Int32)), (.ref b2)])) (fun t k => XS.bipush X37.here hx rfl (hb hby d1_44) k) ?_
  refine Ends.pre (T' := T37.setTop (mkF m 47 #[.val (.ref a), .val (.ref b2), .val (.int (2 : Int32))] [(.int (y2 &&& (15 : Int32))), (.ref da), (.int (5 : Int32)), (.ref b2)])) (fun t k => XS.iand X37.here hx rfl (hb hby d1_46) rfl k) ?_
  have hin40 : ¬ ((y2 &&& (15 : Int32)) < 0 ∨ cl.slots.size ≤ ((y2 &&& (15 : Int32))).toNatClampNeg) := by rw [hsz]; exact own_in16 (own_and15 _)
  refine Ends.pre (T' := T37.setTop (mkF m 48 #[.val (.ref a), .val (.ref b2), .val (.int (2 : Int32))] [(.int (own_hexd (y2 &&& (15 : Int32)))), (.int (5 : Int32)), (.ref b2)])) (fun t k => X37.caload hx (j := (y2 &&& (15 : Int32))) (v := (.int (own_hexd (y2 &&& (15 : Int32))))) (by rw [e37]; exact (Arr_keep0 ADG K35).1) (State.isArrayOf_alike hZ.alike ADG.2.1) ADG.2.2 hin40 (hel _ hin40) (g := (mkF m 47 #[.val (.ref a), .val (.ref b2), .val (.int (2 : Int32))] [(.int (y2 &&& (15 : Int32))), (.ref da), (.int (5 : Int32)), (.ref b2)])) rfl rfl (hb hby d1_47) _ k) ?_
  obtain ⟨cl41, Ar41, q41, S41, N41', H41, G41⟩ := id V35
  have hin41 : ¬ ((5 : Int32) < 0 ∨ cl41.slots.size ≤ ((5 : Int32)).toNatClampNeg) := inb_of S41 ⟨by decide, by decide⟩
  obtain ⟨T41, h41, X41, e41, W41, st41⟩ := stC X37 hx hZ e37 Ar41 (j := (5 : Int32)) hin41 (g := (mkF m 48 #[.val (.ref a), .val (.ref b2), .val (.int (2 : Int32))] [(.int (own_hexd (y2 &&& (15 : Int32)))), (.int (5 : Int32)), (.ref b2)])) rfl rfl (hb hby d1_48)
  have V41 : Arv Z h41 b2 k2 .char (6 : Int32) [(.int (own_hexd ((y0 >>> ((4 : Int32) &&& 31)) &&& (15 : Int32)))), (.int (own_hexd (y0 &&& (15 : Int32)))), (.int (own_hexd ((y1 >>> ((4 : Int32) &&& 31)) &&& (15 : Int32)))), (.int (own_hexd (y1 &&& (15 : Int32)))), (.int (own_hexd ((y2 >>> ((4 : Int32) &&& 31)) &&& (15 : Int32)))), (.int (own_hexd (y2 &&& (15 : Int32))))] (.int (0 : Int32)) := (by have q := Arv.set Ar41 q41 S41 N41' H41 G41 (fits_nar_char _) W41 5 rfl (Nat.le_of_ble_eq_true rfl); rw [own_char (own_hexr (own_and15 _))] at q; exact q)
  have N41 := Fr.snoc X41 N35 ge_b2
  refine Ends.pre (T' := T41.setTop (mkF m 49 #[.val (.ref a), .val (.ref b2), .val (.int (2 : Int32))] [])) (fun t k => st41 _ k) ?_
  have K41 : Keep h0 h41 [] := K35.wr W41 (Or.inr sz_b2)
  refine Ends.pre (T' := T41.setTop (mkF m 52 #[.val (.ref a), .val (.ref b2), .val (.int (3 : Int32))] [])) (fun t k => XS.iinc (g := (mkF m 49 #[.val (.ref a), .val (.ref b2), .val (.int (2 : Int32))] [])) X41.here hx rfl (hb hby d1_49) rfl (l' := #[.val (.ref a), .val (.ref b2), .val (.int (3 : Int32))]) rfl k) ?_
  refine Ends.pre (T' := T41.setTop (mkF m 9 #[.val (.ref a), .val (.ref b2), .val (.int (3 : Int32))] [])) (fun t k => XS.goto X41.here hx rfl (pc0 := 52) (pc' := 9) rfl (hb hby d1_52) (by decide) (by decide) k) ?_
  refine Ends.pre (T' := T41.setTop (mkF m 10 #[.val (.ref a), .val (.ref b2), .val (.int (3 : Int32))] [(.int (3 : Int32))])) (fun t k => XS.iloadN X41.here hx rfl (hb hby d1_9) rfl k) ?_
  refine Ends.pre (T' := T41.setTop (mkF m 11 #[.val (.ref a), .val (.ref b2), .val (.int (3 : Int32))] [(.ref a), (.int (3 : Int32))])) (fun t k => XS.aloadN X41.here hx rfl (hb hby d1_10) rfl rfl k) ?_
  have F42 : Arv Z h41 a ka .byte (3 : Int32) [(.int y0), (.int y1), (.int y2)] (.int (0 : Int32)) := (Va.keep K41 nin0)
  obtain ⟨cl43, Ar43, q43, S43, N43', H43, G43⟩ := id F42
  refine Ends.pre (T' := T41.setTop (mkF m 12 #[.val (.ref a), .val (.ref b2), .val (.int (3 : Int32))] [(.int (3 : Int32)), (.int (3 : Int32))])) (fun t k => X41.arraylength hx (by rw [e41]; exact Ar43.1) (State.isArrayOf_alike hZ.alike Ar43.2.1) (g := (mkF m 11 #[.val (.ref a), .val (.ref b2), .val (.int (3 : Int32))] [(.ref a), (.int (3 : Int32))])) rfl rfl (hb hby d1_11) _ (by rw [len_of S43 N43']; exact k)) ?_
  refine Ends.pre (T' := T41.setTop (mkF m 55 #[.val (.ref a), .val (.ref b2), .val (.int (3 : Int32))] [])) (fun t k => XS.icmpYes X41.here hx rfl (pc0 := 12) (pc' := 55) rfl (hb hby d1_12) rfl (by decide) (by decide) (by decide) k) ?_
  obtain ⟨T44, h44, X44, e44, E44, A44, D44, -, st44⟩ := newO X41 hx hZ hown (hw _ (List.mem_of_getElem? (i := 8) rfl)) (hw _ (List.mem_of_getElem? (i := 9) rfl)) (hw _ (List.mem_of_getElem? (i := 10) rfl)) e41 (g := (mkF m 55 #[.val (.ref a), .val (.ref b2), .val (.int (3 : Int32))] [])) rfl (hb hby d1_55) (by decide) (by decide)
  obtain ⟨b44, g44⟩ : ∃ z, z = h41.size := ⟨_, rfl⟩
  rw [← g44] at A44 D44 st44
  have ge_b44 : n0 ≤ b44 := Nat.le_trans (Nat.le_trans (Nat.le_trans (Nat.le_trans (Nat.le_trans (Nat.le_trans (Nat.le_trans (Nat.le_trans Z0 E2.1) (Keep.of_wr W9).1) (Keep.of_wr W15).1) (Keep.of_wr W22).1) (Keep.of_wr W28).1) (Keep.of_wr W35).1) (Keep.of_wr W41).1) (Nat.le_of_eq g44.symm)
  have sz_b44 : h0.size ≤ b44 := Nat.le_trans K41.1 (Nat.le_of_eq g44.symm)
  have K44 : Keep h0 h44 [] := K41.ext E44
  have Fd44_coder : Fld Z h44 b44 "java/lang/String" "coder" "B" (.int (0 : Int32)) := D44 (Or.inr (hw _ (List.mem_of_getElem? (i := 33) rfl))) (ty := .byte) (by decide)
  have Fd44_value : Fld Z h44 b44 "java/lang/String" "value" "[B" .null := D44 (Or.inr (hw _ (List.mem_of_getElem? (i := 35) rfl))) (ty := (.array .byte)) (by decide)
  refine Ends.pre (T' := T44.setTop (mkF m 58 #[.val (.ref a), .val (.ref b2), .val (.int (3 : Int32))] [(.ref b44)])) (fun t k => st44 _ k) ?_
  refine Ends.pre (T' := T44.setTop (mkF m 59 #[.val (.ref a), .val (.ref b2), .val (.int (3 : Int32))] [(.ref b44), (.ref b44)])) (fun t k => XS.dup X44.here hx rfl (hb hby d1_58) rfl rfl k) ?_
  refine Ends.pre (T' := T44.setTop (mkF m 60 #[.val (.ref a), .val (.ref b2), .val (.int (3 : Int32))] [(.ref b2), (.ref b44), (.ref b44)])) (fun t k => XS.aloadN X44.here hx rfl (hb hby d1_59) rfl rfl k) ?_
  have hp45 : ∀ c ∈ ([(own_hexd ((y0 >>> ((4 : Int32) &&& 31)) &&& (15 : Int32))), (own_hexd (y0 &&& (15 : Int32))), (own_hexd ((y1 >>> ((4 : Int32) &&& 31)) &&& (15 : Int32))), (own_hexd (y1 &&& (15 : Int32))), (own_hexd ((y2 >>> ((4 : Int32) &&& 31)) &&& (15 : Int32))), (own_hexd (y2 &&& (15 : Int32)))] : List Int32), ¬ c < 0 ∧ ¬ (255 : Int32) < c := (own_alS (own_hexr (own_and15 _)) (own_alS (own_hexr (own_and15 _)) (own_alS (own_hexr (own_and15 _)) (own_alS (own_hexr (own_and15 _)) (own_alS (own_hexr (own_and15 _)) (own_alS (own_hexr (own_and15 _)) own_al0))))))
  have hbd45 := own_up _ hp45
  have F46 : Arv Z h44 b2 k2 .char (6 : Int32) [(.int (own_hexd ((y0 >>> ((4 : Int32) &&& 31)) &&& (15 : Int32)))), (.int (own_hexd (y0 &&& (15 : Int32)))), (.int (own_hexd ((y1 >>> ((4 : Int32) &&& 31)) &&& (15 : Int32)))), (.int (own_hexd (y1 &&& (15 : Int32)))), (.int (own_hexd ((y2 >>> ((4 : Int32) &&& 31)) &&& (15 : Int32)))), (.int (own_hexd (y2 &&& (15 : Int32))))] (.int (0 : Int32)) := (Arv.ext V41 E44)
  have F47 : Sta Z h44 "java/lang/String" "COMPACT_STRINGS" "Z" (.int cz) := (Sta_keep0 SCS K44)
  obtain ⟨_, _, ⟨T48, L48, k48, n48⟩, -, X48, ⟨Lc48, hQ48, l48, y48, z48⟩, st48⟩ := X44.specialBack hx (y := (⟨"java/lang/String", "<init>", "([C)V"⟩ : MethodName)) rfl hown (mvT hZ (hw _ (List.mem_of_getElem? (i := 11) rfl))) (mvT hZ (hw _ (List.mem_of_getElem? (i := 12) rfl))) (mvT hZ (hw _ (List.mem_of_getElem? (i := 13) rfl))) (by decide) (StrChars.Road.backV (W := 1) hZ (own_hws hw) (kI := 4) (hw _ (List.mem_of_getElem? (i := 9) rfl)) (cs := ([(own_hexd ((y0 >>> ((4 : Int32) &&& 31)) &&& (15 : Int32))), (own_hexd (y0 &&& (15 : Int32))), (own_hexd ((y1 >>> ((4 : Int32) &&& 31)) &&& (15 : Int32))), (own_hexd (y1 &&& (15 : Int32))), (own_hexd ((y2 >>> ((4 : Int32) &&& 31)) &&& (15 : Int32))), (own_hexd (y2 &&& (15 : Int32)))] : List Int32)) (bs := (([(own_hexd ((y0 >>> ((4 : Int32) &&& 31)) &&& (15 : Int32))), (own_hexd (y0 &&& (15 : Int32))), (own_hexd ((y1 >>> ((4 : Int32) &&& 31)) &&& (15 : Int32))), (own_hexd (y1 &&& (15 : Int32))), (own_hexd ((y2 >>> ((4 : Int32) &&& 31)) &&& (15 : Int32))), (own_hexd (y2 &&& (15 : Int32)))] : List Int32).map (fun c => c.toInt8.toInt32))) (n := 6) ge_b44 (Nat.le_trans (Nat.le_trans (Nat.le_trans (Nat.le_trans (Nat.le_trans (Nat.le_trans (Nat.le_trans (Nat.le_trans Z0 E2.1) (Keep.of_wr W9).1) (Keep.of_wr W15).1) (Keep.of_wr W22).1) (Keep.of_wr W28).1) (Keep.of_wr W35).1) (Keep.of_wr W41).1) E44.1) A44 Fd44_value Fd44_coder F46 F47 hcz rfl rfl (by decide) (by decide) hp45 rfl (by decide) (by decide)) (g := (mkF m 60 #[.val (.ref a), .val (.ref b2), .val (.int (3 : Int32))] [(.ref b2), (.ref b44), (.ref b44)])) rfl (by rw [hml]; rfl) (Steps.refl _) (a := b44) (argsL := [(.ref b2)]) (rest := [(.ref b44)]) (lenOf pd_2 rfl) rfl (by show 2 * 0 + _ ≤ _; exact Nat.le_of_eq rfl) (hb hby d1_60) (fun _ _ => ⟨rfl, e44, (by decide : 2 + 1 ≤ _), (by decide : 10 + 6 ≤ _)⟩)
  dsimp only [Pt.U, Pt.locs, Pt.cells, Pt.slots] at X48 l48 y48 z48 st48 hQ48
  subst l48 y48 z48
  obtain ⟨rfl, N48q, Kc48, Es48, Cs48, t48, kb48, gt48, ft48, nt48, Vs48, As48⟩ := hQ48
  have N48 := Fr.app N41 N48q
  have K48 : Keep h0 T48.heap [] := K44.trans Kc48 (allS (Or.inr sz_b44) all0)
  have hcd48 : StrChars.Road.CodA ([(own_hexd ((y0 >>> ((4 : Int32) &&& 31)) &&& (15 : Int32))), (own_hexd (y0 &&& (15 : Int32))), (own_hexd ((y1 >>> ((4 : Int32) &&& 31)) &&& (15 : Int32))), (own_hexd (y1 &&& (15 : Int32))), (own_hexd ((y2 >>> ((4 : Int32) &&& 31)) &&& (15 : Int32))), (own_hexd (y2 &&& (15 : Int32)))] : List Int32) 0 (6 : Int32) ((([(own_hexd ((y0 >>> ((4 : Int32) &&& 31)) &&& (15 : Int32))), (own_hexd (y0 &&& (15 : Int32))), (own_hexd ((y1 >>> ((4 : Int32) &&& 31)) &&& (15 : Int32))), (own_hexd (y1 &&& (15 : Int32))), (own_hexd ((y2 >>> ((4 : Int32) &&& 31)) &&& (15 : Int32))), (own_hexd (y2 &&& (15 : Int32)))] : List Int32).map (fun c => c.toInt8.toInt32)).map Value.int) := StrChars.Road.codOf (n := 6) rfl (fun c hc => (hp45 c hc).2)
  refine Ends.pre (T' := T48.setTop (mkF m 63 #[.val (.ref a), .val (.ref b2), .val (.int (3 : Int32))] [(.ref b44)])) (fun t k => st48.trans k) ?_
  exact Ends.ret (w := (.ref b44)) X48 hx Bd.notSynchronized Bd.returns rfl (Or.inr (Or.inr (Or.inr (Or.inr ⟨rfl, rfl, rfl⟩)))) (hb hby d1_63) rfl ⟨_, _, _, rfl, N48, K48, Es48, Cs48, Vs48, As48⟩ (by decide) (by decide)
theorem pd_3 : parseMethodDescriptor "([B)Ljava/lang/String;" = some ⟨[(.array .byte)], some (.object "java/lang/String")⟩ := by decide +kernel
theorem pd_4 : parseMethodDescriptor "()I" = some ⟨[], some .int⟩ := by decide +kernel
theorem pd_5 : parseMethodDescriptor "(Ljava/lang/String;IB)Z" = some ⟨[(.object "java/lang/String"), .int, .byte], some .boolean⟩ := by decide +kernel
theorem ef_rm0 (m : MethodId) (x0 : Int32) (x1 : Int32) (x2 : Int32) (x3 : Int32) : entryFrame m #[(.int x0), (.int x1), (.int x2), (.int x3)] maxLocals = mkF m 0 #[.val (.int x0), .val (.int x1), .val (.int x2), .val (.int x3), .unset, .unset, .unset, .unset, .unset, .unset, .unset] [] := by first | (simp [entryFrame, mkF, argsToLocals, Value.category, maxLocals]; done) | rfl
def Q_rm0 (Z : State) (x0 : Int32) (x1 : Int32) (x2 : Int32) (x3 : Int32) (da : Addr) (cl : Cell) (cz : Int32) (fm : Value) (h0 : Heap) (n0 : Nat) (v : Option Value) (h : Heap) (L : List Loc) : Prop := v = some (.int 1) ∧ Fr n0 L
set_option maxRecDepth 65536 in
set_option maxHeartbeats 40000000 in
theorem rm0 (l : Launch) (Z : State) (a0 : Array Value) (hw : ∀ d ∈ tables_1, d.before a0 Z = true) (ws : List Jvm.Cond) (x0 : Int32) (x1 : Int32) (x2 : Int32) (x3 : Int32) (da : Addr) (cl : Cell) (cz : Int32) (fm : Value) (h0 : Heap) (n0 : Nat) (Z0 : n0 ≤ h0.size) (SDG : Sta Z h0 "com/example/wireform/wireform/Hex" "DIGITS" "[C" (.ref da)) (ADG : Arr Z h0 da cl .char) (hsz : cl.slots.size = 16) (hel : ∀ j : Int32, ¬ (j < 0 ∨ cl.slots.size ≤ j.toNatClampNeg) → cl.slots[j.toNatClampNeg]? = some (.int (own_hexd j))) (SCS : Sta Z h0 "java/lang/String" "COMPACT_STRINGS" "Z" (.int cz)) (hcz : ¬ cz = 0) (SFM : Sta Z h0 "jdk/internal/util/Preconditions" "SIOOBE_FORMATTER" "Ljava/util/function/BiFunction;" fm) (hfm : fm.isRef = true) :
    MetFree l x (head1 (Jvm.Cond.code x code maxLocals ret :: ws) room_1) (fun aa_ U => aa_ = #[(.int x0), (.int x1), (.int x2), (.int x3)] ∧ Z.Warmed39 U.vm ∧ U.heap = h0 ∧ CHv Z consts_1 U.vm h0) (fun _ _ _ _ _ => True) (fun _ U o U' => ∃ v L, o = .returned v ∧ Q_rm0 Z x0 x1 x2 x3 da cl cz fm h0 n0 v U'.heap L ∧ CHr Z consts_1 U.vm U.heap U'.vm U'.heap ∧ ReturnedEndW U o U' L room_1.cells room_1.slots) := by
  refine MetFree.of_bodySF (plainFor_of_name pn_1) hisR ?_
  intro p e s m args below meth c s₁ Bd hml0 hP hK
  obtain ⟨rfl, hZ, hh, CH0⟩ := hP
  have hx := Bd.exec
  have hby := Bd.bytes
  have hml : c.maxLocals = 11 := hml0
  have hown : s.vm.findClass "com/example/wireform/wireform/HexFormatPinLaw" = some m.cls := findClass_of_methodNamed Bd.named
  have hnm := (name_of_methodNamed Bd.named Bd.method).1
  have X0 : Stand p l e room_1 (s.setVm s.vm) m #[(.int x0), (.int x1), (.int x2), (.int x3)] below meth c s₁ [] 0 0 := Stand.of_body Bd
  have e0 : s₁.heap = h0 := by rw [← hh, Bd.state]; rfl
  have N0 := Fr.nil n0
  have hS0 : s.Since s.vm 0 := own_since s
  have hk0 : 0 ≤ h0.size := Nat.zero_le _
  have CR0 := CHr.refl CH0
  have hEL := own_EW hw
  have wS := own_wS hw
  have hZo := hZ
  refine Ends.cast (P := EndW s room_1 Z consts_1 (Q_rm0 Z x0 x1 x2 x3 da cl cz fm h0 n0)) (ef_rm0 m x0 x1 x2 x3) ?_
  refine Ends.pre (T' := s₁.setTop (mkF m 1 #[.val (.int x0), .val (.int x1), .val (.int x2), .val (.int x3), .unset, .unset, .unset, .unset, .unset, .unset, .unset] [(.int x3)])) (fun t k => XS.iloadN X0.here hx rfl (hb hby at_0) rfl k) ?_
  refine Ends.pre (T' := s₁.setTop (mkF m 2 #[.val (.int x0), .val (.int x1), .val (.int x2), .val (.int x3), .unset, .unset, .unset, .unset, .unset, .unset, .unset] [(.int (3 : Int32)), (.int x3)])) (fun t k => XS.iconst X0.here hx rfl (hb hby at_1) k) ?_
  refine Ends.pre (T' := s₁.setTop (mkF m 3 #[.val (.int x0), .val (.int x1), .val (.int x2), .val (.int x3), .unset, .unset, .unset, .unset, .unset, .unset, .unset] [(.int (x3 &&& (3 : Int32)))])) (fun t k => XS.iand X0.here hx rfl (hb hby at_2) rfl k) ?_
  refine Ends.pre (T' := s₁.setTop (mkF m 5 #[.val (.int x0), .val (.int x1), .val (.int x2), .val (.int x3), .val (.int (x3 &&& (3 : Int32))), .unset, .unset, .unset, .unset, .unset, .unset] [])) (fun t k => XS.istore (g := (mkF m 3 #[.val (.int x0), .val (.int x1), .val (.int x2), .val (.int x3), .unset, .unset, .unset, .unset, .unset, .unset, .unset] [(.int (x3 &&& (3 : Int32)))])) X0.here hx rfl (hb hby at_3) rfl (l' := #[.val (.int x0), .val (.int x1), .val (.int x2), .val (.int x3), .val (.int (x3 &&& (3 : Int32))), .unset, .unset, .unset, .unset, .unset, .unset]) rfl k) ?_
  generalize hv_nn : (x3 &&& (3 : Int32)) = nn
  refine Ends.pre (T' := s₁.setTop (mkF m 6 #[.val (.int x0), .val (.int x1), .val (.int x2), .val (.int x3), .val (.int nn), .unset, .unset, .unset, .unset, .unset, .unset] [(.int x0)])) (fun t k => XS.iloadN X0.here hx rfl (hb hby at_5) rfl k) ?_
  refine Ends.pre (T' := s₁.setTop (mkF m 7 #[.val (.int x0), .val (.int x1), .val (.int x2), .val (.int x3), .val (.int nn), .unset, .unset, .unset, .unset, .unset, .unset] [(.int (x0.toInt8.toInt32))])) (fun t k => XS.i2b X0.here hx rfl (hb hby at_6) rfl k) ?_
  refine Ends.pre (T' := s₁.setTop (mkF m 9 #[.val (.int x0), .val (.int x1), .val (.int x2), .val (.int x3), .val (.int nn), .val (.int (x0.toInt8.toInt32)), .unset, .unset, .unset, .unset, .unset] [])) (fun t k => XS.istore (g := (mkF m 7 #[.val (.int x0), .val (.int x1), .val (.int x2), .val (.int x3), .val (.int nn), .unset, .unset, .unset, .unset, .unset, .unset] [(.int (x0.toInt8.toInt32))])) X0.here hx rfl (hb hby at_7) rfl (l' := #[.val (.int x0), .val (.int x1), .val (.int x2), .val (.int x3), .val (.int nn), .val (.int (x0.toInt8.toInt32)), .unset, .unset, .unset, .unset, .unset]) rfl k) ?_
  generalize hv_y0 : (x0.toInt8.toInt32) = y0
  have nb0 : y0.toInt8.toInt32 = y0 := hv_y0 ▸ own_byte x0
  refine Ends.pre (T' := s₁.setTop (mkF m 10 #[.val (.int x0), .val (.int x1), .val (.int x2), .val (.int x3), .val (.int nn), .val (.int y0), .unset, .unset, .unset, .unset, .unset] [(.int x1)])) (fun t k => XS.iloadN X0.here hx rfl (hb hby at_9) rfl k) ?_
  refine Ends.pre (T' := s₁.setTop (mkF m 11 #[.val (.int x0), .val (.int x1), .val (.int x2), .val (.int x3), .val (.int nn), .val (.int y0), .unset, .unset, .unset, .unset, .unset] [(.int (x1.toInt8.toInt32))])) (fun t k => XS.i2b X0.here hx rfl (hb hby at_10) rfl k) ?_
  refine Ends.pre (T' := s₁.setTop (mkF m 13 #[.val (.int x0), .val (.int x1), .val (.int x2), .val (.int x3), .val (.int nn), .val (.int y0), .val (.int (x1.toInt8.toInt32)), .unset, .unset, .unset, .unset] [])) (fun t k => XS.istore (g := (mkF m 11 #[.val (.int x0), .val (.int x1), .val (.int x2), .val (.int x3), .val (.int nn), .val (.int y0), .unset, .unset, .unset, .unset, .unset] [(.int (x1.toInt8.toInt32))])) X0.here hx rfl (hb hby at_11) rfl (l' := #[.val (.int x0), .val (.int x1), .val (.int x2), .val (.int x3), .val (.int nn), .val (.int y0), .val (.int (x1.toInt8.toInt32)), .unset, .unset, .unset, .unset]) rfl k) ?_
  generalize hv_y1 : (x1.toInt8.toInt32) = y1
  have nb1 : y1.toInt8.toInt32 = y1 := hv_y1 ▸ own_byte x1
  refine Ends.pre (T' := s₁.setTop (mkF m 14 #[.val (.int x0), .val (.int x1), .val (.int x2), .val (.int x3), .val (.int nn), .val (.int y0), .val (.int y1), .unset, .unset, .unset, .unset] [(.int x2)])) (fun t k => XS.iloadN X0.here hx rfl (hb hby at_13) rfl k) ?_
  refine Ends.pre (T' := s₁.setTop (mkF m 15 #[.val (.int x0), .val (.int x1), .val (.int x2), .val (.int x3), .val (.int nn), .val (.int y0), .val (.int y1), .unset, .unset, .unset, .unset] [(.int (x2.toInt8.toInt32))])) (fun t k => XS.i2b X0.here hx rfl (hb hby at_14) rfl k) ?_
  refine Ends.pre (T' := s₁.setTop (mkF m 17 #[.val (.int x0), .val (.int x1), .val (.int x2), .val (.int x3), .val (.int nn), .val (.int y0), .val (.int y1), .val (.int (x2.toInt8.toInt32)), .unset, .unset, .unset] [])) (fun t k => XS.istore (g := (mkF m 15 #[.val (.int x0), .val (.int x1), .val (.int x2), .val (.int x3), .val (.int nn), .val (.int y0), .val (.int y1), .unset, .unset, .unset, .unset] [(.int (x2.toInt8.toInt32))])) X0.here hx rfl (hb hby at_15) rfl (l' := #[.val (.int x0), .val (.int x1), .val (.int x2), .val (.int x3), .val (.int nn), .val (.int y0), .val (.int y1), .val (.int (x2.toInt8.toInt32)), .unset, .unset, .unset]) rfl k) ?_
  generalize hv_y2 : (x2.toInt8.toInt32) = y2
  have nb2 : y2.toInt8.toInt32 = y2 := hv_y2 ▸ own_byte x2
  rcases (hv_nn ▸ own_m4 x3 : nn = 0 ∨ nn = 1 ∨ nn = 2 ∨ nn = 3) with rfl | rfl | rfl | rfl
  · refine Ends.pre (T' := s₁.setTop (mkF m 19 #[.val (.int x0), .val (.int x1), .val (.int x2), .val (.int x3), .val (.int (0 : Int32)), .val (.int y0), .val (.int y1), .val (.int y2), .unset, .unset, .unset] [(.int (0 : Int32))])) (fun t k => XS.iload X0.here hx rfl (hb hby at_17) rfl k) ?_
    refine Ends.pre (T' := s₁.setTop (mkF m 22 #[.val (.int x0), .val (.int x1), .val (.int x2), .val (.int x3), .val (.int (0 : Int32)), .val (.int y0), .val (.int y1), .val (.int y2), .unset, .unset, .unset] [])) (fun t k => XS.ifNo X0.here hx rfl (hb hby at_19) rfl (by decide) k) ?_
    refine Ends.pre (T' := s₁.setTop (mkF m 23 #[.val (.int x0), .val (.int x1), .val (.int x2), .val (.int x3), .val (.int (0 : Int32)), .val (.int y0), .val (.int y1), .val (.int y2), .unset, .unset, .unset] [(.int (0 : Int32))])) (fun t k => XS.iconst X0.here hx rfl (hb hby at_22) k) ?_
    obtain ⟨T1, h1, k1, X1, e1, E1, A1, st1⟩ := newP X0 hx hZ (hw _ (List.mem_of_getElem? (i := 0) rfl)) e0 (g := (mkF m 23 #[.val (.int x0), .val (.int x1), .val (.int x2), .val (.int x3), .val (.int (0 : Int32)), .val (.int y0), .val (.int y1), .val (.int y2), .unset, .unset, .unset] [(.int (0 : Int32))])) rfl (hb hby at_23) rfl (by decide) (cap := 0) (by decide) (by decide) (by decide) (by decide)
    obtain ⟨b1, g1⟩ : ∃ z, z = h0.size := ⟨_, rfl⟩
    rw [← g1] at A1 st1
    have ge_b1 : n0 ≤ b1 := Nat.le_trans Z0 (Nat.le_of_eq g1.symm)
    have sz_b1 : h0.size ≤ b1 := Nat.le_trans (Keep.refl h0 []).1 (Nat.le_of_eq g1.symm)
    have CR1 := CHr.trans CR0 (CHr.ext E1 CH0)
    have K1 : Keep h0 h1 [] := (Keep.refl h0 []).ext E1
    have V1 : Arv Z h1 b1 k1 .byte (0 : Int32) [] (.int (0 : Int32)) := (Arv.new A1 (by decide))
    refine Ends.pre (T' := T1.setTop (mkF m 25 #[.val (.int x0), .val (.int x1), .val (.int x2), .val (.int x3), .val (.int (0 : Int32)), .val (.int y0), .val (.int y1), .val (.int y2), .unset, .unset, .unset] [(.ref b1)])) (fun t k => st1 _ k) ?_
    refine Ends.pre (T' := T1.setTop (mkF m 27 #[.val (.int x0), .val (.int x1), .val (.int x2), .val (.int x3), .val (.int (0 : Int32)), .val (.int y0), .val (.int y1), .val (.int y2), .val (.ref b1), .unset, .unset] [])) (fun t k => XS.astore (g := (mkF m 25 #[.val (.int x0), .val (.int x1), .val (.int x2), .val (.int x3), .val (.int (0 : Int32)), .val (.int y0), .val (.int y1), .val (.int y2), .unset, .unset, .unset] [(.ref b1)])) X1.here hx rfl (hb hby at_25) rfl rfl (l' := #[.val (.int x0), .val (.int x1), .val (.int x2), .val (.int x3), .val (.int (0 : Int32)), .val (.int y0), .val (.int y1), .val (.int y2), .val (.ref b1), .unset, .unset]) rfl k) ?_
    refine Ends.pre (T' := T1.setTop (mkF m 93 #[.val (.int x0), .val (.int x1), .val (.int x2), .val (.int x3), .val (.int (0 : Int32)), .val (.int y0), .val (.int y1), .val (.int y2), .val (.ref b1), .unset, .unset] [])) (fun t k => XS.goto X1.here hx rfl (pc0 := 27) (pc' := 93) rfl (hb hby at_27) (by decide) (by decide) k) ?_
    refine Ends.pre (T' := T1.setTop (mkF m 95 #[.val (.int x0), .val (.int x1), .val (.int x2), .val (.int x3), .val (.int (0 : Int32)), .val (.int y0), .val (.int y1), .val (.int y2), .val (.ref b1), .unset, .unset] [(.ref b1)])) (fun t k => XS.aload X1.here hx rfl (hb hby at_93) rfl rfl k) ?_
    have F2 : Sta Z h1 "com/example/wireform/wireform/Hex" "DIGITS" "[C" (.ref da) := (Sta_keep0 SDG K1)
    have F3 : Sta Z h1 "java/lang/String" "COMPACT_STRINGS" "Z" (.int cz) := (Sta_keep0 SCS K1)
    have F4 : Sta Z h1 "jdk/internal/util/Preconditions" "SIOOBE_FORMATTER" "Ljava/util/function/BiFunction;" fm := (Sta_keep0 SFM K1)
    obtain ⟨_, _, ⟨T5, L5, k5, n5⟩, -, Xa5, hSa5, ga5, ⟨Lc5, hQ5, l5, y5, z5, CRc5⟩, st5⟩ := callSS X1 hx (y := (⟨"com/example/wireform/wireform/Hex", "format", "([B)Ljava/lang/String;"⟩ : MethodName)) hown (mvT hZ (hw _ (List.mem_of_getElem? (i := 1) rfl))) (mvT hZ (hw _ (List.mem_of_getElem? (i := 2) rfl))) (mvT hZ (hw _ (List.mem_of_getElem? (i := 3) rfl))) (mvT hZ (hw _ (List.mem_of_getElem? (i := 4) rfl))) (by decide) (backOfSH (W := 0) (rm1_0 l Z a0 hw [] b1 k1  da cl cz fm h1 n0 (Nat.le_trans Z0 E1.1) V1 F2 (Arr_keep0 ADG K1) hsz hel F3 hcz F4 hfm) hZ (hw _ (List.mem_of_getElem? (i := 4) rfl)) (hw _ (List.mem_of_getElem? (i := 3) rfl)) (by decide) (by decide) hEL CR1.1) (g := (mkF m 95 #[.val (.int x0), .val (.int x1), .val (.int x2), .val (.int x3), .val (.int (0 : Int32)), .val (.int y0), .val (.int y1), .val (.int y2), .val (.ref b1), .unset, .unset] [(.ref b1)])) rfl (by rw [hml]; rfl) (argsL := [(.ref b1)]) (rest := []) (lenOf pd_3 rfl) rfl (by show 2 * 0 + _ ≤ _; exact Nat.le_of_eq rfl) (hb hby at_95) (fun _ _ => ⟨rfl, e1, (by decide : 1 + 6 ≤ _), (by decide : 0 + 12 ≤ _)⟩)
    dsimp only [Pt.U, Pt.locs, Pt.cells, Pt.slots] at Xa5 hSa5 ga5 l5 y5 z5 st5 hQ5 CRc5
    subst l5 y5 z5
    obtain ⟨X5, hS5, hZ5, hown5⟩ := rebS hS0 (n1 := T1.heap.size) (by rw [e1]; exact (Nat.le_trans hk0 E1.1)) Xa5 hSa5 ga5 hZ hown
    obtain ⟨r5, t5, kb5, hQ5⟩ := hQ5
    obtain ⟨rfl, N5q, Kc5, Es5, Cs5, Vs5, As5⟩ := hQ5
    have N5 := Fr.app N0 N5q
    have K5 : Keep h0 T5.heap [] := K1.trans Kc5 all0
    have CR5 := CHr.trans CR1 CRc5
    have hp5 : ∀ c ∈ ([] : List Int32), ¬ c < 0 ∧ ¬ (255 : Int32) < c := own_al0
    have hbd5 := own_up _ hp5
    have hcd5 : StrChars.Road.CodA ([] : List Int32) 0 (0 : Int32) [] := own_lit rfl rfl own_al0
    refine Ends.pre (T' := T5.setTop (mkF m 98 #[.val (.int x0), .val (.int x1), .val (.int x2), .val (.int x3), .val (.int (0 : Int32)), .val (.int y0), .val (.int y1), .val (.int y2), .val (.ref b1), .unset, .unset] [(.ref r5)])) (fun t k => st5.trans k) ?_
    refine Ends.pre (T' := T5.setTop (mkF m 100 #[.val (.int x0), .val (.int x1), .val (.int x2), .val (.int x3), .val (.int (0 : Int32)), .val (.int y0), .val (.int y1), .val (.int y2), .val (.ref b1), .val (.ref r5), .unset] [])) (fun t k => XS.astore (g := (mkF m 98 #[.val (.int x0), .val (.int x1), .val (.int x2), .val (.int x3), .val (.int (0 : Int32)), .val (.int y0), .val (.int y1), .val (.int y2), .val (.ref b1), .unset, .unset] [(.ref r5)])) X5.here hx rfl (hb hby at_98) rfl rfl (l' := #[.val (.int x0), .val (.int x1), .val (.int x2), .val (.int x3), .val (.int (0 : Int32)), .val (.int y0), .val (.int y1), .val (.int y2), .val (.ref b1), .val (.ref r5), .unset]) rfl k) ?_
    refine Ends.pre (T' := T5.setTop (mkF m 102 #[.val (.int x0), .val (.int x1), .val (.int x2), .val (.int x3), .val (.int (0 : Int32)), .val (.int y0), .val (.int y1), .val (.int y2), .val (.ref b1), .val (.ref r5), .unset] [(.ref r5)])) (fun t k => XS.aload X5.here hx rfl (hb hby at_100) rfl rfl k) ?_
    have F6 : Sta Z T5.heap "java/lang/String" "COMPACT_STRINGS" "Z" (.int cz) := (Sta_keep0 SCS K5)
    obtain ⟨cq7, kq7, q7a, q7b, q7c⟩ := isOf hZ5 rfl Es5
    obtain ⟨_, _, ⟨T7, L7, k7, n7⟩, -, X7, ⟨Lc7, hQ7, l7, y7, z7⟩, st7⟩ := X5.virtualBack hx (y := (⟨"java/lang/String", "length", "()I"⟩ : MethodName)) (z := (⟨"java/lang/String", "length", "()I"⟩ : MethodName)) hown5 (mvT hZ5 (hw _ (List.mem_of_getElem? (i := 36) rfl))) (mvT hZ5 (hw _ (List.mem_of_getElem? (i := 37) rfl))) (notFace_of_selects (args := #[]) (mvT hZ5 (hw _ (List.mem_of_getElem? (i := 39) rfl)))) (mvT hZ5 (hw _ (List.mem_of_getElem? (i := 39) rfl))) (mvT hZ5 (hw _ (List.mem_of_getElem? (i := 38) rfl))) (by decide) (StrChars.Road.lenW (W := 0) hZ5 (own_hln hw) (kI := 4) (hw _ (List.mem_of_getElem? (i := 9) rfl)) Es5 Vs5 Cs5 As5 hcd5 hbd5 F6 hcz (Nat.le_of_ble_eq_true rfl) (by decide) (by decide)) q7a q7c (g := (mkF m 102 #[.val (.int x0), .val (.int x1), .val (.int x2), .val (.int x3), .val (.int (0 : Int32)), .val (.int y0), .val (.int y1), .val (.int y2), .val (.ref b1), .val (.ref r5), .unset] [(.ref r5)])) rfl (by rw [hml]; rfl) (Steps.refl _) (argsL := []) (rest := []) (lenOf pd_4 rfl) rfl (by show 2 * 0 + _ ≤ _; exact Nat.le_of_eq rfl) (hb hby at_102) (fun _ _ => ⟨rfl, rfl, (by decide : 7 + 0 ≤ _), (by decide : 12 + 0 ≤ _)⟩)
    dsimp only [Pt.U, Pt.locs, Pt.cells, Pt.slots] at X7 l7 y7 z7 st7 hQ7
    subst l7 y7 z7
    obtain ⟨rfl, rfl, eh7⟩ := hQ7
    have N7 := Fr.app N5 (Fr.nil n0)
    refine Ends.pre (T' := T7.setTop (mkF m 105 #[.val (.int x0), .val (.int x1), .val (.int x2), .val (.int x3), .val (.int (0 : Int32)), .val (.int y0), .val (.int y1), .val (.int y2), .val (.ref b1), .val (.ref r5), .unset] [(.int (0 : Int32))])) (fun t k => st7.trans k) ?_
    refine Ends.pre (T' := T7.setTop (mkF m 106 #[.val (.int x0), .val (.int x1), .val (.int x2), .val (.int x3), .val (.int (0 : Int32)), .val (.int y0), .val (.int y1), .val (.int y2), .val (.ref b1), .val (.ref r5), .unset] [(.int (2 : Int32)), (.int (0 : Int32))])) (fun t k => XS.iconst X7.here hx rfl (hb hby at_105) k) ?_
    refine Ends.pre (T' := T7.setTop (mkF m 108 #[.val (.int x0), .val (.int x1), .val (.int x2), .val (.int x3), .val (.int (0 : Int32)), .val (.int y0), .val (.int y1), .val (.int y2), .val (.ref b1), .val (.ref r5), .unset] [(.int (0 : Int32)), (.int (2 : Int32)), (.int (0 : Int32))])) (fun t k => XS.iload X7.here hx rfl (hb hby at_106) rfl k) ?_
    refine Ends.pre (T' := T7.setTop (mkF m 109 #[.val (.int x0), .val (.int x1), .val (.int x2), .val (.int x3), .val (.int (0 : Int32)), .val (.int y0), .val (.int y1), .val (.int y2), .val (.ref b1), .val (.ref r5), .unset] [(.int (0 : Int32)), (.int (0 : Int32))])) (fun t k => XS.imul X7.here hx rfl (hb hby at_108) rfl k) ?_
    refine Ends.pre (T' := T7.setTop (mkF m 114 #[.val (.int x0), .val (.int x1), .val (.int x2), .val (.int x3), .val (.int (0 : Int32)), .val (.int y0), .val (.int y1), .val (.int y2), .val (.ref b1), .val (.ref r5), .unset] [])) (fun t k => XS.icmpYes X7.here hx rfl (pc0 := 109) (pc' := 114) rfl (hb hby at_109) rfl (by decide) (by decide) (by decide) k) ?_
    refine Ends.pre (T' := T7.setTop (mkF m 115 #[.val (.int x0), .val (.int x1), .val (.int x2), .val (.int x3), .val (.int (0 : Int32)), .val (.int y0), .val (.int y1), .val (.int y2), .val (.ref b1), .val (.ref r5), .unset] [(.int (1 : Int32))])) (fun t k => XS.iconst X7.here hx rfl (hb hby at_114) k) ?_
    refine Ends.pre (T' := T7.setTop (mkF m 117 #[.val (.int x0), .val (.int x1), .val (.int x2), .val (.int x3), .val (.int (0 : Int32)), .val (.int y0), .val (.int y1), .val (.int y2), .val (.ref b1), .val (.ref r5), .val (.int (1 : Int32))] [])) (fun t k => XS.istore (g := (mkF m 115 #[.val (.int x0), .val (.int x1), .val (.int x2), .val (.int x3), .val (.int (0 : Int32)), .val (.int y0), .val (.int y1), .val (.int y2), .val (.ref b1), .val (.ref r5), .unset] [(.int (1 : Int32))])) X7.here hx rfl (hb hby at_115) rfl (l' := #[.val (.int x0), .val (.int x1), .val (.int x2), .val (.int x3), .val (.int (0 : Int32)), .val (.int y0), .val (.int y1), .val (.int y2), .val (.ref b1), .val (.ref r5), .val (.int (1 : Int32))]) rfl k) ?_
    refine Ends.pre (T' := T7.setTop (mkF m 119 #[.val (.int x0), .val (.int x1), .val (.int x2), .val (.int x3), .val (.int (0 : Int32)), .val (.int y0), .val (.int y1), .val (.int y2), .val (.ref b1), .val (.ref r5), .val (.int (1 : Int32))] [(.int (0 : Int32))])) (fun t k => XS.iload X7.here hx rfl (hb hby at_117) rfl k) ?_
    refine Ends.pre (T' := T7.setTop (mkF m 120 #[.val (.int x0), .val (.int x1), .val (.int x2), .val (.int x3), .val (.int (0 : Int32)), .val (.int y0), .val (.int y1), .val (.int y2), .val (.ref b1), .val (.ref r5), .val (.int (1 : Int32))] [(.int (1 : Int32)), (.int (0 : Int32))])) (fun t k => XS.iconst X7.here hx rfl (hb hby at_119) k) ?_
    refine Ends.pre (T' := T7.setTop (mkF m 146 #[.val (.int x0), .val (.int x1), .val (.int x2), .val (.int x3), .val (.int (0 : Int32)), .val (.int y0), .val (.int y1), .val (.int y2), .val (.ref b1), .val (.ref r5), .val (.int (1 : Int32))] [])) (fun t k => XS.icmpYes X7.here hx rfl (pc0 := 120) (pc' := 146) rfl (hb hby at_120) rfl (by decide) (by decide) (by decide) k) ?_
    refine Ends.pre (T' := T7.setTop (mkF m 148 #[.val (.int x0), .val (.int x1), .val (.int x2), .val (.int x3), .val (.int (0 : Int32)), .val (.int y0), .val (.int y1), .val (.int y2), .val (.ref b1), .val (.ref r5), .val (.int (1 : Int32))] [(.int (0 : Int32))])) (fun t k => XS.iload X7.here hx rfl (hb hby at_146) rfl k) ?_
    refine Ends.pre (T' := T7.setTop (mkF m 149 #[.val (.int x0), .val (.int x1), .val (.int x2), .val (.int x3), .val (.int (0 : Int32)), .val (.int y0), .val (.int y1), .val (.int y2), .val (.ref b1), .val (.ref r5), .val (.int (1 : Int32))] [(.int (2 : Int32)), (.int (0 : Int32))])) (fun t k => XS.iconst X7.here hx rfl (hb hby at_148) k) ?_
    refine Ends.pre (T' := T7.setTop (mkF m 175 #[.val (.int x0), .val (.int x1), .val (.int x2), .val (.int x3), .val (.int (0 : Int32)), .val (.int y0), .val (.int y1), .val (.int y2), .val (.ref b1), .val (.ref r5), .val (.int (1 : Int32))] [])) (fun t k => XS.icmpYes X7.here hx rfl (pc0 := 149) (pc' := 175) rfl (hb hby at_149) rfl (by decide) (by decide) (by decide) k) ?_
    refine Ends.pre (T' := T7.setTop (mkF m 177 #[.val (.int x0), .val (.int x1), .val (.int x2), .val (.int x3), .val (.int (0 : Int32)), .val (.int y0), .val (.int y1), .val (.int y2), .val (.ref b1), .val (.ref r5), .val (.int (1 : Int32))] [(.int (0 : Int32))])) (fun t k => XS.iload X7.here hx rfl (hb hby at_175) rfl k) ?_
    refine Ends.pre (T' := T7.setTop (mkF m 178 #[.val (.int x0), .val (.int x1), .val (.int x2), .val (.int x3), .val (.int (0 : Int32)), .val (.int y0), .val (.int y1), .val (.int y2), .val (.ref b1), .val (.ref r5), .val (.int (1 : Int32))] [(.int (3 : Int32)), (.int (0 : Int32))])) (fun t k => XS.iconst X7.here hx rfl (hb hby at_177) k) ?_
    refine Ends.pre (T' := T7.setTop (mkF m 204 #[.val (.int x0), .val (.int x1), .val (.int x2), .val (.int x3), .val (.int (0 : Int32)), .val (.int y0), .val (.int y1), .val (.int y2), .val (.ref b1), .val (.ref r5), .val (.int (1 : Int32))] [])) (fun t k => XS.icmpYes X7.here hx rfl (pc0 := 178) (pc' := 204) rfl (hb hby at_178) rfl (by decide) (by decide) (by decide) k) ?_
    refine Ends.pre (T' := T7.setTop (mkF m 206 #[.val (.int x0), .val (.int x1), .val (.int x2), .val (.int x3), .val (.int (0 : Int32)), .val (.int y0), .val (.int y1), .val (.int y2), .val (.ref b1), .val (.ref r5), .val (.int (1 : Int32))] [(.int (1 : Int32))])) (fun t k => XS.iload X7.here hx rfl (hb hby at_204) rfl k) ?_
    exact Ends.retW (w := (.int (1 : Int32))) X7 hx Bd.notSynchronized Bd.returns rfl (Or.inl ⟨rfl, Or.inr (Or.inl rfl), _, rfl⟩) (hb hby at_206) eh7 hZ5 hEL hS5 (Nat.le_refl _) hh CR5 ⟨rfl, N7⟩ (by decide) (by decide)
  · refine Ends.pre (T' := s₁.setTop (mkF m 19 #[.val (.int x0), .val (.int x1), .val (.int x2), .val (.int x3), .val (.int (1 : Int32)), .val (.int y0), .val (.int y1), .val (.int y2), .unset, .unset, .unset] [(.int (1 : Int32))])) (fun t k => XS.iload X0.here hx rfl (hb hby at_17) rfl k) ?_
    refine Ends.pre (T' := s₁.setTop (mkF m 30 #[.val (.int x0), .val (.int x1), .val (.int x2), .val (.int x3), .val (.int (1 : Int32)), .val (.int y0), .val (.int y1), .val (.int y2), .unset, .unset, .unset] [])) (fun t k => XS.ifYes X0.here hx rfl (pc0 := 19) (pc' := 30) rfl (hb hby at_19) rfl (by decide) (by decide) (by decide) k) ?_
    refine Ends.pre (T' := s₁.setTop (mkF m 32 #[.val (.int x0), .val (.int x1), .val (.int x2), .val (.int x3), .val (.int (1 : Int32)), .val (.int y0), .val (.int y1), .val (.int y2), .unset, .unset, .unset] [(.int (1 : Int32))])) (fun t k => XS.iload X0.here hx rfl (hb hby at_30) rfl k) ?_
    refine Ends.pre (T' := s₁.setTop (mkF m 33 #[.val (.int x0), .val (.int x1), .val (.int x2), .val (.int x3), .val (.int (1 : Int32)), .val (.int y0), .val (.int y1), .val (.int y2), .unset, .unset, .unset] [(.int (1 : Int32)), (.int (1 : Int32))])) (fun t k => XS.iconst X0.here hx rfl (hb hby at_32) k) ?_
    refine Ends.pre (T' := s₁.setTop (mkF m 36 #[.val (.int x0), .val (.int x1), .val (.int x2), .val (.int x3), .val (.int (1 : Int32)), .val (.int y0), .val (.int y1), .val (.int y2), .unset, .unset, .unset] [])) (fun t k => XS.icmpNo X0.here hx rfl (hb hby at_33) rfl (by decide) k) ?_
    refine Ends.pre (T' := s₁.setTop (mkF m 37 #[.val (.int x0), .val (.int x1), .val (.int x2), .val (.int x3), .val (.int (1 : Int32)), .val (.int y0), .val (.int y1), .val (.int y2), .unset, .unset, .unset] [(.int (1 : Int32))])) (fun t k => XS.iconst X0.here hx rfl (hb hby at_36) k) ?_
    obtain ⟨T8, h8, k8, X8, e8, E8, A8, st8⟩ := newP X0 hx hZ (hw _ (List.mem_of_getElem? (i := 0) rfl)) e0 (g := (mkF m 37 #[.val (.int x0), .val (.int x1), .val (.int x2), .val (.int x3), .val (.int (1 : Int32)), .val (.int y0), .val (.int y1), .val (.int y2), .unset, .unset, .unset] [(.int (1 : Int32))])) rfl (hb hby at_37) rfl (by decide) (cap := 1) (by decide) (by decide) (by decide) (by decide)
    obtain ⟨b8, g8⟩ : ∃ z, z = h0.size := ⟨_, rfl⟩
    rw [← g8] at A8 st8
    have ge_b8 : n0 ≤ b8 := Nat.le_trans Z0 (Nat.le_of_eq g8.symm)
    have sz_b8 : h0.size ≤ b8 := Nat.le_trans (Keep.refl h0 []).1 (Nat.le_of_eq g8.symm)
    have CR8 := CHr.trans CR0 (CHr.ext E8 CH0)
    have K8 : Keep h0 h8 [] := (Keep.refl h0 []).ext E8
    have V8 : Arv Z h8 b8 k8 .byte (1 : Int32) [(.int (0 : Int32))] (.int (0 : Int32)) := (Arv.new A8 (by decide)).pad (pad_rep [] (.int (0 : Int32)) 1)
    refine Ends.pre (T' := T8.setTop (mkF m 39 #[.val (.int x0), .val (.int x1), .val (.int x2), .val (.int x3), .val (.int (1 : Int32)), .val (.int y0), .val (.int y1), .val (.int y2), .unset, .unset, .unset] [(.ref b8)])) (fun t k => st8 _ k) ?_
    refine Ends.pre (T' := T8.setTop (mkF m 40 #[.val (.int x0), .val (.int x1), .val (.int x2), .val (.int x3), .val (.int (1 : Int32)), .val (.int y0), .val (.int y1), .val (.int y2), .unset, .unset, .unset] [(.ref b8), (.ref b8)])) (fun t k => XS.dup X8.here hx rfl (hb hby at_39) rfl rfl k) ?_
    refine Ends.pre (T' := T8.setTop (mkF m 41 #[.val (.int x0), .val (.int x1), .val (.int x2), .val (.int x3), .val (.int (1 : Int32)), .val (.int y0), .val (.int y1), .val (.int y2), .unset, .unset, .unset] [(.int (0 : Int32)), (.ref b8), (.ref b8)])) (fun t k => XS.iconst X8.here hx rfl (hb hby at_40) k) ?_
    refine Ends.pre (T' := T8.setTop (mkF m 43 #[.val (.int x0), .val (.int x1), .val (.int x2), .val (.int x3), .val (.int (1 : Int32)), .val (.int y0), .val (.int y1), .val (.int y2), .unset, .unset, .unset] [(.int y0), (.int (0 : Int32)), (.ref b8), (.ref b8)])) (fun t k => XS.iload X8.here hx rfl (hb hby at_41) rfl k) ?_
    obtain ⟨cl9, Ar9, q9, S9, N9', H9, G9⟩ := id V8
    have hin9 : ¬ ((0 : Int32) < 0 ∨ cl9.slots.size ≤ ((0 : Int32)).toNatClampNeg) := inb_of S9 ⟨by decide, by decide⟩
    obtain ⟨T9, h9, X9, e9, W9, st9⟩ := stB X8 hx hZ e8 Ar9 (j := (0 : Int32)) hin9 (g := (mkF m 43 #[.val (.int x0), .val (.int x1), .val (.int x2), .val (.int x3), .val (.int (1 : Int32)), .val (.int y0), .val (.int y1), .val (.int y2), .unset, .unset, .unset] [(.int y0), (.int (0 : Int32)), (.ref b8), (.ref b8)])) rfl rfl (hb hby at_43)
    have CR9 := CHr.trans CR8 (CHr.wr W9 (Safe.ext E8 CH0 (Safe.new (Nat.le_of_eq g8.symm))) CR8.1)
    have V9 : Arv Z h9 b8 k8 .byte (1 : Int32) [(.int y0)] (.int (0 : Int32)) := (by have q := Arv.set Ar9 q9 S9 N9' H9 G9 (fits_nar_byte _) W9 0 rfl (Nat.le_of_ble_eq_true rfl); rw [nb0] at q; exact q)
    have N9 := Fr.snoc X9 N0 ge_b8
    refine Ends.pre (T' := T9.setTop (mkF m 44 #[.val (.int x0), .val (.int x1), .val (.int x2), .val (.int x3), .val (.int (1 : Int32)), .val (.int y0), .val (.int y1), .val (.int y2), .unset, .unset, .unset] [(.ref b8)])) (fun t k => st9 _ k) ?_
    have K9 : Keep h0 h9 [] := K8.wr W9 (Or.inr sz_b8)
    refine Ends.pre (T' := T9.setTop (mkF m 46 #[.val (.int x0), .val (.int x1), .val (.int x2), .val (.int x3), .val (.int (1 : Int32)), .val (.int y0), .val (.int y1), .val (.int y2), .val (.ref b8), .unset, .unset] [])) (fun t k => XS.astore (g := (mkF m 44 #[.val (.int x0), .val (.int x1), .val (.int x2), .val (.int x3), .val (.int (1 : Int32)), .val (.int y0), .val (.int y1), .val (.int y2), .unset, .unset, .unset] [(.ref b8)])) X9.here hx rfl (hb hby at_44) rfl rfl (l' := #[.val (.int x0), .val (.int x1), .val (.int x2), .val (.int x3), .val (.int (1 : Int32)), .val (.int y0), .val (.int y1), .val (.int y2), .val (.ref b8), .unset, .unset]) rfl k) ?_
    refine Ends.pre (T' := T9.setTop (mkF m 93 #[.val (.int x0), .val (.int x1), .val (.int x2), .val (.int x3), .val (.int (1 : Int32)), .val (.int y0), .val (.int y1), .val (.int y2), .val (.ref b8), .unset, .unset] [])) (fun t k => XS.goto X9.here hx rfl (pc0 := 46) (pc' := 93) rfl (hb hby at_46) (by decide) (by decide) k) ?_
    refine Ends.pre (T' := T9.setTop (mkF m 95 #[.val (.int x0), .val (.int x1), .val (.int x2), .val (.int x3), .val (.int (1 : Int32)), .val (.int y0), .val (.int y1), .val (.int y2), .val (.ref b8), .unset, .unset] [(.ref b8)])) (fun t k => XS.aload X9.here hx rfl (hb hby at_93) rfl rfl k) ?_
    have F10 : Sta Z h9 "com/example/wireform/wireform/Hex" "DIGITS" "[C" (.ref da) := (Sta_keep0 SDG K9)
    have F11 : Sta Z h9 "java/lang/String" "COMPACT_STRINGS" "Z" (.int cz) := (Sta_keep0 SCS K9)
    have F12 : Sta Z h9 "jdk/internal/util/Preconditions" "SIOOBE_FORMATTER" "Ljava/util/function/BiFunction;" fm := (Sta_keep0 SFM K9)
    obtain ⟨_, _, ⟨T13, L13, k13, n13⟩, -, X13, ⟨Lc13, hQ13, l13, y13, z13⟩, st13⟩ := Jvm.LawKit.callS X9 hx (y := (⟨"com/example/wireform/wireform/Hex", "format", "([B)Ljava/lang/String;"⟩ : MethodName)) hown (mvT hZ (hw _ (List.mem_of_getElem? (i := 1) rfl))) (mvT hZ (hw _ (List.mem_of_getElem? (i := 2) rfl))) (mvT hZ (hw _ (List.mem_of_getElem? (i := 3) rfl))) (mvT hZ (hw _ (List.mem_of_getElem? (i := 4) rfl))) (by decide) (backOf (W := 0) (rm1_1 l Z a0 hw [] b8 k8 y0 da cl cz fm h9 n0 (Nat.le_trans (Nat.le_trans Z0 E8.1) (Keep.of_wr W9).1) V9 F10 (Arr_keep0 ADG K9) hsz hel F11 hcz F12 hfm) hZ (hw _ (List.mem_of_getElem? (i := 4) rfl)) (hw _ (List.mem_of_getElem? (i := 3) rfl)) (by decide) (by decide)) (g := (mkF m 95 #[.val (.int x0), .val (.int x1), .val (.int x2), .val (.int x3), .val (.int (1 : Int32)), .val (.int y0), .val (.int y1), .val (.int y2), .val (.ref b8), .unset, .unset] [(.ref b8)])) rfl (by rw [hml]; rfl) (argsL := [(.ref b8)]) (rest := []) (lenOf pd_3 rfl) rfl (by show 2 * 0 + _ ≤ _; exact Nat.le_of_eq rfl) (hb hby at_95) (fun _ _ => ⟨rfl, e9, (by decide : 1 + 3 ≤ _), (by decide : 1 + 8 ≤ _)⟩)
    dsimp only [Pt.U, Pt.locs, Pt.cells, Pt.slots] at X13 l13 y13 z13 st13 hQ13
    subst l13 y13 z13
    obtain ⟨r13, t13, kb13, hQ13⟩ := hQ13
    obtain ⟨rfl, N13q, Kc13, Es13, Cs13, Vs13, As13⟩ := hQ13
    have N13 := Fr.app N9 N13q
    have K13 : Keep h0 T13.heap [] := K9.trans Kc13 all0
    have CR13 := CHr.trans CR9 (CHr.keep Kc13 sf0 CR9.1)
    have hp13 : ∀ c ∈ ([(own_hexd ((y0 >>> ((4 : Int32) &&& 31)) &&& (15 : Int32))), (own_hexd (y0 &&& (15 : Int32)))] : List Int32), ¬ c < 0 ∧ ¬ (255 : Int32) < c := (own_alS (own_hexr (own_and15 _)) (own_alS (own_hexr (own_and15 _)) own_al0))
    have hbd13 := own_up _ hp13
    have hcd13 : StrChars.Road.CodA ([(own_hexd ((y0 >>> ((4 : Int32) &&& 31)) &&& (15 : Int32))), (own_hexd (y0 &&& (15 : Int32)))] : List Int32) 0 (2 : Int32) ((([(own_hexd ((y0 >>> ((4 : Int32) &&& 31)) &&& (15 : Int32))), (own_hexd (y0 &&& (15 : Int32)))] : List Int32).map (fun c => c.toInt8.toInt32)).map Value.int) := StrChars.Road.codOf (n := 2) rfl (fun c hc => (hp13 c hc).2)
    refine Ends.pre (T' := T13.setTop (mkF m 98 #[.val (.int x0), .val (.int x1), .val (.int x2), .val (.int x3), .val (.int (1 : Int32)), .val (.int y0), .val (.int y1), .val (.int y2), .val (.ref b8), .unset, .unset] [(.ref r13)])) (fun t k => st13 _ k) ?_
    refine Ends.pre (T' := T13.setTop (mkF m 100 #[.val (.int x0), .val (.int x1), .val (.int x2), .val (.int x3), .val (.int (1 : Int32)), .val (.int y0), .val (.int y1), .val (.int y2), .val (.ref b8), .val (.ref r13), .unset] [])) (fun t k => XS.astore (g := (mkF m 98 #[.val (.int x0), .val (.int x1), .val (.int x2), .val (.int x3), .val (.int (1 : Int32)), .val (.int y0), .val (.int y1), .val (.int y2), .val (.ref b8), .unset, .unset] [(.ref r13)])) X13.here hx rfl (hb hby at_98) rfl rfl (l' := #[.val (.int x0), .val (.int x1), .val (.int x2), .val (.int x3), .val (.int (1 : Int32)), .val (.int y0), .val (.int y1), .val (.int y2), .val (.ref b8), .val (.ref r13), .unset]) rfl k) ?_
    refine Ends.pre (T' := T13.setTop (mkF m 102 #[.val (.int x0), .val (.int x1), .val (.int x2), .val (.int x3), .val (.int (1 : Int32)), .val (.int y0), .val (.int y1), .val (.int y2), .val (.ref b8), .val (.ref r13), .unset] [(.ref r13)])) (fun t k => XS.aload X13.here hx rfl (hb hby at_100) rfl rfl k) ?_
    have F14 : Sta Z T13.heap "java/lang/String" "COMPACT_STRINGS" "Z" (.int cz) := (Sta_keep0 SCS K13)
    obtain ⟨cq15, kq15, q15a, q15b, q15c⟩ := isOf hZ rfl Es13
    obtain ⟨_, _, ⟨T15, L15, k15, n15⟩, -, X15, ⟨Lc15, hQ15, l15, y15, z15⟩, st15⟩ := X13.virtualBack hx (y := (⟨"java/lang/String", "length", "()I"⟩ : MethodName)) (z := (⟨"java/lang/String", "length", "()I"⟩ : MethodName)) hown (mvT hZ (hw _ (List.mem_of_getElem? (i := 36) rfl))) (mvT hZ (hw _ (List.mem_of_getElem? (i := 37) rfl))) (notFace_of_selects (args := #[]) (mvT hZ (hw _ (List.mem_of_getElem? (i := 39) rfl)))) (mvT hZ (hw _ (List.mem_of_getElem? (i := 39) rfl))) (mvT hZ (hw _ (List.mem_of_getElem? (i := 38) rfl))) (by decide) (StrChars.Road.lenW (W := 0) hZ (own_hln hw) (kI := 4) (hw _ (List.mem_of_getElem? (i := 9) rfl)) Es13 Vs13 Cs13 As13 hcd13 hbd13 F14 hcz (Nat.le_of_ble_eq_true rfl) (by decide) (by decide)) q15a q15c (g := (mkF m 102 #[.val (.int x0), .val (.int x1), .val (.int x2), .val (.int x3), .val (.int (1 : Int32)), .val (.int y0), .val (.int y1), .val (.int y2), .val (.ref b8), .val (.ref r13), .unset] [(.ref r13)])) rfl (by rw [hml]; rfl) (Steps.refl _) (argsL := []) (rest := []) (lenOf pd_4 rfl) rfl (by show 2 * 0 + _ ≤ _; exact Nat.le_of_eq rfl) (hb hby at_102) (fun _ _ => ⟨rfl, rfl, (by decide : 4 + 0 ≤ _), (by decide : 9 + 0 ≤ _)⟩)
    dsimp only [Pt.U, Pt.locs, Pt.cells, Pt.slots] at X15 l15 y15 z15 st15 hQ15
    subst l15 y15 z15
    obtain ⟨rfl, rfl, eh15⟩ := hQ15
    have N15 := Fr.app N13 (Fr.nil n0)
    refine Ends.pre (T' := T15.setTop (mkF m 105 #[.val (.int x0), .val (.int x1), .val (.int x2), .val (.int x3), .val (.int (1 : Int32)), .val (.int y0), .val (.int y1), .val (.int y2), .val (.ref b8), .val (.ref r13), .unset] [(.int (2 : Int32))])) (fun t k => st15.trans k) ?_
    refine Ends.pre (T' := T15.setTop (mkF m 106 #[.val (.int x0), .val (.int x1), .val (.int x2), .val (.int x3), .val (.int (1 : Int32)), .val (.int y0), .val (.int y1), .val (.int y2), .val (.ref b8), .val (.ref r13), .unset] [(.int (2 : Int32)), (.int (2 : Int32))])) (fun t k => XS.iconst X15.here hx rfl (hb hby at_105) k) ?_
    refine Ends.pre (T' := T15.setTop (mkF m 108 #[.val (.int x0), .val (.int x1), .val (.int x2), .val (.int x3), .val (.int (1 : Int32)), .val (.int y0), .val (.int y1), .val (.int y2), .val (.ref b8), .val (.ref r13), .unset] [(.int (1 : Int32)), (.int (2 : Int32)), (.int (2 : Int32))])) (fun t k => XS.iload X15.here hx rfl (hb hby at_106) rfl k) ?_
    refine Ends.pre (T' := T15.setTop (mkF m 109 #[.val (.int x0), .val (.int x1), .val (.int x2), .val (.int x3), .val (.int (1 : Int32)), .val (.int y0), .val (.int y1), .val (.int y2), .val (.ref b8), .val (.ref r13), .unset] [(.int (2 : Int32)), (.int (2 : Int32))])) (fun t k => XS.imul X15.here hx rfl (hb hby at_108) rfl k) ?_
    refine Ends.pre (T' := T15.setTop (mkF m 114 #[.val (.int x0), .val (.int x1), .val (.int x2), .val (.int x3), .val (.int (1 : Int32)), .val (.int y0), .val (.int y1), .val (.int y2), .val (.ref b8), .val (.ref r13), .unset] [])) (fun t k => XS.icmpYes X15.here hx rfl (pc0 := 109) (pc' := 114) rfl (hb hby at_109) rfl (by decide) (by decide) (by decide) k) ?_
    refine Ends.pre (T' := T15.setTop (mkF m 115 #[.val (.int x0), .val (.int x1), .val (.int x2), .val (.int x3), .val (.int (1 : Int32)), .val (.int y0), .val (.int y1), .val (.int y2), .val (.ref b8), .val (.ref r13), .unset] [(.int (1 : Int32))])) (fun t k => XS.iconst X15.here hx rfl (hb hby at_114) k) ?_
    refine Ends.pre (T' := T15.setTop (mkF m 117 #[.val (.int x0), .val (.int x1), .val (.int x2), .val (.int x3), .val (.int (1 : Int32)), .val (.int y0), .val (.int y1), .val (.int y2), .val (.ref b8), .val (.ref r13), .val (.int (1 : Int32))] [])) (fun t k => XS.istore (g := (mkF m 115 #[.val (.int x0), .val (.int x1), .val (.int x2), .val (.int x3), .val (.int (1 : Int32)), .val (.int y0), .val (.int y1), .val (.int y2), .val (.ref b8), .val (.ref r13), .unset] [(.int (1 : Int32))])) X15.here hx rfl (hb hby at_115) rfl (l' := #[.val (.int x0), .val (.int x1), .val (.int x2), .val (.int x3), .val (.int (1 : Int32)), .val (.int y0), .val (.int y1), .val (.int y2), .val (.ref b8), .val (.ref r13), .val (.int (1 : Int32))]) rfl k) ?_
    refine Ends.pre (T' := T15.setTop (mkF m 119 #[.val (.int x0), .val (.int x1), .val (.int x2), .val (.int x3), .val (.int (1 : Int32)), .val (.int y0), .val (.int y1), .val (.int y2), .val (.ref b8), .val (.ref r13), .val (.int (1 : Int32))] [(.int (1 : Int32))])) (fun t k => XS.iload X15.here hx rfl (hb hby at_117) rfl k) ?_
    refine Ends.pre (T' := T15.setTop (mkF m 120 #[.val (.int x0), .val (.int x1), .val (.int x2), .val (.int x3), .val (.int (1 : Int32)), .val (.int y0), .val (.int y1), .val (.int y2), .val (.ref b8), .val (.ref r13), .val (.int (1 : Int32))] [(.int (1 : Int32)), (.int (1 : Int32))])) (fun t k => XS.iconst X15.here hx rfl (hb hby at_119) k) ?_
    refine Ends.pre (T' := T15.setTop (mkF m 123 #[.val (.int x0), .val (.int x1), .val (.int x2), .val (.int x3), .val (.int (1 : Int32)), .val (.int y0), .val (.int y1), .val (.int y2), .val (.ref b8), .val (.ref r13), .val (.int (1 : Int32))] [])) (fun t k => XS.icmpNo X15.here hx rfl (hb hby at_120) rfl (by decide) k) ?_
    refine Ends.pre (T' := T15.setTop (mkF m 125 #[.val (.int x0), .val (.int x1), .val (.int x2), .val (.int x3), .val (.int (1 : Int32)), .val (.int y0), .val (.int y1), .val (.int y2), .val (.ref b8), .val (.ref r13), .val (.int (1 : Int32))] [(.int (1 : Int32))])) (fun t k => XS.iload X15.here hx rfl (hb hby at_123) rfl k) ?_
    refine Ends.pre (T' := T15.setTop (mkF m 128 #[.val (.int x0), .val (.int x1), .val (.int x2), .val (.int x3), .val (.int (1 : Int32)), .val (.int y0), .val (.int y1), .val (.int y2), .val (.ref b8), .val (.ref r13), .val (.int (1 : Int32))] [])) (fun t k => XS.ifNo X15.here hx rfl (hb hby at_125) rfl (by decide) k) ?_
    refine Ends.pre (T' := T15.setTop (mkF m 130 #[.val (.int x0), .val (.int x1), .val (.int x2), .val (.int x3), .val (.int (1 : Int32)), .val (.int y0), .val (.int y1), .val (.int y2), .val (.ref b8), .val (.ref r13), .val (.int (1 : Int32))] [(.ref r13)])) (fun t k => XS.aload X15.here hx rfl (hb hby at_128) rfl rfl k) ?_
    refine Ends.pre (T' := T15.setTop (mkF m 131 #[.val (.int x0), .val (.int x1), .val (.int x2), .val (.int x3), .val (.int (1 : Int32)), .val (.int y0), .val (.int y1), .val (.int y2), .val (.ref b8), .val (.ref r13), .val (.int (1 : Int32))] [(.int (0 : Int32)), (.ref r13)])) (fun t k => XS.iconst X15.here hx rfl (hb hby at_130) k) ?_
    refine Ends.pre (T' := T15.setTop (mkF m 133 #[.val (.int x0), .val (.int x1), .val (.int x2), .val (.int x3), .val (.int (1 : Int32)), .val (.int y0), .val (.int y1), .val (.int y2), .val (.ref b8), .val (.ref r13), .val (.int (1 : Int32))] [(.int y0), (.int (0 : Int32)), (.ref r13)])) (fun t k => XS.iload X15.here hx rfl (hb hby at_131) rfl k) ?_
    have F16 : Sta Z T13.heap "jdk/internal/util/Preconditions" "SIOOBE_FORMATTER" "Ljava/util/function/BiFunction;" fm := (Sta_keep0 SFM K13)
    obtain ⟨_, _, ⟨T17, L17, k17, n17⟩, -, X17, ⟨Lc17, hQ17, l17, y17, z17⟩, st17⟩ := Jvm.LawKit.callS X15 hx (y := (⟨"com/example/wireform/wireform/HexFormatPinLaw", "pair", "(Ljava/lang/String;IB)Z"⟩ : MethodName)) hown (mvT hZ (hw _ (List.mem_of_getElem? (i := 46) rfl))) (mvT hZ (hw _ (List.mem_of_getElem? (i := 47) rfl))) (mvT hZ (hw _ (List.mem_of_getElem? (i := 48) rfl))) (mvT hZ (hw _ (List.mem_of_getElem? (i := 49) rfl))) (by decide) (backOf (W := 0) (rm10_0 l Z a0 hw [] r13 t13 kb13 ([(own_hexd ((y0 >>> ((4 : Int32) &&& 31)) &&& (15 : Int32))), (own_hexd (y0 &&& (15 : Int32)))] : List Int32) (2 : Int32) _ y0 cz fm T13.heap n0 (Nat.le_trans (Nat.le_trans (Nat.le_trans Z0 E8.1) (Keep.of_wr W9).1) Kc13.1) Es13 Cs13 Vs13 As13 hcd13 hbd13 (Nat.le_of_ble_eq_true rfl) (Nat.le_of_ble_eq_true rfl) (Nat.le_of_ble_eq_true rfl) rfl rfl F14 hcz F16 hfm) hZ (hw _ (List.mem_of_getElem? (i := 49) rfl)) (hw _ (List.mem_of_getElem? (i := 48) rfl)) (by decide) (by decide)) (g := (mkF m 133 #[.val (.int x0), .val (.int x1), .val (.int x2), .val (.int x3), .val (.int (1 : Int32)), .val (.int y0), .val (.int y1), .val (.int y2), .val (.ref b8), .val (.ref r13), .val (.int (1 : Int32))] [(.int y0), (.int (0 : Int32)), (.ref r13)])) rfl (by rw [hml]; rfl) (argsL := [(.ref r13), (.int (0 : Int32)), (.int y0)]) (rest := []) (lenOf pd_5 rfl) rfl (by show 2 * 0 + _ ≤ _; exact Nat.le_of_eq rfl) (hb hby at_133) (fun _ _ => ⟨rfl, eh15, (by decide : 4 + 0 ≤ _), (by decide : 9 + 0 ≤ _)⟩)
    dsimp only [Pt.U, Pt.locs, Pt.cells, Pt.slots] at X17 l17 y17 z17 st17 hQ17
    subst l17 y17 z17
    obtain ⟨rfl, N17q, eh17⟩ := hQ17
    have N17 := Fr.app N15 N17q
    refine Ends.pre (T' := T17.setTop (mkF m 136 #[.val (.int x0), .val (.int x1), .val (.int x2), .val (.int x3), .val (.int (1 : Int32)), .val (.int y0), .val (.int y1), .val (.int y2), .val (.ref b8), .val (.ref r13), .val (.int (1 : Int32))] [(.int (1 : Int32))])) (fun t k => st17 _ k) ?_
    refine Ends.pre (T' := T17.setTop (mkF m 139 #[.val (.int x0), .val (.int x1), .val (.int x2), .val (.int x3), .val (.int (1 : Int32)), .val (.int y0), .val (.int y1), .val (.int y2), .val (.ref b8), .val (.ref r13), .val (.int (1 : Int32))] [])) (fun t k => XS.ifNo X17.here hx rfl (hb hby at_136) rfl (by decide) k) ?_
    refine Ends.pre (T' := T17.setTop (mkF m 140 #[.val (.int x0), .val (.int x1), .val (.int x2), .val (.int x3), .val (.int (1 : Int32)), .val (.int y0), .val (.int y1), .val (.int y2), .val (.ref b8), .val (.ref r13), .val (.int (1 : Int32))] [(.int (1 : Int32))])) (fun t k => XS.iconst X17.here hx rfl (hb hby at_139) k) ?_
    refine Ends.pre (T' := T17.setTop (mkF m 144 #[.val (.int x0), .val (.int x1), .val (.int x2), .val (.int x3), .val (.int (1 : Int32)), .val (.int y0), .val (.int y1), .val (.int y2), .val (.ref b8), .val (.ref r13), .val (.int (1 : Int32))] [(.int (1 : Int32))])) (fun t k => XS.goto X17.here hx rfl (pc0 := 140) (pc' := 144) rfl (hb hby at_140) (by decide) (by decide) k) ?_
    refine Ends.pre (T' := T17.setTop (mkF m 146 #[.val (.int x0), .val (.int x1), .val (.int x2), .val (.int x3), .val (.int (1 : Int32)), .val (.int y0), .val (.int y1), .val (.int y2), .val (.ref b8), .val (.ref r13), .val (.int (1 : Int32))] [])) (fun t k => XS.istore (g := (mkF m 144 #[.val (.int x0), .val (.int x1), .val (.int x2), .val (.int x3), .val (.int (1 : Int32)), .val (.int y0), .val (.int y1), .val (.int y2), .val (.ref b8), .val (.ref r13), .val (.int (1 : Int32))] [(.int (1 : Int32))])) X17.here hx rfl (hb hby at_144) rfl (l' := #[.val (.int x0), .val (.int x1), .val (.int x2), .val (.int x3), .val (.int (1 : Int32)), .val (.int y0), .val (.int y1), .val (.int y2), .val (.ref b8), .val (.ref r13), .val (.int (1 : Int32))]) rfl k) ?_
    refine Ends.pre (T' := T17.setTop (mkF m 148 #[.val (.int x0), .val (.int x1), .val (.int x2), .val (.int x3), .val (.int (1 : Int32)), .val (.int y0), .val (.int y1), .val (.int y2), .val (.ref b8), .val (.ref r13), .val (.int (1 : Int32))] [(.int (1 : Int32))])) (fun t k => XS.iload X17.here hx rfl (hb hby at_146) rfl k) ?_
    refine Ends.pre (T' := T17.setTop (mkF m 149 #[.val (.int x0), .val (.int x1), .val (.int x2), .val (.int x3), .val (.int (1 : Int32)), .val (.int y0), .val (.int y1), .val (.int y2), .val (.ref b8), .val (.ref r13), .val (.int (1 : Int32))] [(.int (2 : Int32)), (.int (1 : Int32))])) (fun t k => XS.iconst X17.here hx rfl (hb hby at_148) k) ?_
    refine Ends.pre (T' := T17.setTop (mkF m 175 #[.val (.int x0), .val (.int x1), .val (.int x2), .val (.int x3), .val (.int (1 : Int32)), .val (.int y0), .val (.int y1), .val (.int y2), .val (.ref b8), .val (.ref r13), .val (.int (1 : Int32))] [])) (fun t k => XS.icmpYes X17.here hx rfl (pc0 := 149) (pc' := 175) rfl (hb hby at_149) rfl (by decide) (by decide) (by decide) k) ?_
    refine Ends.pre (T' := T17.setTop (mkF m 177 #[.val (.int x0), .val (.int x1), .val (.int x2), .val (.int x3), .val (.int (1 : Int32)), .val (.int y0), .val (.int y1), .val (.int y2), .val (.ref b8), .val (.ref r13), .val (.int (1 : Int32))] [(.int (1 : Int32))])) (fun t k => XS.iload X17.here hx rfl (hb hby at_175) rfl k) ?_
    refine Ends.pre (T' := T17.setTop (mkF m 178 #[.val (.int x0), .val (.int x1), .val (.int x2), .val (.int x3), .val (.int (1 : Int32)), .val (.int y0), .val (.int y1), .val (.int y2), .val (.ref b8), .val (.ref r13), .val (.int (1 : Int32))] [(.int (3 : Int32)), (.int (1 : Int32))])) (fun t k => XS.iconst X17.here hx rfl (hb hby at_177) k) ?_
    refine Ends.pre (T' := T17.setTop (mkF m 204 #[.val (.int x0), .val (.int x1), .val (.int x2), .val (.int x3), .val (.int (1 : Int32)), .val (.int y0), .val (.int y1), .val (.int y2), .val (.ref b8), .val (.ref r13), .val (.int (1 : Int32))] [])) (fun t k => XS.icmpYes X17.here hx rfl (pc0 := 178) (pc' := 204) rfl (hb hby at_178) rfl (by decide) (by decide) (by decide) k) ?_
    refine Ends.pre (T' := T17.setTop (mkF m 206 #[.val (.int x0), .val (.int x1), .val (.int x2), .val (.int x3), .val (.int (1 : Int32)), .val (.int y0), .val (.int y1), .val (.int y2), .val (.ref b8), .val (.ref r13), .val (.int (1 : Int32))] [(.int (1 : Int32))])) (fun t k => XS.iload X17.here hx rfl (hb hby at_204) rfl k) ?_
    exact Ends.retW (w := (.int (1 : Int32))) X17 hx Bd.notSynchronized Bd.returns rfl (Or.inl ⟨rfl, Or.inr (Or.inl rfl), _, rfl⟩) (hb hby at_206) eh17 hZ hEL hS0 (Nat.le_trans (Nat.le_trans (Nat.le_trans hk0 E8.1) (Keep.of_wr W9).1) Kc13.1) hh CR13 ⟨rfl, N17⟩ (by decide) (by decide)
  · refine Ends.pre (T' := s₁.setTop (mkF m 19 #[.val (.int x0), .val (.int x1), .val (.int x2), .val (.int x3), .val (.int (2 : Int32)), .val (.int y0), .val (.int y1), .val (.int y2), .unset, .unset, .unset] [(.int (2 : Int32))])) (fun t k => XS.iload X0.here hx rfl (hb hby at_17) rfl k) ?_
    refine Ends.pre (T' := s₁.setTop (mkF m 30 #[.val (.int x0), .val (.int x1), .val (.int x2), .val (.int x3), .val (.int (2 : Int32)), .val (.int y0), .val (.int y1), .val (.int y2), .unset, .unset, .unset] [])) (fun t k => XS.ifYes X0.here hx rfl (pc0 := 19) (pc' := 30) rfl (hb hby at_19) rfl (by decide) (by decide) (by decide) k) ?_
    refine Ends.pre (T' := s₁.setTop (mkF m 32 #[.val (.int x0), .val (.int x1), .val (.int x2), .val (.int x3), .val (.int (2 : Int32)), .val (.int y0), .val (.int y1), .val (.int y2), .unset, .unset, .unset] [(.int (2 : Int32))])) (fun t k => XS.iload X0.here hx rfl (hb hby at_30) rfl k) ?_
    refine Ends.pre (T' := s₁.setTop (mkF m 33 #[.val (.int x0), .val (.int x1), .val (.int x2), .val (.int x3), .val (.int (2 : Int32)), .val (.int y0), .val (.int y1), .val (.int y2), .unset, .unset, .unset] [(.int (1 : Int32)), (.int (2 : Int32))])) (fun t k => XS.iconst X0.here hx rfl (hb hby at_32) k) ?_
    refine Ends.pre (T' := s₁.setTop (mkF m 49 #[.val (.int x0), .val (.int x1), .val (.int x2), .val (.int x3), .val (.int (2 : Int32)), .val (.int y0), .val (.int y1), .val (.int y2), .unset, .unset, .unset] [])) (fun t k => XS.icmpYes X0.here hx rfl (pc0 := 33) (pc' := 49) rfl (hb hby at_33) rfl (by decide) (by decide) (by decide) k) ?_
    refine Ends.pre (T' := s₁.setTop (mkF m 51 #[.val (.int x0), .val (.int x1), .val (.int x2), .val (.int x3), .val (.int (2 : Int32)), .val (.int y0), .val (.int y1), .val (.int y2), .unset, .unset, .unset] [(.int (2 : Int32))])) (fun t k => XS.iload X0.here hx rfl (hb hby at_49) rfl k) ?_
    refine Ends.pre (T' := s₁.setTop (mkF m 52 #[.val (.int x0), .val (.int x1), .val (.int x2), .val (.int x3), .val (.int (2 : Int32)), .val (.int y0), .val (.int y1), .val (.int y2), .unset, .unset, .unset] [(.int (2 : Int32)), (.int (2 : Int32))])) (fun t k => XS.iconst X0.here hx rfl (hb hby at_51) k) ?_
    refine Ends.pre (T' := s₁.setTop (mkF m 55 #[.val (.int x0), .val (.int x1), .val (.int x2), .val (.int x3), .val (.int (2 : Int32)), .val (.int y0), .val (.int y1), .val (.int y2), .unset, .unset, .unset] [])) (fun t k => XS.icmpNo X0.here hx rfl (hb hby at_52) rfl (by decide) k) ?_
    refine Ends.pre (T' := s₁.setTop (mkF m 56 #[.val (.int x0), .val (.int x1), .val (.int x2), .val (.int x3), .val (.int (2 : Int32)), .val (.int y0), .val (.int y1), .val (.int y2), .unset, .unset, .unset] [(.int (2 : Int32))])) (fun t k => XS.iconst X0.here hx rfl (hb hby at_55) k) ?_
    obtain ⟨T18, h18, k18, X18, e18, E18, A18, st18⟩ := newP X0 hx hZ (hw _ (List.mem_of_getElem? (i := 0) rfl)) e0 (g := (mkF m 56 #[.val (.int x0), .val (.int x1), .val (.int x2), .val (.int x3), .val (.int (2 : Int32)), .val (.int y0), .val (.int y1), .val (.int y2), .unset, .unset, .unset] [(.int (2 : Int32))])) rfl (hb hby at_56) rfl (by decide) (cap := 2) (by decide) (by decide) (by decide) (by decide)
    obtain ⟨b18, g18⟩ : ∃ z, z = h0.size := ⟨_, rfl⟩
    rw [← g18] at A18 st18
    have ge_b18 : n0 ≤ b18 := Nat.le_trans Z0 (Nat.le_of_eq g18.symm)
    have sz_b18 : h0.size ≤ b18 := Nat.le_trans (Keep.refl h0 []).1 (Nat.le_of_eq g18.symm)
    have CR18 := CHr.trans CR0 (CHr.ext E18 CH0)
    have K18 : Keep h0 h18 [] := (Keep.refl h0 []).ext E18
    have V18 : Arv Z h18 b18 k18 .byte (2 : Int32) [(.int (0 : Int32)), (.int (0 : Int32))] (.int (0 : Int32)) := (Arv.new A18 (by decide)).pad (pad_rep [] (.int (0 : Int32)) 2)
    refine Ends.pre (T' := T18.setTop (mkF m 58 #[.val (.int x0), .val (.int x1), .val (.int x2), .val (.int x3), .val (.int (2 : Int32)), .val (.int y0), .val (.int y1), .val (.int y2), .unset, .unset, .unset] [(.ref b18)])) (fun t k => st18 _ k) ?_
    refine Ends.pre (T' := T18.setTop (mkF m 59 #[.val (.int x0), .val (.int x1), .val (.int x2), .val (.int x3), .val (.int (2 : Int32)), .val (.int y0), .val (.int y1), .val (.int y2), .unset, .unset, .unset] [(.ref b18), (.ref b18)])) (fun t k => XS.dup X18.here hx rfl (hb hby at_58) rfl rfl k) ?_
    refine Ends.pre (T' := T18.setTop (mkF m 60 #[.val (.int x0), .val (.int x1), .val (.int x2), .val (.int x3), .val (.int (2 : Int32)), .val (.int y0), .val (.int y1), .val (.int y2), .unset, .unset, .unset] [(.int (0 : Int32)), (.ref b18), (.ref b18)])) (fun t k => XS.iconst X18.here hx rfl (hb hby at_59) k) ?_
    refine Ends.pre (T' := T18.setTop (mkF m 62 #[.val (.int x0), .val (.int x1), .val (.int x2), .val (.int x3), .val (.int (2 : Int32)), .val (.int y0), .val (.int y1), .val (.int y2), .unset, .unset, .unset] [(.int y0), (.int (0 : Int32)), (.ref b18), (.ref b18)])) (fun t k => XS.iload X18.here hx rfl (hb hby at_60) rfl k) ?_
    obtain ⟨cl19, Ar19, q19, S19, N19', H19, G19⟩ := id V18
    have hin19 : ¬ ((0 : Int32) < 0 ∨ cl19.slots.size ≤ ((0 : Int32)).toNatClampNeg) := inb_of S19 ⟨by decide, by decide⟩
    obtain ⟨T19, h19, X19, e19, W19, st19⟩ := stB X18 hx hZ e18 Ar19 (j := (0 : Int32)) hin19 (g := (mkF m 62 #[.val (.int x0), .val (.int x1), .val (.int x2), .val (.int x3), .val (.int (2 : Int32)), .val (.int y0), .val (.int y1), .val (.int y2), .unset, .unset, .unset] [(.int y0), (.int (0 : Int32)), (.ref b18), (.ref b18)])) rfl rfl (hb hby at_62)
    have CR19 := CHr.trans CR18 (CHr.wr W19 (Safe.ext E18 CH0 (Safe.new (Nat.le_of_eq g18.symm))) CR18.1)
    have V19 : Arv Z h19 b18 k18 .byte (2 : Int32) [(.int y0), (.int (0 : Int32))] (.int (0 : Int32)) := (by have q := Arv.set Ar19 q19 S19 N19' H19 G19 (fits_nar_byte _) W19 0 rfl (Nat.le_of_ble_eq_true rfl); rw [nb0] at q; exact q)
    have N19 := Fr.snoc X19 N0 ge_b18
    refine Ends.pre (T' := T19.setTop (mkF m 63 #[.val (.int x0), .val (.int x1), .val (.int x2), .val (.int x3), .val (.int (2 : Int32)), .val (.int y0), .val (.int y1), .val (.int y2), .unset, .unset, .unset] [(.ref b18)])) (fun t k => st19 _ k) ?_
    have K19 : Keep h0 h19 [] := K18.wr W19 (Or.inr sz_b18)
    refine Ends.pre (T' := T19.setTop (mkF m 64 #[.val (.int x0), .val (.int x1), .val (.int x2), .val (.int x3), .val (.int (2 : Int32)), .val (.int y0), .val (.int y1), .val (.int y2), .unset, .unset, .unset] [(.ref b18), (.ref b18)])) (fun t k => XS.dup X19.here hx rfl (hb hby at_63) rfl rfl k) ?_
    refine Ends.pre (T' := T19.setTop (mkF m 65 #[.val (.int x0), .val (.int x1), .val (.int x2), .val (.int x3), .val (.int (2 : Int32)), .val (.int y0), .val (.int y1), .val (.int y2), .unset, .unset, .unset] [(.int (1 : Int32)), (.ref b18), (.ref b18)])) (fun t k => XS.iconst X19.here hx rfl (hb hby at_64) k) ?_
    refine Ends.pre (T' := T19.setTop (mkF m 67 #[.val (.int x0), .val (.int x1), .val (.int x2), .val (.int x3), .val (.int (2 : Int32)), .val (.int y0), .val (.int y1), .val (.int y2), .unset, .unset, .unset] [(.int y1), (.int (1 : Int32)), (.ref b18), (.ref b18)])) (fun t k => XS.iload X19.here hx rfl (hb hby at_65) rfl k) ?_
    obtain ⟨cl20, Ar20, q20, S20, N20', H20, G20⟩ := id V19
    have hin20 : ¬ ((1 : Int32) < 0 ∨ cl20.slots.size ≤ ((1 : Int32)).toNatClampNeg) := inb_of S20 ⟨by decide, by decide⟩
    obtain ⟨T20, h20, X20, e20, W20, st20⟩ := stB X19 hx hZ e19 Ar20 (j := (1 : Int32)) hin20 (g := (mkF m 67 #[.val (.int x0), .val (.int x1), .val (.int x2), .val (.int x3), .val (.int (2 : Int32)), .val (.int y0), .val (.int y1), .val (.int y2), .unset, .unset, .unset] [(.int y1), (.int (1 : Int32)), (.ref b18), (.ref b18)])) rfl rfl (hb hby at_67)
    have CR20 := CHr.trans CR19 (CHr.wr W20 (Safe.wr W19 (Safe.ext E18 CH0 (Safe.new (Nat.le_of_eq g18.symm))) CR18.1 (Safe.ext E18 CH0 (Safe.new (Nat.le_of_eq g18.symm)))) CR19.1)
    have V20 : Arv Z h20 b18 k18 .byte (2 : Int32) [(.int y0), (.int y1)] (.int (0 : Int32)) := (by have q := Arv.set Ar20 q20 S20 N20' H20 G20 (fits_nar_byte _) W20 1 rfl (Nat.le_of_ble_eq_true rfl); rw [nb1] at q; exact q)
    have N20 := Fr.snoc X20 N19 ge_b18
    refine Ends.pre (T' := T20.setTop (mkF m 68 #[.val (.int x0), .val (.int x1), .val (.int x2), .val (.int x3), .val (.int (2 : Int32)), .val (.int y0), .val (.int y1), .val (.int y2), .unset, .unset, .unset] [(.ref b18)])) (fun t k => st20 _ k) ?_
    have K20 : Keep h0 h20 [] := K19.wr W20 (Or.inr sz_b18)
    refine Ends.pre (T' := T20.setTop (mkF m 70 #[.val (.int x0), .val (.int x1), .val (.int x2), .val (.int x3), .val (.int (2 : Int32)), .val (.int y0), .val (.int y1), .val (.int y2), .val (.ref b18), .unset, .unset] [])) (fun t k => XS.astore (g := (mkF m 68 #[.val (.int x0), .val (.int x1), .val (.int x2), .val (.int x3), .val (.int (2 : Int32)), .val (.int y0), .val (.int y1), .val (.int y2), .unset, .unset, .unset] [(.ref b18)])) X20.here hx rfl (hb hby at_68) rfl rfl (l' := #[.val (.int x0), .val (.int x1), .val (.int x2), .val (.int x3), .val (.int (2 : Int32)), .val (.int y0), .val (.int y1), .val (.int y2), .val (.ref b18), .unset, .unset]) rfl k) ?_
    refine Ends.pre (T' := T20.setTop (mkF m 93 #[.val (.int x0), .val (.int x1), .val (.int x2), .val (.int x3), .val (.int (2 : Int32)), .val (.int y0), .val (.int y1), .val (.int y2), .val (.ref b18), .unset, .unset] [])) (fun t k => XS.goto X20.here hx rfl (pc0 := 70) (pc' := 93) rfl (hb hby at_70) (by decide) (by decide) k) ?_
    refine Ends.pre (T' := T20.setTop (mkF m 95 #[.val (.int x0), .val (.int x1), .val (.int x2), .val (.int x3), .val (.int (2 : Int32)), .val (.int y0), .val (.int y1), .val (.int y2), .val (.ref b18), .unset, .unset] [(.ref b18)])) (fun t k => XS.aload X20.here hx rfl (hb hby at_93) rfl rfl k) ?_
    have F21 : Sta Z h20 "com/example/wireform/wireform/Hex" "DIGITS" "[C" (.ref da) := (Sta_keep0 SDG K20)
    have F22 : Sta Z h20 "java/lang/String" "COMPACT_STRINGS" "Z" (.int cz) := (Sta_keep0 SCS K20)
    have F23 : Sta Z h20 "jdk/internal/util/Preconditions" "SIOOBE_FORMATTER" "Ljava/util/function/BiFunction;" fm := (Sta_keep0 SFM K20)
    obtain ⟨_, _, ⟨T24, L24, k24, n24⟩, -, X24, ⟨Lc24, hQ24, l24, y24, z24⟩, st24⟩ := Jvm.LawKit.callS X20 hx (y := (⟨"com/example/wireform/wireform/Hex", "format", "([B)Ljava/lang/String;"⟩ : MethodName)) hown (mvT hZ (hw _ (List.mem_of_getElem? (i := 1) rfl))) (mvT hZ (hw _ (List.mem_of_getElem? (i := 2) rfl))) (mvT hZ (hw _ (List.mem_of_getElem? (i := 3) rfl))) (mvT hZ (hw _ (List.mem_of_getElem? (i := 4) rfl))) (by decide) (backOf (W := 0) (rm1_2 l Z a0 hw [] b18 k18 y0 y1 da cl cz fm h20 n0 (Nat.le_trans (Nat.le_trans (Nat.le_trans Z0 E18.1) (Keep.of_wr W19).1) (Keep.of_wr W20).1) V20 F21 (Arr_keep0 ADG K20) hsz hel F22 hcz F23 hfm) hZ (hw _ (List.mem_of_getElem? (i := 4) rfl)) (hw _ (List.mem_of_getElem? (i := 3) rfl)) (by decide) (by decide)) (g := (mkF m 95 #[.val (.int x0), .val (.int x1), .val (.int x2), .val (.int x3), .val (.int (2 : Int32)), .val (.int y0), .val (.int y1), .val (.int y2), .val (.ref b18), .unset, .unset] [(.ref b18)])) rfl (by rw [hml]; rfl) (argsL := [(.ref b18)]) (rest := []) (lenOf pd_3 rfl) rfl (by show 2 * 0 + _ ≤ _; exact Nat.le_of_eq rfl) (hb hby at_95) (fun _ _ => ⟨rfl, e20, (by decide : 1 + 3 ≤ _), (by decide : 2 + 12 ≤ _)⟩)
    dsimp only [Pt.U, Pt.locs, Pt.cells, Pt.slots] at X24 l24 y24 z24 st24 hQ24
    subst l24 y24 z24
    obtain ⟨r24, t24, kb24, hQ24⟩ := hQ24
    obtain ⟨rfl, N24q, Kc24, Es24, Cs24, Vs24, As24⟩ := hQ24
    have N24 := Fr.app N20 N24q
    have K24 : Keep h0 T24.heap [] := K20.trans Kc24 all0
    have CR24 := CHr.trans CR20 (CHr.keep Kc24 sf0 CR20.1)
    have hp24 : ∀ c ∈ ([(own_hexd ((y0 >>> ((4 : Int32) &&& 31)) &&& (15 : Int32))), (own_hexd (y0 &&& (15 : Int32))), (own_hexd ((y1 >>> ((4 : Int32) &&& 31)) &&& (15 : Int32))), (own_hexd (y1 &&& (15 : Int32)))] : List Int32), ¬ c < 0 ∧ ¬ (255 : Int32) < c := (own_alS (own_hexr (own_and15 _)) (own_alS (own_hexr (own_and15 _)) (own_alS (own_hexr (own_and15 _)) (own_alS (own_hexr (own_and15 _)) own_al0))))
    have hbd24 := own_up _ hp24
    have hcd24 : StrChars.Road.CodA ([(own_hexd ((y0 >>> ((4 : Int32) &&& 31)) &&& (15 : Int32))), (own_hexd (y0 &&& (15 : Int32))), (own_hexd ((y1 >>> ((4 : Int32) &&& 31)) &&& (15 : Int32))), (own_hexd (y1 &&& (15 : Int32)))] : List Int32) 0 (4 : Int32) ((([(own_hexd ((y0 >>> ((4 : Int32) &&& 31)) &&& (15 : Int32))), (own_hexd (y0 &&& (15 : Int32))), (own_hexd ((y1 >>> ((4 : Int32) &&& 31)) &&& (15 : Int32))), (own_hexd (y1 &&& (15 : Int32)))] : List Int32).map (fun c => c.toInt8.toInt32)).map Value.int) := StrChars.Road.codOf (n := 4) rfl (fun c hc => (hp24 c hc).2)
    refine Ends.pre (T' := T24.setTop (mkF m 98 #[.val (.int x0), .val (.int x1), .val (.int x2), .val (.int x3), .val (.int (2 : Int32)), .val (.int y0), .val (.int y1), .val (.int y2), .val (.ref b18), .unset, .unset] [(.ref r24)])) (fun t k => st24 _ k) ?_
    refine Ends.pre (T' := T24.setTop (mkF m 100 #[.val (.int x0), .val (.int x1), .val (.int x2), .val (.int x3), .val (.int (2 : Int32)), .val (.int y0), .val (.int y1), .val (.int y2), .val (.ref b18), .val (.ref r24), .unset] [])) (fun t k => XS.astore (g := (mkF m 98 #[.val (.int x0), .val (.int x1), .val (.int x2), .val (.int x3), .val (.int (2 : Int32)), .val (.int y0), .val (.int y1), .val (.int y2), .val (.ref b18), .unset, .unset] [(.ref r24)])) X24.here hx rfl (hb hby at_98) rfl rfl (l' := #[.val (.int x0), .val (.int x1), .val (.int x2), .val (.int x3), .val (.int (2 : Int32)), .val (.int y0), .val (.int y1), .val (.int y2), .val (.ref b18), .val (.ref r24), .unset]) rfl k) ?_
    refine Ends.pre (T' := T24.setTop (mkF m 102 #[.val (.int x0), .val (.int x1), .val (.int x2), .val (.int x3), .val (.int (2 : Int32)), .val (.int y0), .val (.int y1), .val (.int y2), .val (.ref b18), .val (.ref r24), .unset] [(.ref r24)])) (fun t k => XS.aload X24.here hx rfl (hb hby at_100) rfl rfl k) ?_
    have F25 : Sta Z T24.heap "java/lang/String" "COMPACT_STRINGS" "Z" (.int cz) := (Sta_keep0 SCS K24)
    obtain ⟨cq26, kq26, q26a, q26b, q26c⟩ := isOf hZ rfl Es24
    obtain ⟨_, _, ⟨T26, L26, k26, n26⟩, -, X26, ⟨Lc26, hQ26, l26, y26, z26⟩, st26⟩ := X24.virtualBack hx (y := (⟨"java/lang/String", "length", "()I"⟩ : MethodName)) (z := (⟨"java/lang/String", "length", "()I"⟩ : MethodName)) hown (mvT hZ (hw _ (List.mem_of_getElem? (i := 36) rfl))) (mvT hZ (hw _ (List.mem_of_getElem? (i := 37) rfl))) (notFace_of_selects (args := #[]) (mvT hZ (hw _ (List.mem_of_getElem? (i := 39) rfl)))) (mvT hZ (hw _ (List.mem_of_getElem? (i := 39) rfl))) (mvT hZ (hw _ (List.mem_of_getElem? (i := 38) rfl))) (by decide) (StrChars.Road.lenW (W := 0) hZ (own_hln hw) (kI := 4) (hw _ (List.mem_of_getElem? (i := 9) rfl)) Es24 Vs24 Cs24 As24 hcd24 hbd24 F25 hcz (Nat.le_of_ble_eq_true rfl) (by decide) (by decide)) q26a q26c (g := (mkF m 102 #[.val (.int x0), .val (.int x1), .val (.int x2), .val (.int x3), .val (.int (2 : Int32)), .val (.int y0), .val (.int y1), .val (.int y2), .val (.ref b18), .val (.ref r24), .unset] [(.ref r24)])) rfl (by rw [hml]; rfl) (Steps.refl _) (argsL := []) (rest := []) (lenOf pd_4 rfl) rfl (by show 2 * 0 + _ ≤ _; exact Nat.le_of_eq rfl) (hb hby at_102) (fun _ _ => ⟨rfl, rfl, (by decide : 4 + 0 ≤ _), (by decide : 14 + 0 ≤ _)⟩)
    dsimp only [Pt.U, Pt.locs, Pt.cells, Pt.slots] at X26 l26 y26 z26 st26 hQ26
    subst l26 y26 z26
    obtain ⟨rfl, rfl, eh26⟩ := hQ26
    have N26 := Fr.app N24 (Fr.nil n0)
    refine Ends.pre (T' := T26.setTop (mkF m 105 #[.val (.int x0), .val (.int x1), .val (.int x2), .val (.int x3), .val (.int (2 : Int32)), .val (.int y0), .val (.int y1), .val (.int y2), .val (.ref b18), .val (.ref r24), .unset] [(.int (4 : Int32))])) (fun t k => st26.trans k) ?_
    refine Ends.pre (T' := T26.setTop (mkF m 106 #[.val (.int x0), .val (.int x1), .val (.int x2), .val (.int x3), .val (.int (2 : Int32)), .val (.int y0), .val (.int y1), .val (.int y2), .val (.ref b18), .val (.ref r24), .unset] [(.int (2 : Int32)), (.int (4 : Int32))])) (fun t k => XS.iconst X26.here hx rfl (hb hby at_105) k) ?_
    refine Ends.pre (T' := T26.setTop (mkF m 108 #[.val (.int x0), .val (.int x1), .val (.int x2), .val (.int x3), .val (.int (2 : Int32)), .val (.int y0), .val (.int y1), .val (.int y2), .val (.ref b18), .val (.ref r24), .unset] [(.int (2 : Int32)), (.int (2 : Int32)), (.int (4 : Int32))])) (fun t k => XS.iload X26.here hx rfl (hb hby at_106) rfl k) ?_
    refine Ends.pre (T' := T26.setTop (mkF m 109 #[.val (.int x0), .val (.int x1), .val (.int x2), .val (.int x3), .val (.int (2 : Int32)), .val (.int y0), .val (.int y1), .val (.int y2), .val (.ref b18), .val (.ref r24), .unset] [(.int (4 : Int32)), (.int (4 : Int32))])) (fun t k => XS.imul X26.here hx rfl (hb hby at_108) rfl k) ?_
    refine Ends.pre (T' := T26.setTop (mkF m 114 #[.val (.int x0), .val (.int x1), .val (.int x2), .val (.int x3), .val (.int (2 : Int32)), .val (.int y0), .val (.int y1), .val (.int y2), .val (.ref b18), .val (.ref r24), .unset] [])) (fun t k => XS.icmpYes X26.here hx rfl (pc0 := 109) (pc' := 114) rfl (hb hby at_109) rfl (by decide) (by decide) (by decide) k) ?_
    refine Ends.pre (T' := T26.setTop (mkF m 115 #[.val (.int x0), .val (.int x1), .val (.int x2), .val (.int x3), .val (.int (2 : Int32)), .val (.int y0), .val (.int y1), .val (.int y2), .val (.ref b18), .val (.ref r24), .unset] [(.int (1 : Int32))])) (fun t k => XS.iconst X26.here hx rfl (hb hby at_114) k) ?_
    refine Ends.pre (T' := T26.setTop (mkF m 117 #[.val (.int x0), .val (.int x1), .val (.int x2), .val (.int x3), .val (.int (2 : Int32)), .val (.int y0), .val (.int y1), .val (.int y2), .val (.ref b18), .val (.ref r24), .val (.int (1 : Int32))] [])) (fun t k => XS.istore (g := (mkF m 115 #[.val (.int x0), .val (.int x1), .val (.int x2), .val (.int x3), .val (.int (2 : Int32)), .val (.int y0), .val (.int y1), .val (.int y2), .val (.ref b18), .val (.ref r24), .unset] [(.int (1 : Int32))])) X26.here hx rfl (hb hby at_115) rfl (l' := #[.val (.int x0), .val (.int x1), .val (.int x2), .val (.int x3), .val (.int (2 : Int32)), .val (.int y0), .val (.int y1), .val (.int y2), .val (.ref b18), .val (.ref r24), .val (.int (1 : Int32))]) rfl k) ?_
    refine Ends.pre (T' := T26.setTop (mkF m 119 #[.val (.int x0), .val (.int x1), .val (.int x2), .val (.int x3), .val (.int (2 : Int32)), .val (.int y0), .val (.int y1), .val (.int y2), .val (.ref b18), .val (.ref r24), .val (.int (1 : Int32))] [(.int (2 : Int32))])) (fun t k => XS.iload X26.here hx rfl (hb hby at_117) rfl k) ?_
    refine Ends.pre (T' := T26.setTop (mkF m 120 #[.val (.int x0), .val (.int x1), .val (.int x2), .val (.int x3), .val (.int (2 : Int32)), .val (.int y0), .val (.int y1), .val (.int y2), .val (.ref b18), .val (.ref r24), .val (.int (1 : Int32))] [(.int (1 : Int32)), (.int (2 : Int32))])) (fun t k => XS.iconst X26.here hx rfl (hb hby at_119) k) ?_
    refine Ends.pre (T' := T26.setTop (mkF m 123 #[.val (.int x0), .val (.int x1), .val (.int x2), .val (.int x3), .val (.int (2 : Int32)), .val (.int y0), .val (.int y1), .val (.int y2), .val (.ref b18), .val (.ref r24), .val (.int (1 : Int32))] [])) (fun t k => XS.icmpNo X26.here hx rfl (hb hby at_120) rfl (by decide) k) ?_
    refine Ends.pre (T' := T26.setTop (mkF m 125 #[.val (.int x0), .val (.int x1), .val (.int x2), .val (.int x3), .val (.int (2 : Int32)), .val (.int y0), .val (.int y1), .val (.int y2), .val (.ref b18), .val (.ref r24), .val (.int (1 : Int32))] [(.int (1 : Int32))])) (fun t k => XS.iload X26.here hx rfl (hb hby at_123) rfl k) ?_
    refine Ends.pre (T' := T26.setTop (mkF m 128 #[.val (.int x0), .val (.int x1), .val (.int x2), .val (.int x3), .val (.int (2 : Int32)), .val (.int y0), .val (.int y1), .val (.int y2), .val (.ref b18), .val (.ref r24), .val (.int (1 : Int32))] [])) (fun t k => XS.ifNo X26.here hx rfl (hb hby at_125) rfl (by decide) k) ?_
    refine Ends.pre (T' := T26.setTop (mkF m 130 #[.val (.int x0), .val (.int x1), .val (.int x2), .val (.int x3), .val (.int (2 : Int32)), .val (.int y0), .val (.int y1), .val (.int y2), .val (.ref b18), .val (.ref r24), .val (.int (1 : Int32))] [(.ref r24)])) (fun t k => XS.aload X26.here hx rfl (hb hby at_128) rfl rfl k) ?_
    refine Ends.pre (T' := T26.setTop (mkF m 131 #[.val (.int x0), .val (.int x1), .val (.int x2), .val (.int x3), .val (.int (2 : Int32)), .val (.int y0), .val (.int y1), .val (.int y2), .val (.ref b18), .val (.ref r24), .val (.int (1 : Int32))] [(.int (0 : Int32)), (.ref r24)])) (fun t k => XS.iconst X26.here hx rfl (hb hby at_130) k) ?_
    refine Ends.pre (T' := T26.setTop (mkF m 133 #[.val (.int x0), .val (.int x1), .val (.int x2), .val (.int x3), .val (.int (2 : Int32)), .val (.int y0), .val (.int y1), .val (.int y2), .val (.ref b18), .val (.ref r24), .val (.int (1 : Int32))] [(.int y0), (.int (0 : Int32)), (.ref r24)])) (fun t k => XS.iload X26.here hx rfl (hb hby at_131) rfl k) ?_
    have F27 : Sta Z T24.heap "jdk/internal/util/Preconditions" "SIOOBE_FORMATTER" "Ljava/util/function/BiFunction;" fm := (Sta_keep0 SFM K24)
    obtain ⟨_, _, ⟨T28, L28, k28, n28⟩, -, X28, ⟨Lc28, hQ28, l28, y28, z28⟩, st28⟩ := Jvm.LawKit.callS X26 hx (y := (⟨"com/example/wireform/wireform/HexFormatPinLaw", "pair", "(Ljava/lang/String;IB)Z"⟩ : MethodName)) hown (mvT hZ (hw _ (List.mem_of_getElem? (i := 46) rfl))) (mvT hZ (hw _ (List.mem_of_getElem? (i := 47) rfl))) (mvT hZ (hw _ (List.mem_of_getElem? (i := 48) rfl))) (mvT hZ (hw _ (List.mem_of_getElem? (i := 49) rfl))) (by decide) (backOf (W := 0) (rm10_0 l Z a0 hw [] r24 t24 kb24 ([(own_hexd ((y0 >>> ((4 : Int32) &&& 31)) &&& (15 : Int32))), (own_hexd (y0 &&& (15 : Int32))), (own_hexd ((y1 >>> ((4 : Int32) &&& 31)) &&& (15 : Int32))), (own_hexd (y1 &&& (15 : Int32)))] : List Int32) (4 : Int32) _ y0 cz fm T24.heap n0 (Nat.le_trans (Nat.le_trans (Nat.le_trans (Nat.le_trans Z0 E18.1) (Keep.of_wr W19).1) (Keep.of_wr W20).1) Kc24.1) Es24 Cs24 Vs24 As24 hcd24 hbd24 (Nat.le_of_ble_eq_true rfl) (Nat.le_of_ble_eq_true rfl) (Nat.le_of_ble_eq_true rfl) rfl rfl F25 hcz F27 hfm) hZ (hw _ (List.mem_of_getElem? (i := 49) rfl)) (hw _ (List.mem_of_getElem? (i := 48) rfl)) (by decide) (by decide)) (g := (mkF m 133 #[.val (.int x0), .val (.int x1), .val (.int x2), .val (.int x3), .val (.int (2 : Int32)), .val (.int y0), .val (.int y1), .val (.int y2), .val (.ref b18), .val (.ref r24), .val (.int (1 : Int32))] [(.int y0), (.int (0 : Int32)), (.ref r24)])) rfl (by rw [hml]; rfl) (argsL := [(.ref r24), (.int (0 : Int32)), (.int y0)]) (rest := []) (lenOf pd_5 rfl) rfl (by show 2 * 0 + _ ≤ _; exact Nat.le_of_eq rfl) (hb hby at_133) (fun _ _ => ⟨rfl, eh26, (by decide : 4 + 0 ≤ _), (by decide : 14 + 0 ≤ _)⟩)
    dsimp only [Pt.U, Pt.locs, Pt.cells, Pt.slots] at X28 l28 y28 z28 st28 hQ28
    subst l28 y28 z28
    obtain ⟨rfl, N28q, eh28⟩ := hQ28
    have N28 := Fr.app N26 N28q
    refine Ends.pre (T' := T28.setTop (mkF m 136 #[.val (.int x0), .val (.int x1), .val (.int x2), .val (.int x3), .val (.int (2 : Int32)), .val (.int y0), .val (.int y1), .val (.int y2), .val (.ref b18), .val (.ref r24), .val (.int (1 : Int32))] [(.int (1 : Int32))])) (fun t k => st28 _ k) ?_
    refine Ends.pre (T' := T28.setTop (mkF m 139 #[.val (.int x0), .val (.int x1), .val (.int x2), .val (.int x3), .val (.int (2 : Int32)), .val (.int y0), .val (.int y1), .val (.int y2), .val (.ref b18), .val (.ref r24), .val (.int (1 : Int32))] [])) (fun t k => XS.ifNo X28.here hx rfl (hb hby at_136) rfl (by decide) k) ?_
    refine Ends.pre (T' := T28.setTop (mkF m 140 #[.val (.int x0), .val (.int x1), .val (.int x2), .val (.int x3), .val (.int (2 : Int32)), .val (.int y0), .val (.int y1), .val (.int y2), .val (.ref b18), .val (.ref r24), .val (.int (1 : Int32))] [(.int (1 : Int32))])) (fun t k => XS.iconst X28.here hx rfl (hb hby at_139) k) ?_
    refine Ends.pre (T' := T28.setTop (mkF m 144 #[.val (.int x0), .val (.int x1), .val (.int x2), .val (.int x3), .val (.int (2 : Int32)), .val (.int y0), .val (.int y1), .val (.int y2), .val (.ref b18), .val (.ref r24), .val (.int (1 : Int32))] [(.int (1 : Int32))])) (fun t k => XS.goto X28.here hx rfl (pc0 := 140) (pc' := 144) rfl (hb hby at_140) (by decide) (by decide) k) ?_
    refine Ends.pre (T' := T28.setTop (mkF m 146 #[.val (.int x0), .val (.int x1), .val (.int x2), .val (.int x3), .val (.int (2 : Int32)), .val (.int y0), .val (.int y1), .val (.int y2), .val (.ref b18), .val (.ref r24), .val (.int (1 : Int32))] [])) (fun t k => XS.istore (g := (mkF m 144 #[.val (.int x0), .val (.int x1), .val (.int x2), .val (.int x3), .val (.int (2 : Int32)), .val (.int y0), .val (.int y1), .val (.int y2), .val (.ref b18), .val (.ref r24), .val (.int (1 : Int32))] [(.int (1 : Int32))])) X28.here hx rfl (hb hby at_144) rfl (l' := #[.val (.int x0), .val (.int x1), .val (.int x2), .val (.int x3), .val (.int (2 : Int32)), .val (.int y0), .val (.int y1), .val (.int y2), .val (.ref b18), .val (.ref r24), .val (.int (1 : Int32))]) rfl k) ?_
    refine Ends.pre (T' := T28.setTop (mkF m 148 #[.val (.int x0), .val (.int x1), .val (.int x2), .val (.int x3), .val (.int (2 : Int32)), .val (.int y0), .val (.int y1), .val (.int y2), .val (.ref b18), .val (.ref r24), .val (.int (1 : Int32))] [(.int (2 : Int32))])) (fun t k => XS.iload X28.here hx rfl (hb hby at_146) rfl k) ?_
    refine Ends.pre (T' := T28.setTop (mkF m 149 #[.val (.int x0), .val (.int x1), .val (.int x2), .val (.int x3), .val (.int (2 : Int32)), .val (.int y0), .val (.int y1), .val (.int y2), .val (.ref b18), .val (.ref r24), .val (.int (1 : Int32))] [(.int (2 : Int32)), (.int (2 : Int32))])) (fun t k => XS.iconst X28.here hx rfl (hb hby at_148) k) ?_
    refine Ends.pre (T' := T28.setTop (mkF m 152 #[.val (.int x0), .val (.int x1), .val (.int x2), .val (.int x3), .val (.int (2 : Int32)), .val (.int y0), .val (.int y1), .val (.int y2), .val (.ref b18), .val (.ref r24), .val (.int (1 : Int32))] [])) (fun t k => XS.icmpNo X28.here hx rfl (hb hby at_149) rfl (by decide) k) ?_
    refine Ends.pre (T' := T28.setTop (mkF m 154 #[.val (.int x0), .val (.int x1), .val (.int x2), .val (.int x3), .val (.int (2 : Int32)), .val (.int y0), .val (.int y1), .val (.int y2), .val (.ref b18), .val (.ref r24), .val (.int (1 : Int32))] [(.int (1 : Int32))])) (fun t k => XS.iload X28.here hx rfl (hb hby at_152) rfl k) ?_
    refine Ends.pre (T' := T28.setTop (mkF m 157 #[.val (.int x0), .val (.int x1), .val (.int x2), .val (.int x3), .val (.int (2 : Int32)), .val (.int y0), .val (.int y1), .val (.int y2), .val (.ref b18), .val (.ref r24), .val (.int (1 : Int32))] [])) (fun t k => XS.ifNo X28.here hx rfl (hb hby at_154) rfl (by decide) k) ?_
    refine Ends.pre (T' := T28.setTop (mkF m 159 #[.val (.int x0), .val (.int x1), .val (.int x2), .val (.int x3), .val (.int (2 : Int32)), .val (.int y0), .val (.int y1), .val (.int y2), .val (.ref b18), .val (.ref r24), .val (.int (1 : Int32))] [(.ref r24)])) (fun t k => XS.aload X28.here hx rfl (hb hby at_157) rfl rfl k) ?_
    refine Ends.pre (T' := T28.setTop (mkF m 160 #[.val (.int x0), .val (.int x1), .val (.int x2), .val (.int x3), .val (.int (2 : Int32)), .val (.int y0), .val (.int y1), .val (.int y2), .val (.ref b18), .val (.ref r24), .val (.int (1 : Int32))] [(.int (2 : Int32)), (.ref r24)])) (fun t k => XS.iconst X28.here hx rfl (hb hby at_159) k) ?_
    refine Ends.pre (T' := T28.setTop (mkF m 162 #[.val (.int x0), .val (.int x1), .val (.int x2), .val (.int x3), .val (.int (2 : Int32)), .val (.int y0), .val (.int y1), .val (.int y2), .val (.ref b18), .val (.ref r24), .val (.int (1 : Int32))] [(.int y1), (.int (2 : Int32)), (.ref r24)])) (fun t k => XS.iload X28.here hx rfl (hb hby at_160) rfl k) ?_
    obtain ⟨_, _, ⟨T29, L29, k29, n29⟩, -, X29, ⟨Lc29, hQ29, l29, y29, z29⟩, st29⟩ := Jvm.LawKit.callS X28 hx (y := (⟨"com/example/wireform/wireform/HexFormatPinLaw", "pair", "(Ljava/lang/String;IB)Z"⟩ : MethodName)) hown (mvT hZ (hw _ (List.mem_of_getElem? (i := 46) rfl))) (mvT hZ (hw _ (List.mem_of_getElem? (i := 47) rfl))) (mvT hZ (hw _ (List.mem_of_getElem? (i := 48) rfl))) (mvT hZ (hw _ (List.mem_of_getElem? (i := 49) rfl))) (by decide) (backOf (W := 0) (rm10_2 l Z a0 hw [] r24 t24 kb24 ([(own_hexd ((y0 >>> ((4 : Int32) &&& 31)) &&& (15 : Int32))), (own_hexd (y0 &&& (15 : Int32))), (own_hexd ((y1 >>> ((4 : Int32) &&& 31)) &&& (15 : Int32))), (own_hexd (y1 &&& (15 : Int32)))] : List Int32) (4 : Int32) _ y1 cz fm T24.heap n0 (Nat.le_trans (Nat.le_trans (Nat.le_trans (Nat.le_trans Z0 E18.1) (Keep.of_wr W19).1) (Keep.of_wr W20).1) Kc24.1) Es24 Cs24 Vs24 As24 hcd24 hbd24 (Nat.le_of_ble_eq_true rfl) (Nat.le_of_ble_eq_true rfl) (Nat.le_of_ble_eq_true rfl) rfl rfl F25 hcz F27 hfm) hZ (hw _ (List.mem_of_getElem? (i := 49) rfl)) (hw _ (List.mem_of_getElem? (i := 48) rfl)) (by decide) (by decide)) (g := (mkF m 162 #[.val (.int x0), .val (.int x1), .val (.int x2), .val (.int x3), .val (.int (2 : Int32)), .val (.int y0), .val (.int y1), .val (.int y2), .val (.ref b18), .val (.ref r24), .val (.int (1 : Int32))] [(.int y1), (.int (2 : Int32)), (.ref r24)])) rfl (by rw [hml]; rfl) (argsL := [(.ref r24), (.int (2 : Int32)), (.int y1)]) (rest := []) (lenOf pd_5 rfl) rfl (by show 2 * 0 + _ ≤ _; exact Nat.le_of_eq rfl) (hb hby at_162) (fun _ _ => ⟨rfl, eh28, (by decide : 4 + 0 ≤ _), (by decide : 14 + 0 ≤ _)⟩)
    dsimp only [Pt.U, Pt.locs, Pt.cells, Pt.slots] at X29 l29 y29 z29 st29 hQ29
    subst l29 y29 z29
    obtain ⟨rfl, N29q, eh29⟩ := hQ29
    have N29 := Fr.app N28 N29q
    refine Ends.pre (T' := T29.setTop (mkF m 165 #[.val (.int x0), .val (.int x1), .val (.int x2), .val (.int x3), .val (.int (2 : Int32)), .val (.int y0), .val (.int y1), .val (.int y2), .val (.ref b18), .val (.ref r24), .val (.int (1 : Int32))] [(.int (1 : Int32))])) (fun t k => st29 _ k) ?_
    refine Ends.pre (T' := T29.setTop (mkF m 168 #[.val (.int x0), .val (.int x1), .val (.int x2), .val (.int x3), .val (.int (2 : Int32)), .val (.int y0), .val (.int y1), .val (.int y2), .val (.ref b18), .val (.ref r24), .val (.int (1 : Int32))] [])) (fun t k => XS.ifNo X29.here hx rfl (hb hby at_165) rfl (by decide) k) ?_
    refine Ends.pre (T' := T29.setTop (mkF m 169 #[.val (.int x0), .val (.int x1), .val (.int x2), .val (.int x3), .val (.int (2 : Int32)), .val (.int y0), .val (.int y1), .val (.int y2), .val (.ref b18), .val (.ref r24), .val (.int (1 : Int32))] [(.int (1 : Int32))])) (fun t k => XS.iconst X29.here hx rfl (hb hby at_168) k) ?_
    refine Ends.pre (T' := T29.setTop (mkF m 173 #[.val (.int x0), .val (.int x1), .val (.int x2), .val (.int x3), .val (.int (2 : Int32)), .val (.int y0), .val (.int y1), .val (.int y2), .val (.ref b18), .val (.ref r24), .val (.int (1 : Int32))] [(.int (1 : Int32))])) (fun t k => XS.goto X29.here hx rfl (pc0 := 169) (pc' := 173) rfl (hb hby at_169) (by decide) (by decide) k) ?_
    refine Ends.pre (T' := T29.setTop (mkF m 175 #[.val (.int x0), .val (.int x1), .val (.int x2), .val (.int x3), .val (.int (2 : Int32)), .val (.int y0), .val (.int y1), .val (.int y2), .val (.ref b18), .val (.ref r24), .val (.int (1 : Int32))] [])) (fun t k => XS.istore (g := (mkF m 173 #[.val (.int x0), .val (.int x1), .val (.int x2), .val (.int x3), .val (.int (2 : Int32)), .val (.int y0), .val (.int y1), .val (.int y2), .val (.ref b18), .val (.ref r24), .val (.int (1 : Int32))] [(.int (1 : Int32))])) X29.here hx rfl (hb hby at_173) rfl (l' := #[.val (.int x0), .val (.int x1), .val (.int x2), .val (.int x3), .val (.int (2 : Int32)), .val (.int y0), .val (.int y1), .val (.int y2), .val (.ref b18), .val (.ref r24), .val (.int (1 : Int32))]) rfl k) ?_
    refine Ends.pre (T' := T29.setTop (mkF m 177 #[.val (.int x0), .val (.int x1), .val (.int x2), .val (.int x3), .val (.int (2 : Int32)), .val (.int y0), .val (.int y1), .val (.int y2), .val (.ref b18), .val (.ref r24), .val (.int (1 : Int32))] [(.int (2 : Int32))])) (fun t k => XS.iload X29.here hx rfl (hb hby at_175) rfl k) ?_
    refine Ends.pre (T' := T29.setTop (mkF m 178 #[.val (.int x0), .val (.int x1), .val (.int x2), .val (.int x3), .val (.int (2 : Int32)), .val (.int y0), .val (.int y1), .val (.int y2), .val (.ref b18), .val (.ref r24), .val (.int (1 : Int32))] [(.int (3 : Int32)), (.int (2 : Int32))])) (fun t k => XS.iconst X29.here hx rfl (hb hby at_177) k) ?_
    refine Ends.pre (T' := T29.setTop (mkF m 204 #[.val (.int x0), .val (.int x1), .val (.int x2), .val (.int x3), .val (.int (2 : Int32)), .val (.int y0), .val (.int y1), .val (.int y2), .val (.ref b18), .val (.ref r24), .val (.int (1 : Int32))] [])) (fun t k => XS.icmpYes X29.here hx rfl (pc0 := 178) (pc' := 204) rfl (hb hby at_178) rfl (by decide) (by decide) (by decide) k) ?_
    refine Ends.pre (T' := T29.setTop (mkF m 206 #[.val (.int x0), .val (.int x1), .val (.int x2), .val (.int x3), .val (.int (2 : Int32)), .val (.int y0), .val (.int y1), .val (.int y2), .val (.ref b18), .val (.ref r24), .val (.int (1 : Int32))] [(.int (1 : Int32))])) (fun t k => XS.iload X29.here hx rfl (hb hby at_204) rfl k) ?_
    exact Ends.retW (w := (.int (1 : Int32))) X29 hx Bd.notSynchronized Bd.returns rfl (Or.inl ⟨rfl, Or.inr (Or.inl rfl), _, rfl⟩) (hb hby at_206) eh29 hZ hEL hS0 (Nat.le_trans (Nat.le_trans (Nat.le_trans (Nat.le_trans hk0 E18.1) (Keep.of_wr W19).1) (Keep.of_wr W20).1) Kc24.1) hh CR24 ⟨rfl, N29⟩ (by decide) (by decide)
  · refine Ends.pre (T' := s₁.setTop (mkF m 19 #[.val (.int x0), .val (.int x1), .val (.int x2), .val (.int x3), .val (.int (3 : Int32)), .val (.int y0), .val (.int y1), .val (.int y2), .unset, .unset, .unset] [(.int (3 : Int32))])) (fun t k => XS.iload X0.here hx rfl (hb hby at_17) rfl k) ?_
    refine Ends.pre (T' := s₁.setTop (mkF m 30 #[.val (.int x0), .val (.int x1), .val (.int x2), .val (.int x3), .val (.int (3 : Int32)), .val (.int y0), .val (.int y1), .val (.int y2), .unset, .unset, .unset] [])) (fun t k => XS.ifYes X0.here hx rfl (pc0 := 19) (pc' := 30) rfl (hb hby at_19) rfl (by decide) (by decide) (by decide) k) ?_
    refine Ends.pre (T' := s₁.setTop (mkF m 32 #[.val (.int x0), .val (.int x1), .val (.int x2), .val (.int x3), .val (.int (3 : Int32)), .val (.int y0), .val (.int y1), .val (.int y2), .unset, .unset, .unset] [(.int (3 : Int32))])) (fun t k => XS.iload X0.here hx rfl (hb hby at_30) rfl k) ?_
    refine Ends.pre (T' := s₁.setTop (mkF m 33 #[.val (.int x0), .val (.int x1), .val (.int x2), .val (.int x3), .val (.int (3 : Int32)), .val (.int y0), .val (.int y1), .val (.int y2), .unset, .unset, .unset] [(.int (1 : Int32)), (.int (3 : Int32))])) (fun t k => XS.iconst X0.here hx rfl (hb hby at_32) k) ?_
    refine Ends.pre (T' := s₁.setTop (mkF m 49 #[.val (.int x0), .val (.int x1), .val (.int x2), .val (.int x3), .val (.int (3 : Int32)), .val (.int y0), .val (.int y1), .val (.int y2), .unset, .unset, .unset] [])) (fun t k => XS.icmpYes X0.here hx rfl (pc0 := 33) (pc' := 49) rfl (hb hby at_33) rfl (by decide) (by decide) (by decide) k) ?_
    refine Ends.pre (T' := s₁.setTop (mkF m 51 #[.val (.int x0), .val (.int x1), .val (.int x2), .val (.int x3), .val (.int (3 : Int32)), .val (.int y0), .val (.int y1), .val (.int y2), .unset, .unset, .unset] [(.int (3 : Int32))])) (fun t k => XS.iload X0.here hx rfl (hb hby at_49) rfl k) ?_
    refine Ends.pre (T' := s₁.setTop (mkF m 52 #[.val (.int x0), .val (.int x1), .val (.int x2), .val (.int x3), .val (.int (3 : Int32)), .val (.int y0), .val (.int y1), .val (.int y2), .unset, .unset, .unset] [(.int (2 : Int32)), (.int (3 : Int32))])) (fun t k => XS.iconst X0.here hx rfl (hb hby at_51) k) ?_
    refine Ends.pre (T' := s₁.setTop (mkF m 73 #[.val (.int x0), .val (.int x1), .val (.int x2), .val (.int x3), .val (.int (3 : Int32)), .val (.int y0), .val (.int y1), .val (.int y2), .unset, .unset, .unset] [])) (fun t k => XS.icmpYes X0.here hx rfl (pc0 := 52) (pc' := 73) rfl (hb hby at_52) rfl (by decide) (by decide) (by decide) k) ?_
    refine Ends.pre (T' := s₁.setTop (mkF m 74 #[.val (.int x0), .val (.int x1), .val (.int x2), .val (.int x3), .val (.int (3 : Int32)), .val (.int y0), .val (.int y1), .val (.int y2), .unset, .unset, .unset] [(.int (3 : Int32))])) (fun t k => XS.iconst X0.here hx rfl (hb hby at_73) k) ?_
    obtain ⟨T30, h30, k30, X30, e30, E30, A30, st30⟩ := newP X0 hx hZ (hw _ (List.mem_of_getElem? (i := 0) rfl)) e0 (g := (mkF m 74 #[.val (.int x0), .val (.int x1), .val (.int x2), .val (.int x3), .val (.int (3 : Int32)), .val (.int y0), .val (.int y1), .val (.int y2), .unset, .unset, .unset] [(.int (3 : Int32))])) rfl (hb hby at_74) rfl (by decide) (cap := 3) (by decide) (by decide) (by decide) (by decide)
    obtain ⟨b30, g30⟩ : ∃ z, z = h0.size := ⟨_, rfl⟩
    rw [← g30] at A30 st30
    have ge_b30 : n0 ≤ b30 := Nat.le_trans Z0 (Nat.le_of_eq g30.symm)
    have sz_b30 : h0.size ≤ b30 := Nat.le_trans (Keep.refl h0 []).1 (Nat.le_of_eq g30.symm)
    have CR30 := CHr.trans CR0 (CHr.ext E30 CH0)
    have K30 : Keep h0 h30 [] := (Keep.refl h0 []).ext E30
    have V30 : Arv Z h30 b30 k30 .byte (3 : Int32) [(.int (0 : Int32)), (.int (0 : Int32)), (.int (0 : Int32))] (.int (0 : Int32)) := (Arv.new A30 (by decide)).pad (pad_rep [] (.int (0 : Int32)) 3)
    refine Ends.pre (T' := T30.setTop (mkF m 76 #[.val (.int x0), .val (.int x1), .val (.int x2), .val (.int x3), .val (.int (3 : Int32)), .val (.int y0), .val (.int y1), .val (.int y2), .unset, .unset, .unset] [(.ref b30)])) (fun t k => st30 _ k) ?_
    refine Ends.pre (T' := T30.setTop (mkF m 77 #[.val (.int x0), .val (.int x1), .val (.int x2), .val (.int x3), .val (.int (3 : Int32)), .val (.int y0), .val (.int y1), .val (.int y2), .unset, .unset, .unset] [(.ref b30), (.ref b30)])) (fun t k => XS.dup X30.here hx rfl (hb hby at_76) rfl rfl k) ?_
    refine Ends.pre (T' := T30.setTop (mkF m 78 #[.val (.int x0), .val (.int x1), .val (.int x2), .val (.int x3), .val (.int (3 : Int32)), .val (.int y0), .val (.int y1), .val (.int y2), .unset, .unset, .unset] [(.int (0 : Int32)), (.ref b30), (.ref b30)])) (fun t k => XS.iconst X30.here hx rfl (hb hby at_77) k) ?_
    refine Ends.pre (T' := T30.setTop (mkF m 80 #[.val (.int x0), .val (.int x1), .val (.int x2), .val (.int x3), .val (.int (3 : Int32)), .val (.int y0), .val (.int y1), .val (.int y2), .unset, .unset, .unset] [(.int y0), (.int (0 : Int32)), (.ref b30), (.ref b30)])) (fun t k => XS.iload X30.here hx rfl (hb hby at_78) rfl k) ?_
    obtain ⟨cl31, Ar31, q31, S31, N31', H31, G31⟩ := id V30
    have hin31 : ¬ ((0 : Int32) < 0 ∨ cl31.slots.size ≤ ((0 : Int32)).toNatClampNeg) := inb_of S31 ⟨by decide, by decide⟩
    obtain ⟨T31, h31, X31, e31, W31, st31⟩ := stB X30 hx hZ e30 Ar31 (j := (0 : Int32)) hin31 (g := (mkF m 80 #[.val (.int x0), .val (.int x1), .val (.int x2), .val (.int x3), .val (.int (3 : Int32)), .val (.int y0), .val (.int y1), .val (.int y2), .unset, .unset, .unset] [(.int y0), (.int (0 : Int32)), (.ref b30), (.ref b30)])) rfl rfl (hb hby at_80)
    have CR31 := CHr.trans CR30 (CHr.wr W31 (Safe.ext E30 CH0 (Safe.new (Nat.le_of_eq g30.symm))) CR30.1)
    have V31 : Arv Z h31 b30 k30 .byte (3 : Int32) [(.int y0), (.int (0 : Int32)), (.int (0 : Int32))] (.int (0 : Int32)) := (by have q := Arv.set Ar31 q31 S31 N31' H31 G31 (fits_nar_byte _) W31 0 rfl (Nat.le_of_ble_eq_true rfl); rw [nb0] at q; exact q)
    have N31 := Fr.snoc X31 N0 ge_b30
    refine Ends.pre (T' := T31.setTop (mkF m 81 #[.val (.int x0), .val (.int x1), .val (.int x2), .val (.int x3), .val (.int (3 : Int32)), .val (.int y0), .val (.int y1), .val (.int y2), .unset, .unset, .unset] [(.ref b30)])) (fun t k => st31 _ k) ?_
    have K31 : Keep h0 h31 [] := K30.wr W31 (Or.inr sz_b30)
    refine Ends.pre (T' := T31.setTop (mkF m 82 #[.val (.int x0), .val (.int x1), .val (.int x2), .val (.int x3), .val (.int (3 : Int32)), .val (.int y0), .val (.int y1), .val (.int y2), .unset, .unset, .unset] [(.ref b30), (.ref b30)])) (fun t k => XS.dup X31.here hx rfl (hb hby at_81) rfl rfl k) ?_
    refine Ends.pre (T' := T31.setTop (mkF m 83 #[.val (.int x0), .val (.int x1), .val (.int x2), .val (.int x3), .val (.int (3 : Int32)), .val (.int y0), .val (.int y1), .val (.int y2), .unset, .unset, .unset] [(.int (1 : Int32)), (.ref b30), (.ref b30)])) (fun t k => XS.iconst X31.here hx rfl (hb hby at_82) k) ?_
    refine Ends.pre (T' := T31.setTop (mkF m 85 #[.val (.int x0), .val (.int x1), .val (.int x2), .val (.int x3), .val (.int (3 : Int32)), .val (.int y0), .val (.int y1), .val (.int y2), .unset, .unset, .unset] [(.int y1), (.int (1 : Int32)), (.ref b30), (.ref b30)])) (fun t k => XS.iload X31.here hx rfl (hb hby at_83) rfl k) ?_
    obtain ⟨cl32, Ar32, q32, S32, N32', H32, G32⟩ := id V31
    have hin32 : ¬ ((1 : Int32) < 0 ∨ cl32.slots.size ≤ ((1 : Int32)).toNatClampNeg) := inb_of S32 ⟨by decide, by decide⟩
    obtain ⟨T32, h32, X32, e32, W32, st32⟩ := stB X31 hx hZ e31 Ar32 (j := (1 : Int32)) hin32 (g := (mkF m 85 #[.val (.int x0), .val (.int x1), .val (.int x2), .val (.int x3), .val (.int (3 : Int32)), .val (.int y0), .val (.int y1), .val (.int y2), .unset, .unset, .unset] [(.int y1), (.int (1 : Int32)), (.ref b30), (.ref b30)])) rfl rfl (hb hby at_85)
    have CR32 := CHr.trans CR31 (CHr.wr W32 (Safe.wr W31 (Safe.ext E30 CH0 (Safe.new (Nat.le_of_eq g30.symm))) CR30.1 (Safe.ext E30 CH0 (Safe.new (Nat.le_of_eq g30.symm)))) CR31.1)
    have V32 : Arv Z h32 b30 k30 .byte (3 : Int32) [(.int y0), (.int y1), (.int (0 : Int32))] (.int (0 : Int32)) := (by have q := Arv.set Ar32 q32 S32 N32' H32 G32 (fits_nar_byte _) W32 1 rfl (Nat.le_of_ble_eq_true rfl); rw [nb1] at q; exact q)
    have N32 := Fr.snoc X32 N31 ge_b30
    refine Ends.pre (T' := T32.setTop (mkF m 86 #[.val (.int x0), .val (.int x1), .val (.int x2), .val (.int x3), .val (.int (3 : Int32)), .val (.int y0), .val (.int y1), .val (.int y2), .unset, .unset, .unset] [(.ref b30)])) (fun t k => st32 _ k) ?_
    have K32 : Keep h0 h32 [] := K31.wr W32 (Or.inr sz_b30)
    refine Ends.pre (T' := T32.setTop (mkF m 87 #[.val (.int x0), .val (.int x1), .val (.int x2), .val (.int x3), .val (.int (3 : Int32)), .val (.int y0), .val (.int y1), .val (.int y2), .unset, .unset, .unset] [(.ref b30), (.ref b30)])) (fun t k => XS.dup X32.here hx rfl (hb hby at_86) rfl rfl k) ?_
    refine Ends.pre (T' := T32.setTop (mkF m 88 #[.val (.int x0), .val (.int x1), .val (.int x2), .val (.int x3), .val (.int (3 : Int32)), .val (.int y0), .val (.int y1), .val (.int y2), .unset, .unset, .unset] [(.int (2 : Int32)), (.ref b30), (.ref b30)])) (fun t k => XS.iconst X32.here hx rfl (hb hby at_87) k) ?_
    refine Ends.pre (T' := T32.setTop (mkF m 90 #[.val (.int x0), .val (.int x1), .val (.int x2), .val (.int x3), .val (.int (3 : Int32)), .val (.int y0), .val (.int y1), .val (.int y2), .unset, .unset, .unset] [(.int y2), (.int (2 : Int32)), (.ref b30), (.ref b30)])) (fun t k => XS.iload X32.here hx rfl (hb hby at_88) rfl k) ?_
    obtain ⟨cl33, Ar33, q33, S33, N33', H33, G33⟩ := id V32
    have hin33 : ¬ ((2 : Int32) < 0 ∨ cl33.slots.size ≤ ((2 : Int32)).toNatClampNeg) := inb_of S33 ⟨by decide, by decide⟩
    obtain ⟨T33, h33, X33, e33, W33, st33⟩ := stB X32 hx hZ e32 Ar33 (j := (2 : Int32)) hin33 (g := (mkF m 90 #[.val (.int x0), .val (.int x1), .val (.int x2), .val (.int x3), .val (.int (3 : Int32)), .val (.int y0), .val (.int y1), .val (.int y2), .unset, .unset, .unset] [(.int y2), (.int (2 : Int32)), (.ref b30), (.ref b30)])) rfl rfl (hb hby at_90)
    have CR33 := CHr.trans CR32 (CHr.wr W33 (Safe.wr W32 (Safe.wr W31 (Safe.ext E30 CH0 (Safe.new (Nat.le_of_eq g30.symm))) CR30.1 (Safe.ext E30 CH0 (Safe.new (Nat.le_of_eq g30.symm)))) CR31.1 (Safe.wr W31 (Safe.ext E30 CH0 (Safe.new (Nat.le_of_eq g30.symm))) CR30.1 (Safe.ext E30 CH0 (Safe.new (Nat.le_of_eq g30.symm))))) CR32.1)
    have V33 : Arv Z h33 b30 k30 .byte (3 : Int32) [(.int y0), (.int y1), (.int y2)] (.int (0 : Int32)) := (by have q := Arv.set Ar33 q33 S33 N33' H33 G33 (fits_nar_byte _) W33 2 rfl (Nat.le_of_ble_eq_true rfl); rw [nb2] at q; exact q)
    have N33 := Fr.snoc X33 N32 ge_b30
    refine Ends.pre (T' := T33.setTop (mkF m 91 #[.val (.int x0), .val (.int x1), .val (.int x2), .val (.int x3), .val (.int (3 : Int32)), .val (.int y0), .val (.int y1), .val (.int y2), .unset, .unset, .unset] [(.ref b30)])) (fun t k => st33 _ k) ?_
    have K33 : Keep h0 h33 [] := K32.wr W33 (Or.inr sz_b30)
    refine Ends.pre (T' := T33.setTop (mkF m 93 #[.val (.int x0), .val (.int x1), .val (.int x2), .val (.int x3), .val (.int (3 : Int32)), .val (.int y0), .val (.int y1), .val (.int y2), .val (.ref b30), .unset, .unset] [])) (fun t k => XS.astore (g := (mkF m 91 #[.val (.int x0), .val (.int x1), .val (.int x2), .val (.int x3), .val (.int (3 : Int32)), .val (.int y0), .val (.int y1), .val (.int y2), .unset, .unset, .unset] [(.ref b30)])) X33.here hx rfl (hb hby at_91) rfl rfl (l' := #[.val (.int x0), .val (.int x1), .val (.int x2), .val (.int x3), .val (.int (3 : Int32)), .val (.int y0), .val (.int y1), .val (.int y2), .val (.ref b30), .unset, .unset]) rfl k) ?_
    refine Ends.pre (T' := T33.setTop (mkF m 95 #[.val (.int x0), .val (.int x1), .val (.int x2), .val (.int x3), .val (.int (3 : Int32)), .val (.int y0), .val (.int y1), .val (.int y2), .val (.ref b30), .unset, .unset] [(.ref b30)])) (fun t k => XS.aload X33.here hx rfl (hb hby at_93) rfl rfl k) ?_
    have F34 : Sta Z h33 "com/example/wireform/wireform/Hex" "DIGITS" "[C" (.ref da) := (Sta_keep0 SDG K33)
    have F35 : Sta Z h33 "java/lang/String" "COMPACT_STRINGS" "Z" (.int cz) := (Sta_keep0 SCS K33)
    have F36 : Sta Z h33 "jdk/internal/util/Preconditions" "SIOOBE_FORMATTER" "Ljava/util/function/BiFunction;" fm := (Sta_keep0 SFM K33)
    obtain ⟨_, _, ⟨T37, L37, k37, n37⟩, -, X37, ⟨Lc37, hQ37, l37, y37, z37⟩, st37⟩ := Jvm.LawKit.callS X33 hx (y := (⟨"com/example/wireform/wireform/Hex", "format", "([B)Ljava/lang/String;"⟩ : MethodName)) hown (mvT hZ (hw _ (List.mem_of_getElem? (i := 1) rfl))) (mvT hZ (hw _ (List.mem_of_getElem? (i := 2) rfl))) (mvT hZ (hw _ (List.mem_of_getElem? (i := 3) rfl))) (mvT hZ (hw _ (List.mem_of_getElem? (i := 4) rfl))) (by decide) (backOf (W := 0) (rm1_3 l Z a0 hw [] b30 k30 y0 y1 y2 da cl cz fm h33 n0 (Nat.le_trans (Nat.le_trans (Nat.le_trans (Nat.le_trans Z0 E30.1) (Keep.of_wr W31).1) (Keep.of_wr W32).1) (Keep.of_wr W33).1) V33 F34 (Arr_keep0 ADG K33) hsz hel F35 hcz F36 hfm) hZ (hw _ (List.mem_of_getElem? (i := 4) rfl)) (hw _ (List.mem_of_getElem? (i := 3) rfl)) (by decide) (by decide)) (g := (mkF m 95 #[.val (.int x0), .val (.int x1), .val (.int x2), .val (.int x3), .val (.int (3 : Int32)), .val (.int y0), .val (.int y1), .val (.int y2), .val (.ref b30), .unset, .unset] [(.ref b30)])) rfl (by rw [hml]; rfl) (argsL := [(.ref b30)]) (rest := []) (lenOf pd_3 rfl) rfl (by show 2 * 0 + _ ≤ _; exact Nat.le_of_eq rfl) (hb hby at_95) (fun _ _ => ⟨rfl, e33, (by decide : 1 + 3 ≤ _), (by decide : 3 + 16 ≤ _)⟩)
    dsimp only [Pt.U, Pt.locs, Pt.cells, Pt.slots] at X37 l37 y37 z37 st37 hQ37
    subst l37 y37 z37
    obtain ⟨r37, t37, kb37, hQ37⟩ := hQ37
    obtain ⟨rfl, N37q, Kc37, Es37, Cs37, Vs37, As37⟩ := hQ37
    have N37 := Fr.app N33 N37q
    have K37 : Keep h0 T37.heap [] := K33.trans Kc37 all0
    have CR37 := CHr.trans CR33 (CHr.keep Kc37 sf0 CR33.1)
    have hp37 : ∀ c ∈ ([(own_hexd ((y0 >>> ((4 : Int32) &&& 31)) &&& (15 : Int32))), (own_hexd (y0 &&& (15 : Int32))), (own_hexd ((y1 >>> ((4 : Int32) &&& 31)) &&& (15 : Int32))), (own_hexd (y1 &&& (15 : Int32))), (own_hexd ((y2 >>> ((4 : Int32) &&& 31)) &&& (15 : Int32))), (own_hexd (y2 &&& (15 : Int32)))] : List Int32), ¬ c < 0 ∧ ¬ (255 : Int32) < c := (own_alS (own_hexr (own_and15 _)) (own_alS (own_hexr (own_and15 _)) (own_alS (own_hexr (own_and15 _)) (own_alS (own_hexr (own_and15 _)) (own_alS (own_hexr (own_and15 _)) (own_alS (own_hexr (own_and15 _)) own_al0))))))
    have hbd37 := own_up _ hp37
    have hcd37 : StrChars.Road.CodA ([(own_hexd ((y0 >>> ((4 : Int32) &&& 31)) &&& (15 : Int32))), (own_hexd (y0 &&& (15 : Int32))), (own_hexd ((y1 >>> ((4 : Int32) &&& 31)) &&& (15 : Int32))), (own_hexd (y1 &&& (15 : Int32))), (own_hexd ((y2 >>> ((4 : Int32) &&& 31)) &&& (15 : Int32))), (own_hexd (y2 &&& (15 : Int32)))] : List Int32) 0 (6 : Int32) ((([(own_hexd ((y0 >>> ((4 : Int32) &&& 31)) &&& (15 : Int32))), (own_hexd (y0 &&& (15 : Int32))), (own_hexd ((y1 >>> ((4 : Int32) &&& 31)) &&& (15 : Int32))), (own_hexd (y1 &&& (15 : Int32))), (own_hexd ((y2 >>> ((4 : Int32) &&& 31)) &&& (15 : Int32))), (own_hexd (y2 &&& (15 : Int32)))] : List Int32).map (fun c => c.toInt8.toInt32)).map Value.int) := StrChars.Road.codOf (n := 6) rfl (fun c hc => (hp37 c hc).2)
    refine Ends.pre (T' := T37.setTop (mkF m 98 #[.val (.int x0), .val (.int x1), .val (.int x2), .val (.int x3), .val (.int (3 : Int32)), .val (.int y0), .val (.int y1), .val (.int y2), .val (.ref b30), .unset, .unset] [(.ref r37)])) (fun t k => st37 _ k) ?_
    refine Ends.pre (T' := T37.setTop (mkF m 100 #[.val (.int x0), .val (.int x1), .val (.int x2), .val (.int x3), .val (.int (3 : Int32)), .val (.int y0), .val (.int y1), .val (.int y2), .val (.ref b30), .val (.ref r37), .unset] [])) (fun t k => XS.astore (g := (mkF m 98 #[.val (.int x0), .val (.int x1), .val (.int x2), .val (.int x3), .val (.int (3 : Int32)), .val (.int y0), .val (.int y1), .val (.int y2), .val (.ref b30), .unset, .unset] [(.ref r37)])) X37.here hx rfl (hb hby at_98) rfl rfl (l' := #[.val (.int x0), .val (.int x1), .val (.int x2), .val (.int x3), .val (.int (3 : Int32)), .val (.int y0), .val (.int y1), .val (.int y2), .val (.ref b30), .val (.ref r37), .unset]) rfl k) ?_
    refine Ends.pre (T' := T37.setTop (mkF m 102 #[.val (.int x0), .val (.int x1), .val (.int x2), .val (.int x3), .val (.int (3 : Int32)), .val (.int y0), .val (.int y1), .val (.int y2), .val (.ref b30), .val (.ref r37), .unset] [(.ref r37)])) (fun t k => XS.aload X37.here hx rfl (hb hby at_100) rfl rfl k) ?_
    have F38 : Sta Z T37.heap "java/lang/String" "COMPACT_STRINGS" "Z" (.int cz) := (Sta_keep0 SCS K37)
    obtain ⟨cq39, kq39, q39a, q39b, q39c⟩ := isOf hZ rfl Es37
    obtain ⟨_, _, ⟨T39, L39, k39, n39⟩, -, X39, ⟨Lc39, hQ39, l39, y39, z39⟩, st39⟩ := X37.virtualBack hx (y := (⟨"java/lang/String", "length", "()I"⟩ : MethodName)) (z := (⟨"java/lang/String", "length", "()I"⟩ : MethodName)) hown (mvT hZ (hw _ (List.mem_of_getElem? (i := 36) rfl))) (mvT hZ (hw _ (List.mem_of_getElem? (i := 37) rfl))) (notFace_of_selects (args := #[]) (mvT hZ (hw _ (List.mem_of_getElem? (i := 39) rfl)))) (mvT hZ (hw _ (List.mem_of_getElem? (i := 39) rfl))) (mvT hZ (hw _ (List.mem_of_getElem? (i := 38) rfl))) (by decide) (StrChars.Road.lenW (W := 0) hZ (own_hln hw) (kI := 4) (hw _ (List.mem_of_getElem? (i := 9) rfl)) Es37 Vs37 Cs37 As37 hcd37 hbd37 F38 hcz (Nat.le_of_ble_eq_true rfl) (by decide) (by decide)) q39a q39c (g := (mkF m 102 #[.val (.int x0), .val (.int x1), .val (.int x2), .val (.int x3), .val (.int (3 : Int32)), .val (.int y0), .val (.int y1), .val (.int y2), .val (.ref b30), .val (.ref r37), .unset] [(.ref r37)])) rfl (by rw [hml]; rfl) (Steps.refl _) (argsL := []) (rest := []) (lenOf pd_4 rfl) rfl (by show 2 * 0 + _ ≤ _; exact Nat.le_of_eq rfl) (hb hby at_102) (fun _ _ => ⟨rfl, rfl, (by decide : 4 + 0 ≤ _), (by decide : 19 + 0 ≤ _)⟩)
    dsimp only [Pt.U, Pt.locs, Pt.cells, Pt.slots] at X39 l39 y39 z39 st39 hQ39
    subst l39 y39 z39
    obtain ⟨rfl, rfl, eh39⟩ := hQ39
    have N39 := Fr.app N37 (Fr.nil n0)
    refine Ends.pre (T' := T39.setTop (mkF m 105 #[.val (.int x0), .val (.int x1), .val (.int x2), .val (.int x3), .val (.int (3 : Int32)), .val (.int y0), .val (.int y1), .val (.int y2), .val (.ref b30), .val (.ref r37), .unset] [(.int (6 : Int32))])) (fun t k => st39.trans k) ?_
    refine Ends.pre (T' := T39.setTop (mkF m 106 #[.val (.int x0), .val (.int x1), .val (.int x2), .val (.int x3), .val (.int (3 : Int32)), .val (.int y0), .val (.int y1), .val (.int y2), .val (.ref b30), .val (.ref r37), .unset] [(.int (2 : Int32)), (.int (6 : Int32))])) (fun t k => XS.iconst X39.here hx rfl (hb hby at_105) k) ?_
    refine Ends.pre (T' := T39.setTop (mkF m 108 #[.val (.int x0), .val (.int x1), .val (.int x2), .val (.int x3), .val (.int (3 : Int32)), .val (.int y0), .val (.int y1), .val (.int y2), .val (.ref b30), .val (.ref r37), .unset] [(.int (3 : Int32)), (.int (2 : Int32)), (.int (6 : Int32))])) (fun t k => XS.iload X39.here hx rfl (hb hby at_106) rfl k) ?_
    refine Ends.pre (T' := T39.setTop (mkF m 109 #[.val (.int x0), .val (.int x1), .val (.int x2), .val (.int x3), .val (.int (3 : Int32)), .val (.int y0), .val (.int y1), .val (.int y2), .val (.ref b30), .val (.ref r37), .unset] [(.int (6 : Int32)), (.int (6 : Int32))])) (fun t k => XS.imul X39.here hx rfl (hb hby at_108) rfl k) ?_
    refine Ends.pre (T' := T39.setTop (mkF m 114 #[.val (.int x0), .val (.int x1), .val (.int x2), .val (.int x3), .val (.int (3 : Int32)), .val (.int y0), .val (.int y1), .val (.int y2), .val (.ref b30), .val (.ref r37), .unset] [])) (fun t k => XS.icmpYes X39.here hx rfl (pc0 := 109) (pc' := 114) rfl (hb hby at_109) rfl (by decide) (by decide) (by decide) k) ?_
    refine Ends.pre (T' := T39.setTop (mkF m 115 #[.val (.int x0), .val (.int x1), .val (.int x2), .val (.int x3), .val (.int (3 : Int32)), .val (.int y0), .val (.int y1), .val (.int y2), .val (.ref b30), .val (.ref r37), .unset] [(.int (1 : Int32))])) (fun t k => XS.iconst X39.here hx rfl (hb hby at_114) k) ?_
    refine Ends.pre (T' := T39.setTop (mkF m 117 #[.val (.int x0), .val (.int x1), .val (.int x2), .val (.int x3), .val (.int (3 : Int32)), .val (.int y0), .val (.int y1), .val (.int y2), .val (.ref b30), .val (.ref r37), .val (.int (1 : Int32))] [])) (fun t k => XS.istore (g := (mkF m 115 #[.val (.int x0), .val (.int x1), .val (.int x2), .val (.int x3), .val (.int (3 : Int32)), .val (.int y0), .val (.int y1), .val (.int y2), .val (.ref b30), .val (.ref r37), .unset] [(.int (1 : Int32))])) X39.here hx rfl (hb hby at_115) rfl (l' := #[.val (.int x0), .val (.int x1), .val (.int x2), .val (.int x3), .val (.int (3 : Int32)), .val (.int y0), .val (.int y1), .val (.int y2), .val (.ref b30), .val (.ref r37), .val (.int (1 : Int32))]) rfl k) ?_
    refine Ends.pre (T' := T39.setTop (mkF m 119 #[.val (.int x0), .val (.int x1), .val (.int x2), .val (.int x3), .val (.int (3 : Int32)), .val (.int y0), .val (.int y1), .val (.int y2), .val (.ref b30), .val (.ref r37), .val (.int (1 : Int32))] [(.int (3 : Int32))])) (fun t k => XS.iload X39.here hx rfl (hb hby at_117) rfl k) ?_
    refine Ends.pre (T' := T39.setTop (mkF m 120 #[.val (.int x0), .val (.int x1), .val (.int x2), .val (.int x3), .val (.int (3 : Int32)), .val (.int y0), .val (.int y1), .val (.int y2), .val (.ref b30), .val (.ref r37), .val (.int (1 : Int32))] [(.int (1 : Int32)), (.int (3 : Int32))])) (fun t k => XS.iconst X39.here hx rfl (hb hby at_119) k) ?_
    refine Ends.pre (T' := T39.setTop (mkF m 123 #[.val (.int x0), .val (.int x1), .val (.int x2), .val (.int x3), .val (.int (3 : Int32)), .val (.int y0), .val (.int y1), .val (.int y2), .val (.ref b30), .val (.ref r37), .val (.int (1 : Int32))] [])) (fun t k => XS.icmpNo X39.here hx rfl (hb hby at_120) rfl (by decide) k) ?_
    refine Ends.pre (T' := T39.setTop (mkF m 125 #[.val (.int x0), .val (.int x1), .val (.int x2), .val (.int x3), .val (.int (3 : Int32)), .val (.int y0), .val (.int y1), .val (.int y2), .val (.ref b30), .val (.ref r37), .val (.int (1 : Int32))] [(.int (1 : Int32))])) (fun t k => XS.iload X39.here hx rfl (hb hby at_123) rfl k) ?_
    refine Ends.pre (T' := T39.setTop (mkF m 128 #[.val (.int x0), .val (.int x1), .val (.int x2), .val (.int x3), .val (.int (3 : Int32)), .val (.int y0), .val (.int y1), .val (.int y2), .val (.ref b30), .val (.ref r37), .val (.int (1 : Int32))] [])) (fun t k => XS.ifNo X39.here hx rfl (hb hby at_125) rfl (by decide) k) ?_
    refine Ends.pre (T' := T39.setTop (mkF m 130 #[.val (.int x0), .val (.int x1), .val (.int x2), .val (.int x3), .val (.int (3 : Int32)), .val (.int y0), .val (.int y1), .val (.int y2), .val (.ref b30), .val (.ref r37), .val (.int (1 : Int32))] [(.ref r37)])) (fun t k => XS.aload X39.here hx rfl (hb hby at_128) rfl rfl k) ?_
    refine Ends.pre (T' := T39.setTop (mkF m 131 #[.val (.int x0), .val (.int x1), .val (.int x2), .val (.int x3), .val (.int (3 : Int32)), .val (.int y0), .val (.int y1), .val (.int y2), .val (.ref b30), .val (.ref r37), .val (.int (1 : Int32))] [(.int (0 : Int32)), (.ref r37)])) (fun t k => XS.iconst X39.here hx rfl (hb hby at_130) k) ?_
    refine Ends.pre (T' := T39.setTop (mkF m 133 #[.val (.int x0), .val (.int x1), .val (.int x2), .val (.int x3), .val (.int (3 : Int32)), .val (.int y0), .val (.int y1), .val (.int y2), .val (.ref b30), .val (.ref r37), .val (.int (1 : Int32))] [(.int y0), (.int (0 : Int32)), (.ref r37)])) (fun t k => XS.iload X39.here hx rfl (hb hby at_131) rfl k) ?_
    have F40 : Sta Z T37.heap "jdk/internal/util/Preconditions" "SIOOBE_FORMATTER" "Ljava/util/function/BiFunction;" fm := (Sta_keep0 SFM K37)
    obtain ⟨_, _, ⟨T41, L41, k41, n41⟩, -, X41, ⟨Lc41, hQ41, l41, y41, z41⟩, st41⟩ := Jvm.LawKit.callS X39 hx (y := (⟨"com/example/wireform/wireform/HexFormatPinLaw", "pair", "(Ljava/lang/String;IB)Z"⟩ : MethodName)) hown (mvT hZ (hw _ (List.mem_of_getElem? (i := 46) rfl))) (mvT hZ (hw _ (List.mem_of_getElem? (i := 47) rfl))) (mvT hZ (hw _ (List.mem_of_getElem? (i := 48) rfl))) (mvT hZ (hw _ (List.mem_of_getElem? (i := 49) rfl))) (by decide) (backOf (W := 0) (rm10_0 l Z a0 hw [] r37 t37 kb37 ([(own_hexd ((y0 >>> ((4 : Int32) &&& 31)) &&& (15 : Int32))), (own_hexd (y0 &&& (15 : Int32))), (own_hexd ((y1 >>> ((4 : Int32) &&& 31)) &&& (15 : Int32))), (own_hexd (y1 &&& (15 : Int32))), (own_hexd ((y2 >>> ((4 : Int32) &&& 31)) &&& (15 : Int32))), (own_hexd (y2 &&& (15 : Int32)))] : List Int32) (6 : Int32) _ y0 cz fm T37.heap n0 (Nat.le_trans (Nat.le_trans (Nat.le_trans (Nat.le_trans (Nat.le_trans Z0 E30.1) (Keep.of_wr W31).1) (Keep.of_wr W32).1) (Keep.of_wr W33).1) Kc37.1) Es37 Cs37 Vs37 As37 hcd37 hbd37 (Nat.le_of_ble_eq_true rfl) (Nat.le_of_ble_eq_true rfl) (Nat.le_of_ble_eq_true rfl) rfl rfl F38 hcz F40 hfm) hZ (hw _ (List.mem_of_getElem? (i := 49) rfl)) (hw _ (List.mem_of_getElem? (i := 48) rfl)) (by decide) (by decide)) (g := (mkF m 133 #[.val (.int x0), .val (.int x1), .val (.int x2), .val (.int x3), .val (.int (3 : Int32)), .val (.int y0), .val (.int y1), .val (.int y2), .val (.ref b30), .val (.ref r37), .val (.int (1 : Int32))] [(.int y0), (.int (0 : Int32)), (.ref r37)])) rfl (by rw [hml]; rfl) (argsL := [(.ref r37), (.int (0 : Int32)), (.int y0)]) (rest := []) (lenOf pd_5 rfl) rfl (by show 2 * 0 + _ ≤ _; exact Nat.le_of_eq rfl) (hb hby at_133) (fun _ _ => ⟨rfl, eh39, (by decide : 4 + 0 ≤ _), (by decide : 19 + 0 ≤ _)⟩)
    dsimp only [Pt.U, Pt.locs, Pt.cells, Pt.slots] at X41 l41 y41 z41 st41 hQ41
    subst l41 y41 z41
    obtain ⟨rfl, N41q, eh41⟩ := hQ41
    have N41 := Fr.app N39 N41q
    refine Ends.pre (T' := T41.setTop (mkF m 136 #[.val (.int x0), .val (.int x1), .val (.int x2), .val (.int x3), .val (.int (3 : Int32)), .val (.int y0), .val (.int y1), .val (.int y2), .val (.ref b30), .val (.ref r37), .val (.int (1 : Int32))] [(.int (1 : Int32))])) (fun t k => st41 _ k) ?_
    refine Ends.pre (T' := T41.setTop (mkF m 139 #[.val (.int x0), .val (.int x1), .val (.int x2), .val (.int x3), .val (.int (3 : Int32)), .val (.int y0), .val (.int y1), .val (.int y2), .val (.ref b30), .val (.ref r37), .val (.int (1 : Int32))] [])) (fun t k => XS.ifNo X41.here hx rfl (hb hby at_136) rfl (by decide) k) ?_
    refine Ends.pre (T' := T41.setTop (mkF m 140 #[.val (.int x0), .val (.int x1), .val (.int x2), .val (.int x3), .val (.int (3 : Int32)), .val (.int y0), .val (.int y1), .val (.int y2), .val (.ref b30), .val (.ref r37), .val (.int (1 : Int32))] [(.int (1 : Int32))])) (fun t k => XS.iconst X41.here hx rfl (hb hby at_139) k) ?_
    refine Ends.pre (T' := T41.setTop (mkF m 144 #[.val (.int x0), .val (.int x1), .val (.int x2), .val (.int x3), .val (.int (3 : Int32)), .val (.int y0), .val (.int y1), .val (.int y2), .val (.ref b30), .val (.ref r37), .val (.int (1 : Int32))] [(.int (1 : Int32))])) (fun t k => XS.goto X41.here hx rfl (pc0 := 140) (pc' := 144) rfl (hb hby at_140) (by decide) (by decide) k) ?_
    refine Ends.pre (T' := T41.setTop (mkF m 146 #[.val (.int x0), .val (.int x1), .val (.int x2), .val (.int x3), .val (.int (3 : Int32)), .val (.int y0), .val (.int y1), .val (.int y2), .val (.ref b30), .val (.ref r37), .val (.int (1 : Int32))] [])) (fun t k => XS.istore (g := (mkF m 144 #[.val (.int x0), .val (.int x1), .val (.int x2), .val (.int x3), .val (.int (3 : Int32)), .val (.int y0), .val (.int y1), .val (.int y2), .val (.ref b30), .val (.ref r37), .val (.int (1 : Int32))] [(.int (1 : Int32))])) X41.here hx rfl (hb hby at_144) rfl (l' := #[.val (.int x0), .val (.int x1), .val (.int x2), .val (.int x3), .val (.int (3 : Int32)), .val (.int y0), .val (.int y1), .val (.int y2), .val (.ref b30), .val (.ref r37), .val (.int (1 : Int32))]) rfl k) ?_
    refine Ends.pre (T' := T41.setTop (mkF m 148 #[.val (.int x0), .val (.int x1), .val (.int x2), .val (.int x3), .val (.int (3 : Int32)), .val (.int y0), .val (.int y1), .val (.int y2), .val (.ref b30), .val (.ref r37), .val (.int (1 : Int32))] [(.int (3 : Int32))])) (fun t k => XS.iload X41.here hx rfl (hb hby at_146) rfl k) ?_
    refine Ends.pre (T' := T41.setTop (mkF m 149 #[.val (.int x0), .val (.int x1), .val (.int x2), .val (.int x3), .val (.int (3 : Int32)), .val (.int y0), .val (.int y1), .val (.int y2), .val (.ref b30), .val (.ref r37), .val (.int (1 : Int32))] [(.int (2 : Int32)), (.int (3 : Int32))])) (fun t k => XS.iconst X41.here hx rfl (hb hby at_148) k) ?_
    refine Ends.pre (T' := T41.setTop (mkF m 152 #[.val (.int x0), .val (.int x1), .val (.int x2), .val (.int x3), .val (.int (3 : Int32)), .val (.int y0), .val (.int y1), .val (.int y2), .val (.ref b30), .val (.ref r37), .val (.int (1 : Int32))] [])) (fun t k => XS.icmpNo X41.here hx rfl (hb hby at_149) rfl (by decide) k) ?_
    refine Ends.pre (T' := T41.setTop (mkF m 154 #[.val (.int x0), .val (.int x1), .val (.int x2), .val (.int x3), .val (.int (3 : Int32)), .val (.int y0), .val (.int y1), .val (.int y2), .val (.ref b30), .val (.ref r37), .val (.int (1 : Int32))] [(.int (1 : Int32))])) (fun t k => XS.iload X41.here hx rfl (hb hby at_152) rfl k) ?_
    refine Ends.pre (T' := T41.setTop (mkF m 157 #[.val (.int x0), .val (.int x1), .val (.int x2), .val (.int x3), .val (.int (3 : Int32)), .val (.int y0), .val (.int y1), .val (.int y2), .val (.ref b30), .val (.ref r37), .val (.int (1 : Int32))] [])) (fun t k => XS.ifNo X41.here hx rfl (hb hby at_154) rfl (by decide) k) ?_
    refine Ends.pre (T' := T41.setTop (mkF m 159 #[.val (.int x0), .val (.int x1), .val (.int x2), .val (.int x3), .val (.int (3 : Int32)), .val (.int y0), .val (.int y1), .val (.int y2), .val (.ref b30), .val (.ref r37), .val (.int (1 : Int32))] [(.ref r37)])) (fun t k => XS.aload X41.here hx rfl (hb hby at_157) rfl rfl k) ?_
    refine Ends.pre (T' := T41.setTop (mkF m 160 #[.val (.int x0), .val (.int x1), .val (.int x2), .val (.int x3), .val (.int (3 : Int32)), .val (.int y0), .val (.int y1), .val (.int y2), .val (.ref b30), .val (.ref r37), .val (.int (1 : Int32))] [(.int (2 : Int32)), (.ref r37)])) (fun t k => XS.iconst X41.here hx rfl (hb hby at_159) k) ?_
    refine Ends.pre (T' := T41.setTop (mkF m 162 #[.val (.int x0), .val (.int x1), .val (.int x2), .val (.int x3), .val (.int (3 : Int32)), .val (.int y0), .val (.int y1), .val (.int y2), .val (.ref b30), .val (.ref r37), .val (.int (1 : Int32))] [(.int y1), (.int (2 : Int32)), (.ref r37)])) (fun t k => XS.iload X41.here hx rfl (hb hby at_160) rfl k) ?_
    obtain ⟨_, _, ⟨T42, L42, k42, n42⟩, -, X42, ⟨Lc42, hQ42, l42, y42, z42⟩, st42⟩ := Jvm.LawKit.callS X41 hx (y := (⟨"com/example/wireform/wireform/HexFormatPinLaw", "pair", "(Ljava/lang/String;IB)Z"⟩ : MethodName)) hown (mvT hZ (hw _ (List.mem_of_getElem? (i := 46) rfl))) (mvT hZ (hw _ (List.mem_of_getElem? (i := 47) rfl))) (mvT hZ (hw _ (List.mem_of_getElem? (i := 48) rfl))) (mvT hZ (hw _ (List.mem_of_getElem? (i := 49) rfl))) (by decide) (backOf (W := 0) (rm10_2 l Z a0 hw [] r37 t37 kb37 ([(own_hexd ((y0 >>> ((4 : Int32) &&& 31)) &&& (15 : Int32))), (own_hexd (y0 &&& (15 : Int32))), (own_hexd ((y1 >>> ((4 : Int32) &&& 31)) &&& (15 : Int32))), (own_hexd (y1 &&& (15 : Int32))), (own_hexd ((y2 >>> ((4 : Int32) &&& 31)) &&& (15 : Int32))), (own_hexd (y2 &&& (15 : Int32)))] : List Int32) (6 : Int32) _ y1 cz fm T37.heap n0 (Nat.le_trans (Nat.le_trans (Nat.le_trans (Nat.le_trans (Nat.le_trans Z0 E30.1) (Keep.of_wr W31).1) (Keep.of_wr W32).1) (Keep.of_wr W33).1) Kc37.1) Es37 Cs37 Vs37 As37 hcd37 hbd37 (Nat.le_of_ble_eq_true rfl) (Nat.le_of_ble_eq_true rfl) (Nat.le_of_ble_eq_true rfl) rfl rfl F38 hcz F40 hfm) hZ (hw _ (List.mem_of_getElem? (i := 49) rfl)) (hw _ (List.mem_of_getElem? (i := 48) rfl)) (by decide) (by decide)) (g := (mkF m 162 #[.val (.int x0), .val (.int x1), .val (.int x2), .val (.int x3), .val (.int (3 : Int32)), .val (.int y0), .val (.int y1), .val (.int y2), .val (.ref b30), .val (.ref r37), .val (.int (1 : Int32))] [(.int y1), (.int (2 : Int32)), (.ref r37)])) rfl (by rw [hml]; rfl) (argsL := [(.ref r37), (.int (2 : Int32)), (.int y1)]) (rest := []) (lenOf pd_5 rfl) rfl (by show 2 * 0 + _ ≤ _; exact Nat.le_of_eq rfl) (hb hby at_162) (fun _ _ => ⟨rfl, eh41, (by decide : 4 + 0 ≤ _), (by decide : 19 + 0 ≤ _)⟩)
    dsimp only [Pt.U, Pt.locs, Pt.cells, Pt.slots] at X42 l42 y42 z42 st42 hQ42
    subst l42 y42 z42
    obtain ⟨rfl, N42q, eh42⟩ := hQ42
    have N42 := Fr.app N41 N42q
    refine Ends.pre (T' := T42.setTop (mkF m 165 #[.val (.int x0), .val (.int x1), .val (.int x2), .val (.int x3), .val (.int (3 : Int32)), .val (.int y0), .val (.int y1), .val (.int y2), .val (.ref b30), .val (.ref r37), .val (.int (1 : Int32))] [(.int (1 : Int32))])) (fun t k => st42 _ k) ?_
    refine Ends.pre (T' := T42.setTop (mkF m 168 #[.val (.int x0), .val (.int x1), .val (.int x2), .val (.int x3), .val (.int (3 : Int32)), .val (.int y0), .val (.int y1), .val (.int y2), .val (.ref b30), .val (.ref r37), .val (.int (1 : Int32))] [])) (fun t k => XS.ifNo X42.here hx rfl (hb hby at_165) rfl (by decide) k) ?_
    refine Ends.pre (T' := T42.setTop (mkF m 169 #[.val (.int x0), .val (.int x1), .val (.int x2), .val (.int x3), .val (.int (3 : Int32)), .val (.int y0), .val (.int y1), .val (.int y2), .val (.ref b30), .val (.ref r37), .val (.int (1 : Int32))] [(.int (1 : Int32))])) (fun t k => XS.iconst X42.here hx rfl (hb hby at_168) k) ?_
    refine Ends.pre (T' := T42.setTop (mkF m 173 #[.val (.int x0), .val (.int x1), .val (.int x2), .val (.int x3), .val (.int (3 : Int32)), .val (.int y0), .val (.int y1), .val (.int y2), .val (.ref b30), .val (.ref r37), .val (.int (1 : Int32))] [(.int (1 : Int32))])) (fun t k => XS.goto X42.here hx rfl (pc0 := 169) (pc' := 173) rfl (hb hby at_169) (by decide) (by decide) k) ?_
    refine Ends.pre (T' := T42.setTop (mkF m 175 #[.val (.int x0), .val (.int x1), .val (.int x2), .val (.int x3), .val (.int (3 : Int32)), .val (.int y0), .val (.int y1), .val (.int y2), .val (.ref b30), .val (.ref r37), .val (.int (1 : Int32))] [])) (fun t k => XS.istore (g := (mkF m 173 #[.val (.int x0), .val (.int x1), .val (.int x2), .val (.int x3), .val (.int (3 : Int32)), .val (.int y0), .val (.int y1), .val (.int y2), .val (.ref b30), .val (.ref r37), .val (.int (1 : Int32))] [(.int (1 : Int32))])) X42.here hx rfl (hb hby at_173) rfl (l' := #[.val (.int x0), .val (.int x1), .val (.int x2), .val (.int x3), .val (.int (3 : Int32)), .val (.int y0), .val (.int y1), .val (.int y2), .val (.ref b30), .val (.ref r37), .val (.int (1 : Int32))]) rfl k) ?_
    refine Ends.pre (T' := T42.setTop (mkF m 177 #[.val (.int x0), .val (.int x1), .val (.int x2), .val (.int x3), .val (.int (3 : Int32)), .val (.int y0), .val (.int y1), .val (.int y2), .val (.ref b30), .val (.ref r37), .val (.int (1 : Int32))] [(.int (3 : Int32))])) (fun t k => XS.iload X42.here hx rfl (hb hby at_175) rfl k) ?_
    refine Ends.pre (T' := T42.setTop (mkF m 178 #[.val (.int x0), .val (.int x1), .val (.int x2), .val (.int x3), .val (.int (3 : Int32)), .val (.int y0), .val (.int y1), .val (.int y2), .val (.ref b30), .val (.ref r37), .val (.int (1 : Int32))] [(.int (3 : Int32)), (.int (3 : Int32))])) (fun t k => XS.iconst X42.here hx rfl (hb hby at_177) k) ?_
    refine Ends.pre (T' := T42.setTop (mkF m 181 #[.val (.int x0), .val (.int x1), .val (.int x2), .val (.int x3), .val (.int (3 : Int32)), .val (.int y0), .val (.int y1), .val (.int y2), .val (.ref b30), .val (.ref r37), .val (.int (1 : Int32))] [])) (fun t k => XS.icmpNo X42.here hx rfl (hb hby at_178) rfl (by decide) k) ?_
    refine Ends.pre (T' := T42.setTop (mkF m 183 #[.val (.int x0), .val (.int x1), .val (.int x2), .val (.int x3), .val (.int (3 : Int32)), .val (.int y0), .val (.int y1), .val (.int y2), .val (.ref b30), .val (.ref r37), .val (.int (1 : Int32))] [(.int (1 : Int32))])) (fun t k => XS.iload X42.here hx rfl (hb hby at_181) rfl k) ?_
    refine Ends.pre (T' := T42.setTop (mkF m 186 #[.val (.int x0), .val (.int x1), .val (.int x2), .val (.int x3), .val (.int (3 : Int32)), .val (.int y0), .val (.int y1), .val (.int y2), .val (.ref b30), .val (.ref r37), .val (.int (1 : Int32))] [])) (fun t k => XS.ifNo X42.here hx rfl (hb hby at_183) rfl (by decide) k) ?_
    refine Ends.pre (T' := T42.setTop (mkF m 188 #[.val (.int x0), .val (.int x1), .val (.int x2), .val (.int x3), .val (.int (3 : Int32)), .val (.int y0), .val (.int y1), .val (.int y2), .val (.ref b30), .val (.ref r37), .val (.int (1 : Int32))] [(.ref r37)])) (fun t k => XS.aload X42.here hx rfl (hb hby at_186) rfl rfl k) ?_
    refine Ends.pre (T' := T42.setTop (mkF m 189 #[.val (.int x0), .val (.int x1), .val (.int x2), .val (.int x3), .val (.int (3 : Int32)), .val (.int y0), .val (.int y1), .val (.int y2), .val (.ref b30), .val (.ref r37), .val (.int (1 : Int32))] [(.int (4 : Int32)), (.ref r37)])) (fun t k => XS.iconst X42.here hx rfl (hb hby at_188) k) ?_
    refine Ends.pre (T' := T42.setTop (mkF m 191 #[.val (.int x0), .val (.int x1), .val (.int x2), .val (.int x3), .val (.int (3 : Int32)), .val (.int y0), .val (.int y1), .val (.int y2), .val (.ref b30), .val (.ref r37), .val (.int (1 : Int32))] [(.int y2), (.int (4 : Int32)), (.ref r37)])) (fun t k => XS.iload X42.here hx rfl (hb hby at_189) rfl k) ?_
    obtain ⟨_, _, ⟨T43, L43, k43, n43⟩, -, X43, ⟨Lc43, hQ43, l43, y43, z43⟩, st43⟩ := Jvm.LawKit.callS X42 hx (y := (⟨"com/example/wireform/wireform/HexFormatPinLaw", "pair", "(Ljava/lang/String;IB)Z"⟩ : MethodName)) hown (mvT hZ (hw _ (List.mem_of_getElem? (i := 46) rfl))) (mvT hZ (hw _ (List.mem_of_getElem? (i := 47) rfl))) (mvT hZ (hw _ (List.mem_of_getElem? (i := 48) rfl))) (mvT hZ (hw _ (List.mem_of_getElem? (i := 49) rfl))) (by decide) (backOf (W := 0) (rm10_4 l Z a0 hw [] r37 t37 kb37 ([(own_hexd ((y0 >>> ((4 : Int32) &&& 31)) &&& (15 : Int32))), (own_hexd (y0 &&& (15 : Int32))), (own_hexd ((y1 >>> ((4 : Int32) &&& 31)) &&& (15 : Int32))), (own_hexd (y1 &&& (15 : Int32))), (own_hexd ((y2 >>> ((4 : Int32) &&& 31)) &&& (15 : Int32))), (own_hexd (y2 &&& (15 : Int32)))] : List Int32) (6 : Int32) _ y2 cz fm T37.heap n0 (Nat.le_trans (Nat.le_trans (Nat.le_trans (Nat.le_trans (Nat.le_trans Z0 E30.1) (Keep.of_wr W31).1) (Keep.of_wr W32).1) (Keep.of_wr W33).1) Kc37.1) Es37 Cs37 Vs37 As37 hcd37 hbd37 (Nat.le_of_ble_eq_true rfl) (Nat.le_of_ble_eq_true rfl) (Nat.le_of_ble_eq_true rfl) rfl rfl F38 hcz F40 hfm) hZ (hw _ (List.mem_of_getElem? (i := 49) rfl)) (hw _ (List.mem_of_getElem? (i := 48) rfl)) (by decide) (by decide)) (g := (mkF m 191 #[.val (.int x0), .val (.int x1), .val (.int x2), .val (.int x3), .val (.int (3 : Int32)), .val (.int y0), .val (.int y1), .val (.int y2), .val (.ref b30), .val (.ref r37), .val (.int (1 : Int32))] [(.int y2), (.int (4 : Int32)), (.ref r37)])) rfl (by rw [hml]; rfl) (argsL := [(.ref r37), (.int (4 : Int32)), (.int y2)]) (rest := []) (lenOf pd_5 rfl) rfl (by show 2 * 0 + _ ≤ _; exact Nat.le_of_eq rfl) (hb hby at_191) (fun _ _ => ⟨rfl, eh42, (by decide : 4 + 0 ≤ _), (by decide : 19 + 0 ≤ _)⟩)
    dsimp only [Pt.U, Pt.locs, Pt.cells, Pt.slots] at X43 l43 y43 z43 st43 hQ43
    subst l43 y43 z43
    obtain ⟨rfl, N43q, eh43⟩ := hQ43
    have N43 := Fr.app N42 N43q
    refine Ends.pre (T' := T43.setTop (mkF m 194 #[.val (.int x0), .val (.int x1), .val (.int x2), .val (.int x3), .val (.int (3 : Int32)), .val (.int y0), .val (.int y1), .val (.int y2), .val (.ref b30), .val (.ref r37), .val (.int (1 : Int32))] [(.int (1 : Int32))])) (fun t k => st43 _ k) ?_
    refine Ends.pre (T' := T43.setTop (mkF m 197 #[.val (.int x0), .val (.int x1), .val (.int x2), .val (.int x3), .val (.int (3 : Int32)), .val (.int y0), .val (.int y1), .val (.int y2), .val (.ref b30), .val (.ref r37), .val (.int (1 : Int32))] [])) (fun t k => XS.ifNo X43.here hx rfl (hb hby at_194) rfl (by decide) k) ?_
    refine Ends.pre (T' := T43.setTop (mkF m 198 #[.val (.int x0), .val (.int x1), .val (.int x2), .val (.int x3), .val (.int (3 : Int32)), .val (.int y0), .val (.int y1), .val (.int y2), .val (.ref b30), .val (.ref r37), .val (.int (1 : Int32))] [(.int (1 : Int32))])) (fun t k => XS.iconst X43.here hx rfl (hb hby at_197) k) ?_
    refine Ends.pre (T' := T43.setTop (mkF m 202 #[.val (.int x0), .val (.int x1), .val (.int x2), .val (.int x3), .val (.int (3 : Int32)), .val (.int y0), .val (.int y1), .val (.int y2), .val (.ref b30), .val (.ref r37), .val (.int (1 : Int32))] [(.int (1 : Int32))])) (fun t k => XS.goto X43.here hx rfl (pc0 := 198) (pc' := 202) rfl (hb hby at_198) (by decide) (by decide) k) ?_
    refine Ends.pre (T' := T43.setTop (mkF m 204 #[.val (.int x0), .val (.int x1), .val (.int x2), .val (.int x3), .val (.int (3 : Int32)), .val (.int y0), .val (.int y1), .val (.int y2), .val (.ref b30), .val (.ref r37), .val (.int (1 : Int32))] [])) (fun t k => XS.istore (g := (mkF m 202 #[.val (.int x0), .val (.int x1), .val (.int x2), .val (.int x3), .val (.int (3 : Int32)), .val (.int y0), .val (.int y1), .val (.int y2), .val (.ref b30), .val (.ref r37), .val (.int (1 : Int32))] [(.int (1 : Int32))])) X43.here hx rfl (hb hby at_202) rfl (l' := #[.val (.int x0), .val (.int x1), .val (.int x2), .val (.int x3), .val (.int (3 : Int32)), .val (.int y0), .val (.int y1), .val (.int y2), .val (.ref b30), .val (.ref r37), .val (.int (1 : Int32))]) rfl k) ?_
    refine Ends.pre (T' := T43.setTop (mkF m 206 #[.val (.int x0), .val (.int x1), .val (.int x2), .val (.int x3), .val (.int (3 : Int32)), .val (.int y0), .val (.int y1), .val (.int y2), .val (.ref b30), .val (.ref r37), .val (.int (1 : Int32))] [(.int (1 : Int32))])) (fun t k => XS.iload X43.here hx rfl (hb hby at_204) rfl k) ?_
    exact Ends.retW (w := (.int (1 : Int32))) X43 hx Bd.notSynchronized Bd.returns rfl (Or.inl ⟨rfl, Or.inr (Or.inl rfl), _, rfl⟩) (hb hby at_206) eh43 hZ hEL hS0 (Nat.le_trans (Nat.le_trans (Nat.le_trans (Nat.le_trans (Nat.le_trans hk0 E30.1) (Keep.of_wr W31).1) (Keep.of_wr W32).1) (Keep.of_wr W33).1) Kc37.1) hh CR37 ⟨rfl, N43⟩ (by decide) (by decide)
set_option maxRecDepth 65536 in
set_option maxHeartbeats 40000000 in
theorem comes_1 {Post : Tables → Env → Array Value → State → Outcome → State → Prop} (hpost : ∀ tb e args s v u, (limb_1_1.after args s (.returned v) u = true ∧ limb_1_2.after args s (.returned v) u = true ∧ True) → ReturnedEndW s (.returned v) u (Jvm.fieldLocs frame_1_writes args s ++ Jvm.arrayLocs frame_1_arrays args s ++ Jvm.staticLocs frame_1_statics s) 24 1152 → Post tb e args s (.returned v) u) :
    ArmFor flags0 classFile x code maxLocals ret World_1 tables_1 room_1 Calls_1 rest_1 Pre_1 Post := by
  intro l hfl _ _ p e ha hc hk s m args below hf hA hF happ hP
  obtain ⟨hcalls, hrest, hpre⟩ := hP
  obtain ⟨-, -, -, hnamed, -, -, -, hat⟩ := (Spec.applies_iff hf).mp happ
  obtain ⟨hg, hn⟩ := and_e (Cond.before_iff.mp (show (Jvm.Cond.and given_1 narrow_1).before args s = true from hpre))
  obtain ⟨gg1, gg2⟩ := and_e hg
  obtain ⟨gg3, gg4⟩ := and_e gg2
  obtain ⟨gg5, gg6⟩ := and_e gg4
  obtain ⟨gg7, gg8⟩ := and_e gg6
  obtain ⟨gg9, gg10⟩ := and_e hn
  obtain ⟨gg11, gg12⟩ := and_e gg10
  obtain ⟨gg13, gg14⟩ := and_e gg12
  obtain ⟨w0, w1, w2, w3, rfl⟩ : ∃ w0 w1 w2 w3 : Value, args = #[w0, w1, w2, w3] := by
    have hs : args.size = 4 := by simpa [Cond.value, given_1] using gg1
    obtain ⟨L⟩ := args
    match L, hs with
    | [w0, w1, w2, w3], _ => exact ⟨w0, w1, w2, w3, rfl⟩
  have hw := fun d (hd : d ∈ tables_1) => atoms_spec (ws := Jvm.Cond.code x code maxLocals ret :: tables_1) hat d (List.mem_cons_of_mem _ hd)
  have hfit : Fit s := fun {y c} hc i hi => by
    obtain ⟨ha, rfl⟩ := Array.getElem?_eq_some_iff.mp hc
    have q := List.all_eq_true.mp ((Array.all_eq_true_iff_forall_mem.mp hF) _ (Array.getElem_mem ha)) i (List.mem_range.mpr hi)
    simpa [Array.getElem?_eq_getElem hi] using q
  obtain ⟨hsets, hown0⟩ := atoms_of _ (rest_1_c_eq ▸ (show rest_1_c.before _ s = true from hrest))
  have hr0 := Cond.before_iff.mp hown0
  obtain ⟨i0, ei0⟩ := is_v gg3
  obtain rfl : w0 = (.int i0) := Option.some.inj ei0
  obtain ⟨i1, ei1⟩ := is_v gg5
  obtain rfl : w1 = (.int i1) := Option.some.inj ei1
  obtain ⟨i2, ei2⟩ := is_v gg7
  obtain rfl : w2 = (.int i2) := Option.some.inj ei2
  obtain ⟨i3, ei3⟩ := is_v gg8
  obtain rfl : w3 = (.int i3) := Option.some.inj ei3
  obtain ⟨la1, ela1⟩ := arr_v gg9
  have lSla1 : Sta s s.heap "com/example/wireform/wireform/Hex" "DIGITS" "[C" (.ref la1) := Sta.start ela1 (Or.inr ⟨(hw _ (List.mem_of_getElem? (i := 3) rfl)), (hw _ (List.mem_of_getElem? (i := 7) rfl))⟩)
  obtain ⟨lcla1, lAla1⟩ := Arr.start ela1 gg9
  have lz := own_len ela1 (Arr.fin (Vm.Alike.refl _) lAla1) (eqI_v gg11)
  have hsz : lcla1.slots.size = 16 := by have q := len_toInt lz.1; rw [lz.2] at q; have : (16 : Int32).toInt = 16 := rfl; omega
  have hel := own_digits hfit (fun _ => ela1) lAla1 hsz gg13 gg14
  obtain ⟨cz, ecz⟩ := is_v (Cond.before_iff.mp (hsets _ (List.mem_of_getElem? (i := 1) rfl)))
  have SCS : Sta s s.heap "java/lang/String" "COMPACT_STRINGS" "Z" (.int cz) := Sta.start ecz (Or.inl (hsets _ (List.mem_of_getElem? (i := 0) rfl)))
  have hcz : ¬ cz = 0 := gotF (Cond.eq_ints ecz (Term.int_eval (0))) (not_v (Cond.before_iff.mp (hsets _ (List.mem_of_getElem? (i := 2) rfl))))
  obtain ⟨fm, efm, hfm⟩ := isR_v (Cond.before_iff.mp (hsets _ (List.mem_of_getElem? (i := 8) rfl)))
  have SFM : Sta s s.heap "jdk/internal/util/Preconditions" "SIOOBE_FORMATTER" "Ljava/util/function/BiFunction;" fm := Sta.start efm (Or.inl (hsets _ (List.mem_of_getElem? (i := 7) rfl)))
  have hcw := (hsets _ (List.mem_of_getElem? (i := 2) rfl))
  have hCH : CHv s consts_1 s.vm s.heap := CHv.start (own_EW hw) (fun p hp => hcalls.1 p hp) hcw (hw _ (List.mem_of_getElem? (i := 0) rfl)) (hw _ (List.mem_of_getElem? (i := 9) rfl))
  obtain ⟨n, o, h1, h2, h3, _, L, rfl, ⟨rfl, N⟩, -, hq⟩ := rm0 l s _ hw tables_1 i0 i1 i2 i3 la1 lcla1 cz fm s.heap s.heap.size (Nat.le_refl _) lSla1 lAla1 hsz hel SCS hcz SFM hfm p e ha hc hk s m _ below hf ((Spec.applies_iff_loose hf).mp happ).1 ⟨rfl, State.Warmed39.refl s, rfl, hCH⟩ trivial
  refine ⟨n, _, h1, h2, h3, hpost _ _ _ _ _ _ ⟨Cond.after_iff.mpr rfl, Cond.after_iff.mpr (eq_i res_at (Term.int_eval (1)) rfl), trivial⟩ ⟨hq.1, hq.2.1, hq.2.2.1, (hq.2.2.2.sift fun y hy => Or.inr (N y hy)).mono (by decide) (by decide)⟩⟩
theorem main_1_1 : Claimed_1_1 := comes_1 fun _ _ _ _ _ _ h hF => ⟨h.1, hF⟩
theorem main_1_2 : Claimed_1_2 := comes_1 fun _ _ _ _ _ _ h hF => ⟨h.2.1, hF⟩
end Jvm.Pilot.@@N@@
namespace Jvm.Pilot.@@N@@
open Jvm Jvm.ClassFile Sem Op Lib Jvm.Free Jvm.Stand Jvm.Pilot.@@N@@.Jvm.D
/-! MADE BY PROGRAM (witnessworld.py) out of the Statement's table words and the real class files: 20 classes; the members and pool entries that the words name. The judged class is class 1, her method 1. -/
namespace start1
open Jvm.ClassFile
def u (s : String) : CpInfo := .utf8 (stringToUtf16 s)
/-- a pool by its gaps: so many unusable entries, then the entry; so many at the end -/
def gap : Nat → List CpInfo → List CpInfo
  | 0, r => r
  | n + 1, r => .unusable :: gap n r
def poolList (es : List (Nat × CpInfo)) (last : Nat) : List CpInfo := es.foldr (fun e r => gap e.1 (e.2 :: r)) (gap last [])
def pool (es : List (Nat × CpInfo)) (last : Nat) : Array CpInfo := ⟨poolList es last⟩
def fileOf (pool : Array CpInfo) (this : Nat) (attrs : Array Attribute := #[]) (ms : Array MethodInfo := #[]) (fl : Nat := 33) (sup : Nat := 0) (ifs : Array Nat := #[]) (fds : Array FieldInfo := #[]) : ClassFile where
  minorVersion := 0
  majorVersion := 65
  constantPool := pool
  accessFlags := fl
  thisClass := this
  superClass := sup
  interfaces := ifs
  fields := fds
  methods := ms
  attributes := attrs
def plain (name : String) (sup : Option ClassId) : Class where
  name := name
  kind := .ordinary
  loader := none
  accessFlags := 33
  super := sup
  interfaces := #[]
  cf := none
  fields := #[]
  methods := #[]
  instanceTypes := #[]
  staticTypes := #[]
  resolved := #[]
  callSites := []
  init := .initialized
  statics := none
  mirror := none

def pool0 : Array CpInfo := pool [(5, u "<init>"), (0, u "()V"), (1, .class_ 10), (1, u "java/lang/Object")] 113

def k0c0 : Code := { maxStack := 0, maxLocals := 1, code := object_method_1_code, exceptionTable := #[], attributes := #[] }
def k0m0 : Method := { name := "<init>", desc := "()V", sig := { parameters := [], returnType := none }, accessFlags := 1, code := some k0c0 }
/-- java/lang/Object -/
def k0 : Class := { plain "java/lang/Object" none with
  accessFlags := 33
  interfaces := #[]
  cf := some (fileOf pool0 8 #[] #[{ accessFlags := 1, nameIndex := 5, descriptorIndex := 6, attributes := #[] }] 33 0 #[] #[])
  fields := #[]
  methods := #[k0m0]
  instanceTypes := #[]
  staticTypes := #[]
  resolved := Array.replicate 124 none
  statics := none }

def pool1 : Array CpInfo := pool [(2, .class_ 4), (1, u "java/lang/Object"), (0, u "<init>"), (0, u "()V"), (0, .methodref 8 9), (0, .class_ 10), (0, .nameAndType 11 12), (0, u "com/example/wireform/wireform/Hex"), (0, u "format"), (0, u "([B)Ljava/lang/String;"), (0, .methodref 14 15), (0, .class_ 16), (0, .nameAndType 17 18), (0, u "java/lang/String"), (0, u "length"), (0, u "()I"), (0, .methodref 20 21), (0, .class_ 22), (0, .nameAndType 23 24), (0, u "com/example/wireform/wireform/HexFormatPinLaw"), (0, u "pair"), (0, u "(Ljava/lang/String;IB)Z"), (0, .methodref 14 26), (0, .nameAndType 27 28), (0, u "charAt"), (0, u "(I)C"), (0, .methodref 20 30), (0, .nameAndType 31 28), (0, u "digit"), (2, u "law"), (0, u "(IIII)Z")] 5

def k1m0 : Method := { name := "<init>", desc := "()V", sig := { parameters := [], returnType := none }, accessFlags := 1, code := none }
def k1c1 : Code := { maxStack := 4, maxLocals := 11, code := code, exceptionTable := #[], attributes := #[] }
def k1m1 : Method := { name := "law", desc := "(IIII)Z", sig := { parameters := [.int, .int, .int, .int], returnType := some .boolean }, accessFlags := 9, code := some k1c1 }
def k1c2 : Code := { maxStack := 3, maxLocals := 4, code := method_3_code, exceptionTable := #[], attributes := #[] }
def k1m2 : Method := { name := "pair", desc := "(Ljava/lang/String;IB)Z", sig := { parameters := [(.object "java/lang/String"), .int, .byte], returnType := some .boolean }, accessFlags := 10, code := some k1c2 }
def k1c3 : Code := { maxStack := 3, maxLocals := 1, code := method_4_code, exceptionTable := #[], attributes := #[] }
def k1m3 : Method := { name := "digit", desc := "(I)C", sig := { parameters := [.int], returnType := some .char }, accessFlags := 10, code := some k1c3 }
/-- com/example/wireform/wireform/HexFormatPinLaw -/
def k1 : Class := { plain "com/example/wireform/wireform/HexFormatPinLaw" (some 0) with
  accessFlags := 49
  interfaces := #[]
  cf := some (fileOf pool1 20 #[] #[{ accessFlags := 1, nameIndex := 5, descriptorIndex := 6, attributes := #[] }, { accessFlags := 9, nameIndex := 34, descriptorIndex := 35, attributes := #[] }, { accessFlags := 10, nameIndex := 23, descriptorIndex := 24, attributes := #[] }, { accessFlags := 10, nameIndex := 31, descriptorIndex := 28, attributes := #[] }] 49 2 #[] #[])
  fields := #[]
  methods := #[k1m0, k1m1, k1m2, k1m3]
  instanceTypes := #[]
  staticTypes := #[]
  resolved := Array.replicate 41 none
  statics := none }

def pool2 : Array CpInfo := pool [(2, .class_ 4), (1, u "java/lang/Object"), (0, u "<init>"), (0, u "()V"), (0, .fieldref 8 9), (0, .class_ 10), (0, .nameAndType 11 12), (0, u "com/example/wireform/wireform/Hex"), (0, u "DIGITS"), (0, u "[C"), (0, .class_ 14), (0, u "java/lang/String"), (0, .methodref 13 16), (0, .nameAndType 5 17), (0, u "([C)V"), (32, u "format"), (0, u "([B)Ljava/lang/String;")] 26

def k2m0 : Method := { name := "<init>", desc := "()V", sig := { parameters := [], returnType := none }, accessFlags := 2, code := none }
def k2c1 : Code := { maxStack := 5, maxLocals := 3, code := prog_2_method_2_code, exceptionTable := #[], attributes := #[] }
def k2m1 : Method := { name := "format", desc := "([B)Ljava/lang/String;", sig := { parameters := [(.array .byte)], returnType := some (.object "java/lang/String") }, accessFlags := 8, code := some k2c1 }
/-- com/example/wireform/wireform/Hex -/
def k2 : Class := { plain "com/example/wireform/wireform/Hex" (some 0) with
  accessFlags := 48
  interfaces := #[]
  cf := some (fileOf pool2 8 #[] #[{ accessFlags := 2, nameIndex := 5, descriptorIndex := 6, attributes := #[] }, { accessFlags := 8, nameIndex := 50, descriptorIndex := 51, attributes := #[] }] 48 2 #[] #[{ accessFlags := 26, nameIndex := 11, descriptorIndex := 12, attributes := #[] }])
  fields := #[{ name := "DIGITS", type := (.array .char), accessFlags := 26, slot := 0, constantValue := 0 }]
  methods := #[k2m0, k2m1]
  instanceTypes := #[]
  staticTypes := #[(.array .char)]
  resolved := Array.replicate 78 none
  statics := some 0 }

def pool3 : Array CpInfo := pool [(1, .class_ 2), (0, u "java/io/Serializable"), (0, .class_ 4), (0, u "java/lang/Object")] 2

/-- java/io/Serializable -/
def k3 : Class := { plain "java/io/Serializable" (some 0) with
  accessFlags := 1537
  interfaces := #[]
  cf := some (fileOf pool3 1 #[] #[] 1537 3 #[] #[])
  fields := #[]
  methods := #[]
  instanceTypes := #[]
  staticTypes := #[]
  resolved := Array.replicate 7 none
  statics := none }

def pool4 : Array CpInfo := pool [(1, .class_ 2), (0, u "java/lang/Comparable"), (0, .class_ 4), (0, u "java/lang/Object")] 7

/-- java/lang/Comparable -/
def k4 : Class := { plain "java/lang/Comparable" (some 0) with
  accessFlags := 1537
  interfaces := #[]
  cf := some (fileOf pool4 1 #[] #[] 1537 3 #[] #[])
  fields := #[]
  methods := #[]
  instanceTypes := #[]
  staticTypes := #[]
  resolved := Array.replicate 12 none
  statics := none }

def pool5 : Array CpInfo := pool [(2, .class_ 4), (1, u "java/lang/CharSequence"), (42, .class_ 48), (0, u "java/lang/CharSequence$1CodePointIterator"), (10, .class_ 60), (0, u "java/lang/CharSequence$1CharIterator"), (5, .class_ 67), (0, u "java/lang/Object")] 63

/-- java/lang/CharSequence -/
def k5 : Class := { plain "java/lang/CharSequence" (some 0) with
  accessFlags := 1537
  interfaces := #[]
  cf := some (fileOf pool5 2 #[.nestMembers #[47, 59]] #[] 1537 66 #[] #[])
  fields := #[]
  methods := #[]
  instanceTypes := #[]
  staticTypes := #[]
  resolved := Array.replicate 131 none
  statics := none }

def pool6 : Array CpInfo := pool [(1, .class_ 2), (0, u "java/lang/constant/Constable"), (0, .class_ 4), (0, u "java/lang/Object")] 6

/-- java/lang/constant/Constable -/
def k6 : Class := { plain "java/lang/constant/Constable" (some 0) with
  accessFlags := 1537
  interfaces := #[]
  cf := some (fileOf pool6 1 #[] #[] 1537 3 #[] #[])
  fields := #[]
  methods := #[]
  instanceTypes := #[]
  staticTypes := #[]
  resolved := Array.replicate 11 none
  statics := none }

def pool7 : Array CpInfo := pool [(1, .class_ 2), (0, u "java/lang/constant/ConstantDesc"), (0, .class_ 4), (0, u "java/lang/Object")] 32

/-- java/lang/constant/ConstantDesc -/
def k7 : Class := { plain "java/lang/constant/ConstantDesc" (some 0) with
  accessFlags := 1537
  interfaces := #[]
  cf := some (fileOf pool7 1 #[] #[] 1537 3 #[] #[])
  fields := #[]
  methods := #[]
  instanceTypes := #[]
  staticTypes := #[]
  resolved := Array.replicate 37 none
  statics := none }

def pool8 : Array CpInfo := pool [(1, .methodref 2 3), (0, .class_ 4), (0, .nameAndType 5 6), (0, u "java/lang/Object"), (0, u "<init>"), (0, u "()V"), (0, .string 8), (0, u ""), (0, .fieldref 10 11), (0, .class_ 12), (0, .nameAndType 13 14), (0, u "java/lang/String"), (0, u "value"), (0, u "[B"), (0, .fieldref 10 16), (0, .nameAndType 17 18), (0, u "coder"), (0, u "B"), (2, u "hash"), (0, u "I"), (2, u "hashIsZero"), (0, u "Z"), (0, .methodref 10 28), (0, .nameAndType 5 29), (0, u "([CIILjava/lang/Void;)V"), (8, .fieldref 10 39), (0, .nameAndType 40 26), (0, u "COMPACT_STRINGS"), (1, .class_ 44), (1, u "java/lang/StringUTF16"), (0, u "compress"), (1, .methodref 42 48), (0, .nameAndType 49 50), (0, u "coderFromArrayLen"), (0, u "([BI)B"), (56, .class_ 109), (1, u "java/lang/StringLatin1"), (32, u "()Z"), (34, .methodref 42 178), (0, .nameAndType 45 179), (0, u "([CII)[B"), (154, u "()I"), (0, .methodref 10 336), (0, .nameAndType 17 337), (0, u "()B"), (25, u "([BI)C"), (27, u "(II)V"), (35, u "(I)C"), (64, .methodref 10 493), (0, .nameAndType 494 142), (0, u "isLatin1"), (0, .methodref 107 496), (0, .nameAndType 497 363), (0, u "charAt"), (3, u "checkIndex"), (5, u "length"), (67, .class_ 576), (0, u "java/lang/CharSequence"), (22, u "CASE_INSENSITIVE_ORDER"), (0, u "Ljava/util/Comparator;"), (409, u "([C)V"), (42, .fieldref 1054 1055), (0, .class_ 1056), (0, .nameAndType 1057 1058), (0, u "jdk/internal/util/Preconditions"), (0, u "SIOOBE_FORMATTER"), (0, u "Ljava/util/function/BiFunction;"), (0, .methodref 1054 1060), (0, .nameAndType 501 1061), (0, u "(IILjava/util/function/BiFunction;)I"), (39, u "serialPersistentFields"), (0, u "[Ljava/io/ObjectStreamField;"), (0, .class_ 1104), (0, u "java/lang/String$CaseInsensitiveComparator"), (1, .class_ 1107), (0, u "java/io/Serializable"), (0, .class_ 1109), (0, u "java/lang/Comparable"), (0, .class_ 1111), (0, u "java/lang/constant/Constable"), (0, .class_ 1113), (0, u "java/lang/constant/ConstantDesc"), (2, u "serialVersionUID"), (0, u "J"), (3, u "REPL"), (0, u "C"), (2, u "LATIN1"), (1, u "UTF16")] 323

def k8m0 : Method := { name := "<init>", desc := "()V", sig := { parameters := [], returnType := none }, accessFlags := 1, code := none }
def k8c1 : Code := { maxStack := 5, maxLocals := 2, code := jdk_42_method_3_code, exceptionTable := #[], attributes := #[] }
def k8m1 : Method := { name := "<init>", desc := "([C)V", sig := { parameters := [(.array .char)], returnType := none }, accessFlags := 1, code := some k8c1 }
def k8c2 : Code := { maxStack := 2, maxLocals := 1, code := jdk_42_method_54_code, exceptionTable := #[], attributes := #[] }
def k8m2 : Method := { name := "length", desc := "()I", sig := { parameters := [], returnType := some .int }, accessFlags := 1, code := some k8c2 }
def k8c3 : Code := { maxStack := 2, maxLocals := 2, code := jdk_42_method_56_code, exceptionTable := #[], attributes := #[] }
def k8m3 : Method := { name := "charAt", desc := "(I)C", sig := { parameters := [.int], returnType := some .char }, accessFlags := 1, code := some k8c3 }
def k8c4 : Code := { maxStack := 4, maxLocals := 6, code := jdk_42_method_149_code, exceptionTable := #[], attributes := #[] }
def k8m4 : Method := { name := "<init>", desc := "([CIILjava/lang/Void;)V", sig := { parameters := [(.array .char), .int, .int, (.object "java/lang/Void")], returnType := none }, accessFlags := 2, code := some k8c4 }
def k8c5 : Code := { maxStack := 1, maxLocals := 1, code := jdk_42_method_152_code, exceptionTable := #[], attributes := #[] }
def k8m5 : Method := { name := "coder", desc := "()B", sig := { parameters := [], returnType := some .byte }, accessFlags := 0, code := some k8c5 }
def k8c6 : Code := { maxStack := 1, maxLocals := 1, code := jdk_42_method_154_code, exceptionTable := #[], attributes := #[] }
def k8m6 : Method := { name := "isLatin1", desc := "()Z", sig := { parameters := [], returnType := some .boolean }, accessFlags := 0, code := some k8c6 }
def k8c7 : Code := { maxStack := 3, maxLocals := 2, code := jdk_42_method_155_code, exceptionTable := #[], attributes := #[] }
def k8m7 : Method := { name := "checkIndex", desc := "(II)V", sig := { parameters := [.int, .int], returnType := none }, accessFlags := 8, code := some k8c7 }
/-- java/lang/String -/
def k8 : Class := { plain "java/lang/String" (some 0) with
  accessFlags := 49
  interfaces := #[3, 4, 5, 6, 7]
  cf := some (fileOf pool8 10 #[.nestMembers #[1103]] #[{ accessFlags := 1, nameIndex := 5, descriptorIndex := 6, attributes := #[] }, { accessFlags := 1, nameIndex := 5, descriptorIndex := 1010, attributes := #[] }, { accessFlags := 1, nameIndex := 507, descriptorIndex := 334, attributes := #[] }, { accessFlags := 1, nameIndex := 497, descriptorIndex := 427, attributes := #[] }, { accessFlags := 2, nameIndex := 5, descriptorIndex := 29, attributes := #[] }, { accessFlags := 0, nameIndex := 17, descriptorIndex := 337, attributes := #[] }, { accessFlags := 0, nameIndex := 494, descriptorIndex := 142, attributes := #[] }, { accessFlags := 8, nameIndex := 501, descriptorIndex := 391, attributes := #[] }] 49 2 #[1106, 1108, 575, 1110, 1112] #[{ accessFlags := 18, nameIndex := 13, descriptorIndex := 14, attributes := #[] }, { accessFlags := 18, nameIndex := 17, descriptorIndex := 18, attributes := #[] }, { accessFlags := 2, nameIndex := 21, descriptorIndex := 22, attributes := #[] }, { accessFlags := 2, nameIndex := 25, descriptorIndex := 26, attributes := #[] }, { accessFlags := 26, nameIndex := 1116, descriptorIndex := 1117, attributes := #[] }, { accessFlags := 24, nameIndex := 40, descriptorIndex := 26, attributes := #[] }, { accessFlags := 26, nameIndex := 1101, descriptorIndex := 1102, attributes := #[] }, { accessFlags := 26, nameIndex := 1121, descriptorIndex := 1122, attributes := #[] }, { accessFlags := 25, nameIndex := 599, descriptorIndex := 600, attributes := #[] }, { accessFlags := 24, nameIndex := 1125, descriptorIndex := 18, attributes := #[] }, { accessFlags := 24, nameIndex := 1127, descriptorIndex := 18, attributes := #[] }])
  fields := #[{ name := "value", type := (.array .byte), accessFlags := 18, slot := 0, constantValue := 0 }, { name := "coder", type := .byte, accessFlags := 18, slot := 1, constantValue := 0 }, { name := "hash", type := .int, accessFlags := 2, slot := 2, constantValue := 0 }, { name := "hashIsZero", type := .boolean, accessFlags := 2, slot := 3, constantValue := 0 }, { name := "serialVersionUID", type := .long, accessFlags := 26, slot := 0, constantValue := 0 }, { name := "COMPACT_STRINGS", type := .boolean, accessFlags := 24, slot := 1, constantValue := 0 }, { name := "serialPersistentFields", type := (.array (.object "java/io/ObjectStreamField")), accessFlags := 26, slot := 2, constantValue := 0 }, { name := "REPL", type := .char, accessFlags := 26, slot := 3, constantValue := 0 }, { name := "CASE_INSENSITIVE_ORDER", type := (.object "java/util/Comparator"), accessFlags := 25, slot := 4, constantValue := 0 }, { name := "LATIN1", type := .byte, accessFlags := 24, slot := 5, constantValue := 0 }, { name := "UTF16", type := .byte, accessFlags := 24, slot := 6, constantValue := 0 }]
  methods := #[k8m0, k8m1, k8m2, k8m3, k8m4, k8m5, k8m6, k8m7]
  instanceTypes := #[(.array .byte), .byte, .int, .boolean]
  staticTypes := #[.long, .boolean, (.array (.object "java/io/ObjectStreamField")), .char, (.object "java/util/Comparator"), .byte, .byte]
  resolved := Array.replicate 1451 none
  statics := some 1 }

def pool9 : Array CpInfo := pool [(6, .class_ 8), (1, u "java/lang/Object"), (0, u "<init>"), (0, u "()V"), (1, .class_ 14), (1, u "java/lang/StringUTF16"), (31, u "$assertionsDisabled"), (0, u "Z"), (13, u "HI_BYTE_SHIFT"), (0, u "I"), (2, u "LO_BYTE_SHIFT"), (49, .methodref 12 116), (0, .nameAndType 117 118), (0, u "compress"), (0, u "([CI[BII)I"), (3, u "([CII)[B"), (138, u "coderFromArrayLen"), (0, u "([BI)B"), (106, .class_ 371), (1, u "java/lang/StringUTF16$LinesSpliterator"), (58, u "MAX_LENGTH"), (196, .class_ 628), (0, u "java/lang/StringUTF16$CodePointsSpliterator"), (0, .class_ 630), (0, u "java/lang/StringUTF16$CharsSpliterator")] 4

def k9m0 : Method := { name := "<init>", desc := "()V", sig := { parameters := [], returnType := none }, accessFlags := 0, code := none }
def k9c1 : Code := { maxStack := 2, maxLocals := 2, code := jdk_52_method_15_code, exceptionTable := #[], attributes := #[] }
def k9m1 : Method := { name := "coderFromArrayLen", desc := "([BI)B", sig := { parameters := [(.array .byte), .int], returnType := some .byte }, accessFlags := 8, code := some k9c1 }
def k9c2 : Code := { maxStack := 5, maxLocals := 6, code := jdk_52_method_16_code, exceptionTable := #[], attributes := #[] }
def k9m2 : Method := { name := "compress", desc := "([CII)[B", sig := { parameters := [(.array .char), .int, .int], returnType := some (.array .byte) }, accessFlags := 9, code := some k9c2 }
def k9c3 : Code := { maxStack := 3, maxLocals := 7, code := jdk_52_method_21_code, exceptionTable := #[], attributes := #[] }
def k9m3 : Method := { name := "compress", desc := "([CI[BII)I", sig := { parameters := [(.array .char), .int, (.array .byte), .int, .int], returnType := some .int }, accessFlags := 9, code := some k9c3 }
/-- java/lang/StringUTF16 -/
def k9 : Class := { plain "java/lang/StringUTF16" (some 0) with
  accessFlags := 48
  interfaces := #[]
  cf := some (fileOf pool9 12 #[.nestMembers #[627, 629, 369]] #[{ accessFlags := 0, nameIndex := 9, descriptorIndex := 10, attributes := #[] }, { accessFlags := 8, nameIndex := 261, descriptorIndex := 262, attributes := #[] }, { accessFlags := 9, nameIndex := 117, descriptorIndex := 122, attributes := #[] }, { accessFlags := 9, nameIndex := 117, descriptorIndex := 118, attributes := #[] }] 48 6 #[] #[{ accessFlags := 26, nameIndex := 61, descriptorIndex := 62, attributes := #[] }, { accessFlags := 26, nameIndex := 65, descriptorIndex := 62, attributes := #[] }, { accessFlags := 24, nameIndex := 430, descriptorIndex := 62, attributes := #[] }, { accessFlags := 4120, nameIndex := 46, descriptorIndex := 47, attributes := #[] }])
  fields := #[{ name := "HI_BYTE_SHIFT", type := .int, accessFlags := 26, slot := 0, constantValue := 0 }, { name := "LO_BYTE_SHIFT", type := .int, accessFlags := 26, slot := 1, constantValue := 0 }, { name := "MAX_LENGTH", type := .int, accessFlags := 24, slot := 2, constantValue := 0 }, { name := "$assertionsDisabled", type := .boolean, accessFlags := 4120, slot := 3, constantValue := 0 }]
  methods := #[k9m0, k9m1, k9m2, k9m3]
  instanceTypes := #[]
  staticTypes := #[.int, .int, .int, .boolean]
  resolved := Array.replicate 635 none
  statics := none }

def pool10 : Array CpInfo := pool [(1, .class_ 2), (0, u "java/lang/String"), (1, .class_ 6), (1, u "java/lang/Object"), (0, u "<init>"), (0, u "()V"), (0, .methodref 1 10), (0, .nameAndType 11 12), (0, u "checkIndex"), (0, u "(II)V"), (1, .class_ 16), (1, u "java/lang/StringLatin1"), (36, u "([BI)C"), (67, u "$assertionsDisabled"), (0, u "Z"), (98, .class_ 223), (1, u "java/lang/StringLatin1$LinesSpliterator"), (28, u "charAt"), (137, .class_ 391), (0, u "java/lang/StringLatin1$CharsSpliterator")] 3

def k10m0 : Method := { name := "<init>", desc := "()V", sig := { parameters := [], returnType := none }, accessFlags := 0, code := none }
def k10c1 : Code := { maxStack := 2, maxLocals := 2, code := jdk_43_method_2_code, exceptionTable := #[], attributes := #[] }
def k10m1 : Method := { name := "charAt", desc := "([BI)C", sig := { parameters := [(.array .byte), .int], returnType := some .char }, accessFlags := 9, code := some k10c1 }
/-- java/lang/StringLatin1 -/
def k10 : Class := { plain "java/lang/StringLatin1" (some 0) with
  accessFlags := 48
  interfaces := #[]
  cf := some (fileOf pool10 14 #[.nestMembers #[390, 221]] #[{ accessFlags := 0, nameIndex := 7, descriptorIndex := 8, attributes := #[] }, { accessFlags := 9, nameIndex := 252, descriptorIndex := 53, attributes := #[] }] 48 4 #[] #[{ accessFlags := 4120, nameIndex := 121, descriptorIndex := 122, attributes := #[] }])
  fields := #[{ name := "$assertionsDisabled", type := .boolean, accessFlags := 4120, slot := 0, constantValue := 0 }]
  methods := #[k10m0, k10m1]
  instanceTypes := #[]
  staticTypes := #[.boolean]
  resolved := Array.replicate 395 none
  statics := none }

def pool11 : Array CpInfo := pool [(2, .class_ 4), (1, u "java/lang/Object"), (0, u "<init>"), (0, u "()V"), (17, .class_ 26), (1, u "jdk/internal/util/Preconditions"), (6, u "checkIndex"), (21, .class_ 56), (0, u "jdk/internal/util/Preconditions$4"), (57, .class_ 115), (0, u "jdk/internal/util/Preconditions$1"), (7, u "SIOOBE_FORMATTER"), (0, u "Ljava/util/function/BiFunction;"), (0, .class_ 126), (0, u "jdk/internal/util/Preconditions$2"), (3, u "AIOOBE_FORMATTER"), (0, .class_ 132), (0, u "jdk/internal/util/Preconditions$3"), (3, u "IOOBE_FORMATTER"), (41, u "(IILjava/util/function/BiFunction;)I")] 15

def k11m0 : Method := { name := "<init>", desc := "()V", sig := { parameters := [], returnType := none }, accessFlags := 1, code := none }
def k11c1 : Code := { maxStack := 3, maxLocals := 3, code := jdk_41_method_11_code, exceptionTable := #[], attributes := #[] }
def k11m1 : Method := { name := "checkIndex", desc := "(IILjava/util/function/BiFunction;)I", sig := { parameters := [.int, .int, (.object "java/util/function/BiFunction")], returnType := some .int }, accessFlags := 9, code := some k11c1 }
/-- jdk/internal/util/Preconditions -/
def k11 : Class := { plain "jdk/internal/util/Preconditions" (some 0) with
  accessFlags := 33
  interfaces := #[]
  cf := some (fileOf pool11 24 #[.nestMembers #[55, 131, 125, 114]] #[{ accessFlags := 1, nameIndex := 5, descriptorIndex := 6, attributes := #[] }, { accessFlags := 9, nameIndex := 33, descriptorIndex := 178, attributes := #[] }] 33 2 #[] #[{ accessFlags := 25, nameIndex := 123, descriptorIndex := 124, attributes := #[] }, { accessFlags := 25, nameIndex := 130, descriptorIndex := 124, attributes := #[] }, { accessFlags := 25, nameIndex := 136, descriptorIndex := 124, attributes := #[] }])
  fields := #[{ name := "SIOOBE_FORMATTER", type := (.object "java/util/function/BiFunction"), accessFlags := 25, slot := 0, constantValue := 0 }, { name := "AIOOBE_FORMATTER", type := (.object "java/util/function/BiFunction"), accessFlags := 25, slot := 1, constantValue := 0 }, { name := "IOOBE_FORMATTER", type := (.object "java/util/function/BiFunction"), accessFlags := 25, slot := 2, constantValue := 0 }]
  methods := #[k11m0, k11m1]
  instanceTypes := #[]
  staticTypes := #[(.object "java/util/function/BiFunction"), (.object "java/util/function/BiFunction"), (.object "java/util/function/BiFunction")]
  resolved := Array.replicate 194 none
  statics := some 2 }

def pool12 : Array CpInfo := pool [(9, u "<init>"), (6, .class_ 18), (1, u "java/lang/Object"), (0, u "()V"), (1, .class_ 23), (1, u "jdk/internal/util/ArraysSupport"), (0, u "LOG2_ARRAY_LONG_INDEX_SCALE"), (0, u "I"), (2, u "U"), (0, u "Ljdk/internal/misc/Unsafe;"), (8, u "BIG_ENDIAN"), (0, u "Z"), (8, u "LOG2_BYTE_BIT_SIZE"), (4, u "LOG2_ARRAY_INT_INDEX_SCALE"), (54, u "JLA"), (0, u "Ljdk/internal/access/JavaLangAccess;"), (11, u "LOG2_ARRAY_BOOLEAN_INDEX_SCALE"), (9, u "LOG2_ARRAY_BYTE_INDEX_SCALE"), (5, u "LOG2_ARRAY_CHAR_INDEX_SCALE"), (5, u "LOG2_ARRAY_SHORT_INDEX_SCALE"), (18, u "LOG2_ARRAY_FLOAT_INDEX_SCALE"), (24, u "LOG2_ARRAY_DOUBLE_INDEX_SCALE"), (89, u "T_BOOLEAN"), (2, u "T_CHAR"), (1, u "T_FLOAT"), (1, u "T_DOUBLE"), (1, u "T_BYTE"), (1, u "T_SHORT"), (1, u "T_INT"), (1, u "T_LONG"), (1, u "SOFT_MAX_ARRAY_LENGTH")] 83

def k12m0 : Method := { name := "<init>", desc := "()V", sig := { parameters := [], returnType := none }, accessFlags := 2, code := none }
/-- jdk/internal/util/ArraysSupport -/
def k12 : Class := { plain "jdk/internal/util/ArraysSupport" (some 0) with
  accessFlags := 33
  interfaces := #[]
  cf := some (fileOf pool12 21 #[] #[{ accessFlags := 2, nameIndex := 9, descriptorIndex := 19, attributes := #[] }] 33 16 #[] #[{ accessFlags := 24, nameIndex := 28, descriptorIndex := 29, attributes := #[] }, { accessFlags := 26, nameIndex := 38, descriptorIndex := 39, attributes := #[] }, { accessFlags := 25, nameIndex := 121, descriptorIndex := 25, attributes := #[] }, { accessFlags := 25, nameIndex := 131, descriptorIndex := 25, attributes := #[] }, { accessFlags := 25, nameIndex := 137, descriptorIndex := 25, attributes := #[] }, { accessFlags := 25, nameIndex := 143, descriptorIndex := 25, attributes := #[] }, { accessFlags := 25, nameIndex := 53, descriptorIndex := 25, attributes := #[] }, { accessFlags := 25, nameIndex := 24, descriptorIndex := 25, attributes := #[] }, { accessFlags := 25, nameIndex := 162, descriptorIndex := 25, attributes := #[] }, { accessFlags := 25, nameIndex := 187, descriptorIndex := 25, attributes := #[] }, { accessFlags := 26, nameIndex := 48, descriptorIndex := 25, attributes := #[] }, { accessFlags := 25, nameIndex := 277, descriptorIndex := 25, attributes := #[] }, { accessFlags := 25, nameIndex := 280, descriptorIndex := 25, attributes := #[] }, { accessFlags := 25, nameIndex := 282, descriptorIndex := 25, attributes := #[] }, { accessFlags := 25, nameIndex := 284, descriptorIndex := 25, attributes := #[] }, { accessFlags := 25, nameIndex := 286, descriptorIndex := 25, attributes := #[] }, { accessFlags := 25, nameIndex := 288, descriptorIndex := 25, attributes := #[] }, { accessFlags := 25, nameIndex := 290, descriptorIndex := 25, attributes := #[] }, { accessFlags := 25, nameIndex := 292, descriptorIndex := 25, attributes := #[] }, { accessFlags := 26, nameIndex := 108, descriptorIndex := 109, attributes := #[] }, { accessFlags := 25, nameIndex := 294, descriptorIndex := 25, attributes := #[] }])
  fields := #[{ name := "U", type := (.object "jdk/internal/misc/Unsafe"), accessFlags := 24, slot := 0, constantValue := 0 }, { name := "BIG_ENDIAN", type := .boolean, accessFlags := 26, slot := 1, constantValue := 0 }, { name := "LOG2_ARRAY_BOOLEAN_INDEX_SCALE", type := .int, accessFlags := 25, slot := 2, constantValue := 0 }, { name := "LOG2_ARRAY_BYTE_INDEX_SCALE", type := .int, accessFlags := 25, slot := 3, constantValue := 0 }, { name := "LOG2_ARRAY_CHAR_INDEX_SCALE", type := .int, accessFlags := 25, slot := 4, constantValue := 0 }, { name := "LOG2_ARRAY_SHORT_INDEX_SCALE", type := .int, accessFlags := 25, slot := 5, constantValue := 0 }, { name := "LOG2_ARRAY_INT_INDEX_SCALE", type := .int, accessFlags := 25, slot := 6, constantValue := 0 }, { name := "LOG2_ARRAY_LONG_INDEX_SCALE", type := .int, accessFlags := 25, slot := 7, constantValue := 0 }, { name := "LOG2_ARRAY_FLOAT_INDEX_SCALE", type := .int, accessFlags := 25, slot := 8, constantValue := 0 }, { name := "LOG2_ARRAY_DOUBLE_INDEX_SCALE", type := .int, accessFlags := 25, slot := 9, constantValue := 0 }, { name := "LOG2_BYTE_BIT_SIZE", type := .int, accessFlags := 26, slot := 10, constantValue := 0 }, { name := "T_BOOLEAN", type := .int, accessFlags := 25, slot := 11, constantValue := 0 }, { name := "T_CHAR", type := .int, accessFlags := 25, slot := 12, constantValue := 0 }, { name := "T_FLOAT", type := .int, accessFlags := 25, slot := 13, constantValue := 0 }, { name := "T_DOUBLE", type := .int, accessFlags := 25, slot := 14, constantValue := 0 }, { name := "T_BYTE", type := .int, accessFlags := 25, slot := 15, constantValue := 0 }, { name := "T_SHORT", type := .int, accessFlags := 25, slot := 16, constantValue := 0 }, { name := "T_INT", type := .int, accessFlags := 25, slot := 17, constantValue := 0 }, { name := "T_LONG", type := .int, accessFlags := 25, slot := 18, constantValue := 0 }, { name := "JLA", type := (.object "jdk/internal/access/JavaLangAccess"), accessFlags := 26, slot := 19, constantValue := 0 }, { name := "SOFT_MAX_ARRAY_LENGTH", type := .int, accessFlags := 25, slot := 20, constantValue := 0 }]
  methods := #[k12m0]
  instanceTypes := #[]
  staticTypes := #[(.object "jdk/internal/misc/Unsafe"), .boolean, .int, .int, .int, .int, .int, .int, .int, .int, .int, .int, .int, .int, .int, .int, .int, .int, .int, (.object "jdk/internal/access/JavaLangAccess"), .int]
  resolved := Array.replicate 378 none
  statics := none }

def pool13 : Array CpInfo := pool [(1, u "java/lang/Cloneable"), (0, .class_ 1), (0, u "java/lang/Object"), (0, .class_ 3)] 3

/-- java/lang/Cloneable -/
def k13 : Class := { plain "java/lang/Cloneable" (some 0) with
  accessFlags := 1537
  interfaces := #[]
  cf := some (fileOf pool13 2 #[] #[] 1537 4 #[] #[])
  fields := #[]
  methods := #[]
  instanceTypes := #[]
  staticTypes := #[]
  resolved := Array.replicate 8 none
  statics := none }

/-- the primitive byte -/
def k14 : Class := { plain "byte" none with kind := .primitive 'B', accessFlags := 0x411 }
/-- [B -/
def k15 : Class := { plain "[B" (some 0) with kind := .array 14 .byte, interfaces := #[13, 3], accessFlags := 1041 }

/-- the primitive char -/
def k16 : Class := { plain "char" none with kind := .primitive 'C', accessFlags := 0x411 }
/-- [C -/
def k17 : Class := { plain "[C" (some 0) with kind := .array 16 .char, interfaces := #[13, 3], accessFlags := 1041 }

/-- the primitive int -/
def k18 : Class := { plain "int" none with kind := .primitive 'I', accessFlags := 0x411 }
/-- [I -/
def k19 : Class := { plain "[I" (some 0) with kind := .array 18 .int, interfaces := #[13, 3], accessFlags := 1041 }

def heap : Heap := #[{ cls := 2, slots := #[.ref 3], vm := .statics 2 },
  { cls := 8, slots := #[.long 0, .int 1, .null, .int 0, .null, .int 0, .int 0], vm := .statics 8 },
  { cls := 11, slots := #[.null, .null, .null], vm := .statics 11 },
  { cls := 17, slots := #[.int 48, .int 49, .int 50, .int 51, .int 52, .int 53, .int 54, .int 55, .int 56, .int 57, .int 97, .int 98, .int 99, .int 100, .int 101, .int 102], vm := .none }]
def classes : Array Class := #[k0, k1, k2, k3, k4, k5, k6, k7, k8, k9, k10, k11, k12, k13, k14, k15, k16, k17, k18, k19]
def interned : List (Array UInt16 × Addr) := []
def slotsUsed : Nat := 27
def theMethod : MethodId := ⟨1, 1⟩
def args0 : Array Value := #[.int 1, .int 1, .int 1, .int 1]
def aboutOver (below : List Frame) : State where
  vm := { classes := classes, interned := interned.toArray }
  heap := heap
  slotsUsed := slotsUsed
  threads := #[{ frames := .invoking theMethod args0 :: below }]
def below0 : List Frame := [.native { method := ⟨0, 0⟩, args := #[] }]
def about1 : State := aboutOver below0
def p0 : Program := .bare "" "" ""
def e0 : Env := launch0.env 0 0 0
theorem w_frames : about1.frames = Frame.invoking theMethod args0 :: below0 := rfl
set_option maxRecDepth 65536 in
theorem w_args : argsFit about1.vm theMethod args0 = true := by decide +kernel
set_option maxRecDepth 65536 in
theorem w_heap : heapFits about1 = true := by decide +kernel
set_option maxRecDepth 65536 in
theorem w_runnable : about1.curStatus? = some .runnable := by decide +kernel
set_option maxRecDepth 65536 in
theorem w_alone : about1.alone = true := by decide +kernel
set_option maxRecDepth 65536 in
theorem w_named : about1.methodNamed? x = some theMethod := by decide +kernel
set_option maxRecDepth 65536 in
theorem w_hears : about1.hears theMethod below0 = true := by decide +kernel
set_option maxRecDepth 65536 in
theorem w_ripe : about1.ripe theMethod args0 below0 = true := by decide +kernel
theorem w_running : about1.status = .running := rfl
set_option maxRecDepth 65536 in
theorem w_room : about1.hasRoom e0.platform room_1 = true :=
  launch0.hasRoom_least _ room_1 (by decide +kernel) (by decide +kernel) (by decide +kernel) (by decide +kernel) (by decide +kernel) (by decide +kernel)
theorem allAtoms_all (ts : List Jvm.Cond) (a : Array Jvm.Value) (st : Jvm.State) : (allAtoms ts).before a st = ts.all (fun c => c.before a st) := by
  induction ts with
  | nil => rfl
  | cons c t ih =>
    show (Jvm.Cond.and c (allAtoms t)).before a st = _
    rw [Jvm.Cond.before_and, ih, List.all_cons]
def words1 : List Jvm.Cond := Jvm.Cond.code x code maxLocals ret :: tables_1
/-- a 'code' word, met by the world's own term for the bytes: nothing is compared byte by byte -/
theorem code_word {y : MethodName} {bytes : ByteArray} {mx : Nat} {rt : Option FieldType} {a : Array Value} {s : State} {m : MethodId} {meth : Method} {c : Code} (h1 : s.methodNamed? y = some m) (h2 : s.vm.method? m = some meth) (h3 : meth.code = some c) (h4 : c.code = bytes)
    (h5 : (c.maxLocals == mx && c.exceptionTable.isEmpty && decide (c.maxStack ≤ mostOperands) && decide (meth.sig.returnType = rt) && !meth.locks && decide (parseMethodDescriptor y.desc = some meth.sig)) = true) : (Jvm.Cond.code y bytes mx rt).before a s = true := by
  simp only [Bool.and_eq_true, beq_iff_eq, Bool.not_eq_true', decide_eq_true_eq] at h5
  obtain ⟨⟨⟨⟨⟨g1, g2⟩, g3⟩, g4⟩, g5⟩, g6⟩ := h5
  simp [Cond.before, Cond.holds, Cond.value, h1, h2, h3, h4, g1, g2, g3, g4, g5, g6]
def isCode : Jvm.Cond → Bool
  | .code _ _ _ _ => true
  | _ => false
theorem all_split {L : List Jvm.Cond} {P : Jvm.Cond → Bool} (h1 : L.all (fun c => isCode c || P c) = true) (h2 : ∀ c ∈ L.filter isCode, P c = true) : L.all P = true := by
  refine List.all_eq_true.mpr fun c hc => ?_
  have h := List.all_eq_true.mp h1 c hc
  rcases Bool.eq_false_or_eq_true (isCode c) with hi | hi
  · exact h2 c (List.mem_filter.mpr ⟨hc, hi⟩)
  · simpa [hi] using h
set_option maxRecDepth 65536 in
theorem w_c0 : (Jvm.Cond.code x code maxLocals ret).before args0 about1 = true := code_word (m := ⟨1, 1⟩) (meth := k1m1) (c := k1c1) (by decide +kernel) rfl rfl rfl (by decide +kernel)
set_option maxRecDepth 65536 in
theorem w_c1 : (Jvm.Cond.code ({ cls := "com/example/wireform/wireform/Hex", name := "format", desc := "([B)Ljava/lang/String;" } : Jvm.MethodName) prog_2_method_2_code (3 : Nat) (Option.some (Jvm.ClassFile.FieldType.object "java/lang/String"))).before args0 about1 = true := code_word (m := ⟨2, 1⟩) (meth := k2m1) (c := k2c1) (by decide +kernel) rfl rfl rfl (by decide +kernel)
set_option maxRecDepth 65536 in
theorem w_c2 : (Jvm.Cond.code ({ cls := "java/lang/String", name := "<init>", desc := "([C)V" } : Jvm.MethodName) jdk_42_method_3_code (2 : Nat) (Option.none : Option Jvm.ClassFile.FieldType)).before args0 about1 = true := code_word (m := ⟨8, 1⟩) (meth := k8m1) (c := k8c1) (by decide +kernel) rfl rfl rfl (by decide +kernel)
set_option maxRecDepth 65536 in
theorem w_c3 : (Jvm.Cond.code ({ cls := "java/lang/String", name := "<init>", desc := "([CIILjava/lang/Void;)V" } : Jvm.MethodName) jdk_42_method_149_code (6 : Nat) (Option.none : Option Jvm.ClassFile.FieldType)).before args0 about1 = true := code_word (m := ⟨8, 4⟩) (meth := k8m4) (c := k8c4) (by decide +kernel) rfl rfl rfl (by decide +kernel)
set_option maxRecDepth 65536 in
theorem w_c4 : (Jvm.Cond.code ({ cls := "java/lang/Object", name := "<init>", desc := "()V" } : Jvm.MethodName) object_method_1_code (1 : Nat) (Option.none : Option Jvm.ClassFile.FieldType)).before args0 about1 = true := code_word (m := ⟨0, 0⟩) (meth := k0m0) (c := k0c0) (by decide +kernel) rfl rfl rfl (by decide +kernel)
set_option maxRecDepth 65536 in
theorem w_c5 : (Jvm.Cond.code ({ cls := "java/lang/StringUTF16", name := "compress", desc := "([CII)[B" } : Jvm.MethodName) jdk_52_method_16_code (6 : Nat) (Option.some (Jvm.ClassFile.FieldType.array Jvm.ClassFile.FieldType.byte))).before args0 about1 = true := code_word (m := ⟨9, 2⟩) (meth := k9m2) (c := k9c2) (by decide +kernel) rfl rfl rfl (by decide +kernel)
set_option maxRecDepth 65536 in
theorem w_c6 : (Jvm.Cond.code ({ cls := "java/lang/StringUTF16", name := "compress", desc := "([CI[BII)I" } : Jvm.MethodName) jdk_52_method_21_code (7 : Nat) (Option.some Jvm.ClassFile.FieldType.int)).before args0 about1 = true := code_word (m := ⟨9, 3⟩) (meth := k9m3) (c := k9c3) (by decide +kernel) rfl rfl rfl (by decide +kernel)
set_option maxRecDepth 65536 in
theorem w_c7 : (Jvm.Cond.code ({ cls := "java/lang/StringUTF16", name := "coderFromArrayLen", desc := "([BI)B" } : Jvm.MethodName) jdk_52_method_15_code (2 : Nat) (Option.some Jvm.ClassFile.FieldType.byte)).before args0 about1 = true := code_word (m := ⟨9, 1⟩) (meth := k9m1) (c := k9c1) (by decide +kernel) rfl rfl rfl (by decide +kernel)
set_option maxRecDepth 65536 in
theorem w_c8 : (Jvm.Cond.code ({ cls := "java/lang/String", name := "length", desc := "()I" } : Jvm.MethodName) jdk_42_method_54_code (1 : Nat) (Option.some Jvm.ClassFile.FieldType.int)).before args0 about1 = true := code_word (m := ⟨8, 2⟩) (meth := k8m2) (c := k8c2) (by decide +kernel) rfl rfl rfl (by decide +kernel)
set_option maxRecDepth 65536 in
theorem w_c9 : (Jvm.Cond.code ({ cls := "java/lang/String", name := "coder", desc := "()B" } : Jvm.MethodName) jdk_42_method_152_code (1 : Nat) (Option.some Jvm.ClassFile.FieldType.byte)).before args0 about1 = true := code_word (m := ⟨8, 5⟩) (meth := k8m5) (c := k8c5) (by decide +kernel) rfl rfl rfl (by decide +kernel)
set_option maxRecDepth 65536 in
theorem w_c10 : (Jvm.Cond.code ({ cls := "com/example/wireform/wireform/HexFormatPinLaw", name := "pair", desc := "(Ljava/lang/String;IB)Z" } : Jvm.MethodName) method_3_code (4 : Nat) (Option.some Jvm.ClassFile.FieldType.boolean)).before args0 about1 = true := code_word (m := ⟨1, 2⟩) (meth := k1m2) (c := k1c2) (by decide +kernel) rfl rfl rfl (by decide +kernel)
set_option maxRecDepth 65536 in
theorem w_c11 : (Jvm.Cond.code ({ cls := "java/lang/String", name := "charAt", desc := "(I)C" } : Jvm.MethodName) jdk_42_method_56_code (2 : Nat) (Option.some Jvm.ClassFile.FieldType.char)).before args0 about1 = true := code_word (m := ⟨8, 3⟩) (meth := k8m3) (c := k8c3) (by decide +kernel) rfl rfl rfl (by decide +kernel)
set_option maxRecDepth 65536 in
theorem w_c12 : (Jvm.Cond.code ({ cls := "java/lang/String", name := "isLatin1", desc := "()Z" } : Jvm.MethodName) jdk_42_method_154_code (1 : Nat) (Option.some Jvm.ClassFile.FieldType.boolean)).before args0 about1 = true := code_word (m := ⟨8, 6⟩) (meth := k8m6) (c := k8c6) (by decide +kernel) rfl rfl rfl (by decide +kernel)
set_option maxRecDepth 65536 in
theorem w_c13 : (Jvm.Cond.code ({ cls := "java/lang/StringLatin1", name := "charAt", desc := "([BI)C" } : Jvm.MethodName) jdk_43_method_2_code (2 : Nat) (Option.some Jvm.ClassFile.FieldType.char)).before args0 about1 = true := code_word (m := ⟨10, 1⟩) (meth := k10m1) (c := k10c1) (by decide +kernel) rfl rfl rfl (by decide +kernel)
set_option maxRecDepth 65536 in
theorem w_c14 : (Jvm.Cond.code ({ cls := "java/lang/String", name := "checkIndex", desc := "(II)V" } : Jvm.MethodName) jdk_42_method_155_code (2 : Nat) (Option.none : Option Jvm.ClassFile.FieldType)).before args0 about1 = true := code_word (m := ⟨8, 7⟩) (meth := k8m7) (c := k8c7) (by decide +kernel) rfl rfl rfl (by decide +kernel)
set_option maxRecDepth 65536 in
theorem w_c15 : (Jvm.Cond.code ({ cls := "jdk/internal/util/Preconditions", name := "checkIndex", desc := "(IILjava/util/function/BiFunction;)I" } : Jvm.MethodName) jdk_41_method_11_code (3 : Nat) (Option.some Jvm.ClassFile.FieldType.int)).before args0 about1 = true := code_word (m := ⟨11, 1⟩) (meth := k11m1) (c := k11c1) (by decide +kernel) rfl rfl rfl (by decide +kernel)
set_option maxRecDepth 65536 in
theorem w_c16 : (Jvm.Cond.code ({ cls := "com/example/wireform/wireform/HexFormatPinLaw", name := "digit", desc := "(I)C" } : Jvm.MethodName) method_4_code (1 : Nat) (Option.some Jvm.ClassFile.FieldType.char)).before args0 about1 = true := code_word (m := ⟨1, 3⟩) (meth := k1m3) (c := k1c3) (by decide +kernel) rfl rfl rfl (by decide +kernel)
def codes1 : List Jvm.Cond := [Jvm.Cond.code x code maxLocals ret, Jvm.Cond.code ({ cls := "com/example/wireform/wireform/Hex", name := "format", desc := "([B)Ljava/lang/String;" } : Jvm.MethodName) prog_2_method_2_code (3 : Nat) (Option.some (Jvm.ClassFile.FieldType.object "java/lang/String")), Jvm.Cond.code ({ cls := "java/lang/String", name := "<init>", desc := "([C)V" } : Jvm.MethodName) jdk_42_method_3_code (2 : Nat) (Option.none : Option Jvm.ClassFile.FieldType), Jvm.Cond.code ({ cls := "java/lang/String", name := "<init>", desc := "([CIILjava/lang/Void;)V" } : Jvm.MethodName) jdk_42_method_149_code (6 : Nat) (Option.none : Option Jvm.ClassFile.FieldType), Jvm.Cond.code ({ cls := "java/lang/Object", name := "<init>", desc := "()V" } : Jvm.MethodName) object_method_1_code (1 : Nat) (Option.none : Option Jvm.ClassFile.FieldType), Jvm.Cond.code ({ cls := "java/lang/StringUTF16", name := "compress", desc := "([CII)[B" } : Jvm.MethodName) jdk_52_method_16_code (6 : Nat) (Option.some (Jvm.ClassFile.FieldType.array Jvm.ClassFile.FieldType.byte)), Jvm.Cond.code ({ cls := "java/lang/StringUTF16", name := "compress", desc := "([CI[BII)I" } : Jvm.MethodName) jdk_52_method_21_code (7 : Nat) (Option.some Jvm.ClassFile.FieldType.int), Jvm.Cond.code ({ cls := "java/lang/StringUTF16", name := "coderFromArrayLen", desc := "([BI)B" } : Jvm.MethodName) jdk_52_method_15_code (2 : Nat) (Option.some Jvm.ClassFile.FieldType.byte), Jvm.Cond.code ({ cls := "java/lang/String", name := "length", desc := "()I" } : Jvm.MethodName) jdk_42_method_54_code (1 : Nat) (Option.some Jvm.ClassFile.FieldType.int), Jvm.Cond.code ({ cls := "java/lang/String", name := "coder", desc := "()B" } : Jvm.MethodName) jdk_42_method_152_code (1 : Nat) (Option.some Jvm.ClassFile.FieldType.byte), Jvm.Cond.code ({ cls := "com/example/wireform/wireform/HexFormatPinLaw", name := "pair", desc := "(Ljava/lang/String;IB)Z" } : Jvm.MethodName) method_3_code (4 : Nat) (Option.some Jvm.ClassFile.FieldType.boolean), Jvm.Cond.code ({ cls := "java/lang/String", name := "charAt", desc := "(I)C" } : Jvm.MethodName) jdk_42_method_56_code (2 : Nat) (Option.some Jvm.ClassFile.FieldType.char), Jvm.Cond.code ({ cls := "java/lang/String", name := "isLatin1", desc := "()Z" } : Jvm.MethodName) jdk_42_method_154_code (1 : Nat) (Option.some Jvm.ClassFile.FieldType.boolean), Jvm.Cond.code ({ cls := "java/lang/StringLatin1", name := "charAt", desc := "([BI)C" } : Jvm.MethodName) jdk_43_method_2_code (2 : Nat) (Option.some Jvm.ClassFile.FieldType.char), Jvm.Cond.code ({ cls := "java/lang/String", name := "checkIndex", desc := "(II)V" } : Jvm.MethodName) jdk_42_method_155_code (2 : Nat) (Option.none : Option Jvm.ClassFile.FieldType), Jvm.Cond.code ({ cls := "jdk/internal/util/Preconditions", name := "checkIndex", desc := "(IILjava/util/function/BiFunction;)I" } : Jvm.MethodName) jdk_41_method_11_code (3 : Nat) (Option.some Jvm.ClassFile.FieldType.int), Jvm.Cond.code ({ cls := "com/example/wireform/wireform/HexFormatPinLaw", name := "digit", desc := "(I)C" } : Jvm.MethodName) method_4_code (1 : Nat) (Option.some Jvm.ClassFile.FieldType.char)]
set_option maxRecDepth 65536 in
theorem codes_eq : words1.filter isCode = codes1 := rfl
theorem w_codes : ∀ c ∈ words1.filter isCode, c.before args0 about1 = true := by
  rw [codes_eq]
  intro c hc
  simp only [codes1, List.mem_cons, List.not_mem_nil, or_false] at hc
  rcases hc with rfl | rfl | rfl | rfl | rfl | rfl | rfl | rfl | rfl | rfl | rfl | rfl | rfl | rfl | rfl | rfl | rfl
  · exact w_c0
  · exact w_c1
  · exact w_c2
  · exact w_c3
  · exact w_c4
  · exact w_c5
  · exact w_c6
  · exact w_c7
  · exact w_c8
  · exact w_c9
  · exact w_c10
  · exact w_c11
  · exact w_c12
  · exact w_c13
  · exact w_c14
  · exact w_c15
  · exact w_c16
set_option maxRecDepth 65536 in
theorem w_t1 : (words1.take 24).all (fun c => isCode c || c.before args0 about1) = true := by decide +kernel
set_option maxRecDepth 65536 in
theorem w_t2 : ((words1.drop 24).take 24).all (fun c => isCode c || c.before args0 about1) = true := by decide +kernel
set_option maxRecDepth 65536 in
theorem w_t3 : (((words1.drop 24).drop 24).take 24).all (fun c => isCode c || c.before args0 about1) = true := by decide +kernel
set_option maxRecDepth 65536 in
theorem w_t4 : (((words1.drop 24).drop 24).drop 24).all (fun c => isCode c || c.before args0 about1) = true := by decide +kernel
theorem w_tables : (allAtoms (Jvm.Cond.code x code maxLocals ret :: tables_1)).before args0 about1 = true := by
  rw [allAtoms_all]
  show words1.all (fun c => c.before args0 about1) = true
  refine all_split ?_ w_codes
  rw [← List.take_append_drop 24 words1, List.all_append, w_t1, ← List.take_append_drop 24 (words1.drop 24), List.all_append, w_t2, ← List.take_append_drop 24 ((words1.drop 24).drop 24), List.all_append, w_t3, w_t4]
  rfl
set_option maxRecDepth 65536 in
theorem w_rest : rest_1_c.before args0 about1 = true := by decide +kernel
set_option maxRecDepth 65536 in
theorem w_case : (Jvm.Cond.and given_1 narrow_1).before args0 about1 = true := by decide +kernel
set_option maxRecDepth 65536 in
theorem w_consts : constsHeld consts_1 about1 := Jvm.Lit.constsHeldB_iff.mp (by decide +kernel)
theorem w_applies : (headSpec (Jvm.Cond.code x code maxLocals ret :: tables_1) room_1).applies x e0.platform about1 = true :=
  (Spec.applies_iff w_frames).mpr ⟨w_running, w_runnable, w_alone, w_named, w_hears, w_ripe, w_room, w_tables⟩
theorem atStart : AtStart classFile x code maxLocals ret World_1 tables_1 room_1 Calls_1 rest_1 Pre_1 launch0 p0 e0 about1 theMethod args0 below0 :=
  ⟨lists_1, trivial, launch0.admits_env _ _ _, launch0.least_env, fairChoices_fair.cas, fairChoices_fair.clock, w_frames, w_args, w_heap, w_applies, ⟨w_consts, trivial⟩, w_rest, w_case⟩
end start1
theorem witness_1 : WitnessClaimed_1 := ⟨start1.p0, start1.e0, start1.about1, start1.theMethod, start1.args0, start1.below0, start1.atStart⟩
end Jvm.Pilot.@@N@@
