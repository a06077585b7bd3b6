import JvmDerived
import JvmDerived.Pilot.@@N@@Statement
import JvmDerived.Pilot.@@N@@Code
set_option linter.unusedVariables false
set_option linter.unusedSimpArgs false
/- laws to paste: Road.backV, Road.lenW, Road.chN, Road.codOf (cut by pick.py; bodies as the Statement names them) -/
namespace Jvm.Pilot.@@N@@
namespace StrChars
open Jvm Sem ClassFile Op Lib Jvm.Stand Jvm.Free.XT Jvm.Free.ALB Jvm.Free.JM Jvm.Free
open Jvm.Lib.Cold (StaticIs)
/-- a char array whose places are chars -/
def Ch (a : Addr) (A : Cell) (U : State) : Prop := Arr .char a A U ∧ Typed .char A
theorem Ch.mv {a : Addr} {A : Cell} {U U' : State} (h : Ch a A U) (hal : U.vm.Alike U'.vm) (hh : U'.heap = U.heap) : Ch a A U' := ⟨h.1.mv hal hh, h.2⟩
theorem Ch.keep {a : Addr} {A : Cell} {U U' : State} (h : Ch a A U) (hal : U.vm.Alike U'.vm) (hk : U'.heap[a]? = some A) : Ch a A U' := ⟨h.1.keep hal hk, h.2⟩
/-- what place i of a char[]'s cell holds -/
def cv (A : Cell) (i : Nat) : Int32 := match A.slots[i]? with | some (.int x) => x | _ => 0
theorem Ch.get {a : Addr} {A : Cell} {U : State} (h : Ch a A U) {i : Nat} (hi : i < A.slots.size) : A.slots[i]? = some (.int (cv A i)) := by
  have e := Array.getElem?_eq_getElem hi
  have f := h.2 i _ e
  unfold cv; rw [e]
  generalize A.slots[i] = v at f
  cases v <;> simp [fits] at f ⊢
/-- the byte that i2b leaves of a char -/
def lo8 (x : Int32) : Int32 := x.toInt8.toInt32
theorem fits_lo8 (y : Int32) : fits .byte (.int (lo8 y)) = true := by
  have h1 := y.toInt8.le_toInt
  have h2 := y.toInt8.toInt_lt
  simp only [lo8, fits, Bool.and_eq_true, decide_eq_true_eq, Int32.le_iff_toInt_le, Int8.toInt_toInt32, show (-128 : Int32).toInt = -128 from by decide, show (127 : Int32).toInt = 127 from by decide]
  omega
/-- A' is A but that each place j of lo .. hi - 1 holds f j -/
def Laid (A A' : Cell) (lo hi : Nat) (f : Nat → Value) : Prop := A'.cls = A.cls ∧ A'.vm = A.vm ∧ A'.slots.size = A.slots.size ∧ ∀ i, A'.slots[i]? = if lo ≤ i ∧ i < hi then some (f i) else A.slots[i]?
theorem Laid.zero (A : Cell) (lo : Nat) (f : Nat → Value) : Laid A A lo (lo + 0) f := ⟨rfl, rfl, rfl, fun i => by rw [if_neg (by omega)]⟩
theorem Laid.step {A Ak : Cell} {lo k : Nat} {f : Nat → Value} {v : Value} (h : Laid A Ak lo k f) (hlo : lo ≤ k) (hk : k < Ak.slots.size) (hv : v = f k) : Laid A (Ak.setSlot k v) lo (k + 1) f := by
  refine ⟨h.1, h.2.1, by simpa [Cell.setSlot] using h.2.2.1, fun i => ?_⟩
  by_cases e : k = i
  · subst e; rw [Cell.slots_setSlot_self v hk, if_pos (by omega), hv]
  · rw [Cell.slots_setSlot_ne v e, h.2.2.2 i]
    by_cases q : lo ≤ i ∧ i < k
    · rw [if_pos q, if_pos (by omega)]
    · rw [if_neg q, if_neg (by omega)]
def U16 : String := "java/lang/StringUTF16"
namespace Cmp5
def yN : MethodName := ⟨"java/lang/StringUTF16", "compress", "([CI[BII)I"⟩
abbrev yB : ByteArray := jdk_52_method_21_code
theorem d0 : decode yB 0 = .ok (.iconst 0, 1) := by decide +kernel
theorem d1 : decode yB 1 = .ok (.istore 5, 2) := by decide +kernel
theorem d3 : decode yB 3 = .ok (.iload 5, 2) := by decide +kernel
theorem d5 : decode yB 5 = .ok (.iload 4, 2) := by decide +kernel
theorem d7 : decode yB 7 = .ok (.if_icmp (.ge) 37, 3) := by decide +kernel
theorem d10 : decode yB 10 = .ok (.aload_n 0, 1) := by decide +kernel
theorem d11 : decode yB 11 = .ok (.iload_n 1, 1) := by decide +kernel
theorem d12 : decode yB 12 = .ok (.caload, 1) := by decide +kernel
theorem d13 : decode yB 13 = .ok (.istore 6, 2) := by decide +kernel
theorem d15 : decode yB 15 = .ok (.iload 6, 2) := by decide +kernel
theorem d17 : decode yB 17 = .ok (.sipush 255, 3) := by decide +kernel
theorem d20 : decode yB 20 = .ok (.if_icmp (.le) 6, 3) := by decide +kernel
theorem d26 : decode yB 26 = .ok (.aload_n 2, 1) := by decide +kernel
theorem d27 : decode yB 27 = .ok (.iload_n 3, 1) := by decide +kernel
theorem d28 : decode yB 28 = .ok (.iload 6, 2) := by decide +kernel
theorem d30 : decode yB 30 = .ok (.i2b, 1) := by decide +kernel
theorem d31 : decode yB 31 = .ok (.bastore, 1) := by decide +kernel
theorem d32 : decode yB 32 = .ok (.iinc 1 1, 3) := by decide +kernel
theorem d35 : decode yB 35 = .ok (.iinc 3 1, 3) := by decide +kernel
theorem d38 : decode yB 38 = .ok (.iinc 5 1, 3) := by decide +kernel
theorem d41 : decode yB 41 = .ok (.goto (-38), 3) := by decide +kernel
theorem d44 : decode yB 44 = .ok (.iload 4, 2) := by decide +kernel
theorem d46 : decode yB 46 = .ok (.ireturn, 1) := by decide +kernel
def site : List Cond := []
def tab : Cond := tabOf yN yB 7 (some .int) site
def P (b : Addr) (A : Cell) (d : Addr) (B : Cell) (o q len : Nat) (args : Array Value) (s : State) : Prop := args = #[.ref b, .int (Int32.ofNat o), .ref d, .int (Int32.ofNat q), .int (Int32.ofNat len)] ∧ Ch b A s ∧ Arr .byte d B s ∧ b ≠ d ∧ o + len ≤ A.slots.size ∧ q + len ≤ B.slots.size ∧ ∀ i, i < len → ¬ 255 < cv A (o + i)
def E (b : Addr) (A : Cell) (d : Addr) (B : Cell) (o q len : Nat) (r : Option Value) (s u : State) : Prop := r = some (.int (Int32.ofNat len)) ∧ ∃ B', Put d B' s u ∧ Laid B B' q (q + len) (fun j => Value.int (lo8 (cv A (o + (j - q)))))
/-- no char of the range above 255: len; the places written hold each char's low byte -/
theorem law (l : Launch) (b : Addr) (A : Cell) (d : Addr) (B : Cell) (o q len : Nat) : Law l yN 5 5 0 0 yB 7 (some .int) site (P b A d B o q len) (E b A d B o q len) (copyLocs d q len) 0 0 := by
  refine Law.of_walk (plainFor_of_name (by decide +kernel)) (by decide +kernel) (by decide +kernel) (by decide) (fun _ _ h => by rw [h.1]; rfl) (fun _ U U' hal hh h => ⟨h.1, h.2.1.mv hal hh, h.2.2.1.mv hal hh, h.2.2.2⟩) (fun r U U' V V' h1 hal h2 h => ⟨h.1, h.2.elim fun B' q => ⟨B', q.1.mv h1 h2, q.2⟩⟩) ?_
  intro p e s m args below meth c s₁ X0 hexec hbytes hml hret hlk hnm hown hh0 W hP
  obtain ⟨rfl, hA, hB, hne, l1, l2, hp⟩ := hP
  have c1 : Steps p.tables e below (s₁.setTop (entryFrame m #[.ref b, .int (Int32.ofNat o), .ref d, .int (Int32.ofNat q), .int (Int32.ofNat len)] 7)) (s₁.setTop (mkF m 0 #[.val (.ref b), .val (.int (Int32.ofNat o)), .val (.ref d), .val (.int (Int32.ofNat q)), .val (.int (Int32.ofNat len)), .unset, .unset] [])) := entry rfl
  have hA0 := hA.1.mv X0.warmed.alike hh0
  have hB0 := hB.mv X0.warmed.alike hh0
  have a31 := hA.1.2.2.2
  have c2 : Steps p.tables e below (s₁.setTop (entryFrame m #[.ref b, .int (Int32.ofNat o), .ref d, .int (Int32.ofNat q), .int (Int32.ofNat len)] 7)) (s₁.setTop (mkF m 3 #[.val (.ref b), .val (.int (Int32.ofNat o)), .val (.ref d), .val (.int (Int32.ofNat q)), .val (.int (Int32.ofNat len)), .val (.int 0), .unset] [])) := c1.trans (by
    refine iconstV X0.here hexec rfl 0 (hb hbytes d0) (by decide) ?_
    refine XS.istore X0.here hexec rfl (hb hbytes d1) rfl rfl ?_
    exact Steps.refl _)
  have loop : ∀ (r i : Nat), i + r = len → ∀ (z : Slot), (z = .unset ∨ ∃ w, z = .val w ∧ w.category = 1) → ∀ (Tl : State) (Bk : Cell), Stand p l e { frames := 0, locals := 0, cells := 0, slots := 0 } s m #[.ref b, .int (Int32.ofNat o), .ref d, .int (Int32.ofNat q), .int (Int32.ofNat len)] below meth c Tl ([] ++ copyLocs d q i) 0 0 → Put d Bk s₁ Tl → Laid B Bk q (q + i) (fun j => Value.int (lo8 (cv A (o + (j - q))))) →
      Steps p.tables e below (s₁.setTop (entryFrame m #[.ref b, .int (Int32.ofNat o), .ref d, .int (Int32.ofNat q), .int (Int32.ofNat len)] 7)) (Tl.setTop (mkF m 3 #[.val (.ref b), .val (.int (Int32.ofNat (o + i))), .val (.ref d), .val (.int (Int32.ofNat (q + i))), .val (.int (Int32.ofNat len)), .val (.int (Int32.ofNat i)), z] [])) → ∃ (T' : State) (B' : Cell) (z' : Slot), Stand p l e { frames := 0, locals := 0, cells := 0, slots := 0 } s m #[.ref b, .int (Int32.ofNat o), .ref d, .int (Int32.ofNat q), .int (Int32.ofNat len)] below meth c T' ([] ++ copyLocs d q len) 0 0 ∧ Put d B' s₁ T' ∧ Laid B B' q (q + len) (fun j => Value.int (lo8 (cv A (o + (j - q))))) ∧
      Steps p.tables e below (s₁.setTop (entryFrame m #[.ref b, .int (Int32.ofNat o), .ref d, .int (Int32.ofNat q), .int (Int32.ofNat len)] 7)) (T'.setTop (mkF m 3 #[.val (.ref b), .val (.int (Int32.ofNat (o + len))), .val (.ref d), .val (.int (Int32.ofNat (q + len))), .val (.int (Int32.ofNat len)), .val (.int (Int32.ofNat len)), z'] [])) := by
    intro r
    induction r with
    | zero =>
      intro i hi z hz Tl Bk Xl pl fl cl
      have hil : i = len := by omega
      rw [hil] at Xl fl cl
      exact ⟨Tl, Bk, z, Xl, pl, fl, cl⟩
    | succ r ih =>
      intro i hi z hz Tl Bk Xl pl fl cl
      have all := X0.warmed.alike.symm.trans Xl.warmed.alike
      have hAl := hA0.keep all (pl.other hne hA0.1)
      have hBk := hB0.like all pl.1 fl.1 fl.2.1 fl.2.2.1
      have hlt : q + i < Bk.slots.size := by rw [fl.2.2.1]; omega
      have c3 : Steps p.tables e below (s₁.setTop (entryFrame m #[.ref b, .int (Int32.ofNat o), .ref d, .int (Int32.ofNat q), .int (Int32.ofNat len)] 7)) (Tl.setTop (mkF m 12 #[.val (.ref b), .val (.int (Int32.ofNat (o + i))), .val (.ref d), .val (.int (Int32.ofNat (q + i))), .val (.int (Int32.ofNat len)), .val (.int (Int32.ofNat i)), z] [.int (Int32.ofNat (o + i)), .ref b])) := cl.trans (by
        refine XS.iload Xl.here hexec rfl (hb hbytes d3) rfl ?_
        refine XS.iload Xl.here hexec rfl (hb hbytes d5) rfl ?_
        refine XS.icmpNo Xl.here hexec rfl (hb hbytes d7) rfl (ii_ge_f (lt32 (by omega) (by omega))) ?_
        refine XS.aloadN Xl.here hexec rfl (hb hbytes d10) rfl rfl ?_
        refine XS.iloadN Xl.here hexec rfl (hb hbytes d11) rfl ?_
        exact Steps.refl _)
      have c4 : Steps p.tables e below (s₁.setTop (entryFrame m #[.ref b, .int (Int32.ofNat o), .ref d, .int (Int32.ofNat q), .int (Int32.ofNat len)] 7)) (Tl.setTop (mkF m 13 #[.val (.ref b), .val (.int (Int32.ofNat (o + i))), .val (.ref d), .val (.int (Int32.ofNat (q + i))), .val (.int (Int32.ofNat len)), .val (.int (Int32.ofNat i)), z] [.int (cv A (o + i))])) := c3.trans (by
        refine Xl.aget hexec hAl rfl (hA.get (i := o + i) (by omega)) rfl rfl (hb hbytes d12) ?_
        exact Steps.refl _)
      have c5 : Steps p.tables e below (s₁.setTop (entryFrame m #[.ref b, .int (Int32.ofNat o), .ref d, .int (Int32.ofNat q), .int (Int32.ofNat len)] 7)) (Tl.setTop (mkF m 15 #[.val (.ref b), .val (.int (Int32.ofNat (o + i))), .val (.ref d), .val (.int (Int32.ofNat (q + i))), .val (.int (Int32.ofNat len)), .val (.int (Int32.ofNat i)), .val (.int (cv A (o + i)))] [])) := c4.trans (by
        refine XS.istoreS Xl.here hexec rfl (hb hbytes d13) rfl rfl hz ?_
        exact Steps.refl _)
      have c6 : Steps p.tables e below (s₁.setTop (entryFrame m #[.ref b, .int (Int32.ofNat o), .ref d, .int (Int32.ofNat q), .int (Int32.ofNat len)] 7)) (Tl.setTop (mkF m 31 #[.val (.ref b), .val (.int (Int32.ofNat (o + i))), .val (.ref d), .val (.int (Int32.ofNat (q + i))), .val (.int (Int32.ofNat len)), .val (.int (Int32.ofNat i)), .val (.int (cv A (o + i)))] [.int (lo8 (cv A (o + i))), .int (Int32.ofNat (q + i)), .ref d])) := c5.trans (by
        refine XS.iload Xl.here hexec rfl (hb hbytes d15) rfl ?_
        refine sipushV Xl.here hexec rfl 255 (hb hbytes d17) (by decide) ?_
        refine XS.icmpYes Xl.here hexec rfl (pc0 := 20) rfl (hb hbytes d20) rfl (ii_le_t (hp i (by omega))) (by decide) rfl ?_
        refine XS.aloadN Xl.here hexec rfl (hb hbytes d26) rfl rfl ?_
        refine XS.iloadN Xl.here hexec rfl (hb hbytes d27) rfl ?_
        refine XS.iload Xl.here hexec rfl (hb hbytes d28) rfl ?_
        refine i2b Xl.here hexec rfl (hb hbytes d30) rfl ?_
        exact Steps.refl _)
      obtain ⟨T7, X7, p7, st7⟩ := Xl.aput hexec hBk rfl hlt rfl (fits_lo8 (cv A (o + i))) (g := (mkF m 31 #[.val (.ref b), .val (.int (Int32.ofNat (o + i))), .val (.ref d), .val (.int (Int32.ofNat (q + i))), .val (.int (Int32.ofNat len)), .val (.int (Int32.ofNat i)), .val (.int (cv A (o + i)))] [.int (lo8 (cv A (o + i))), .int (Int32.ofNat (q + i)), .ref d])) rfl (rest := []) rfl (hb hbytes d31)
      have c8 : Steps p.tables e below (s₁.setTop (entryFrame m #[.ref b, .int (Int32.ofNat o), .ref d, .int (Int32.ofNat q), .int (Int32.ofNat len)] 7)) (T7.setTop (mkF m 32 #[.val (.ref b), .val (.int (Int32.ofNat (o + i))), .val (.ref d), .val (.int (Int32.ofNat (q + i))), .val (.int (Int32.ofNat len)), .val (.int (Int32.ofNat i)), .val (.int (cv A (o + i)))] [])) := c6.trans (st7 _ (Steps.refl _))
      have c9 : Steps p.tables e below (s₁.setTop (entryFrame m #[.ref b, .int (Int32.ofNat o), .ref d, .int (Int32.ofNat q), .int (Int32.ofNat len)] 7)) (T7.setTop (mkF m 3 #[.val (.ref b), .val (.int (Int32.ofNat (o + i) + 1)), .val (.ref d), .val (.int (Int32.ofNat (q + i) + 1)), .val (.int (Int32.ofNat len)), .val (.int (Int32.ofNat i + 1)), .val (.int (cv A (o + i)))] [])) := c8.trans (by
        refine iincV X7.here hexec rfl 1 (hb hbytes d32) (by decide) rfl rfl ?_
        refine iincV X7.here hexec rfl 1 (hb hbytes d35) (by decide) rfl rfl ?_
        refine iincV X7.here hexec rfl 1 (hb hbytes d38) (by decide) rfl rfl ?_
        refine XS.goto X7.here hexec rfl (pc0 := 41) rfl (hb hbytes d41) (by decide) rfl ?_
        exact Steps.refl _)
      have c10 : Steps p.tables e below (s₁.setTop (entryFrame m #[.ref b, .int (Int32.ofNat o), .ref d, .int (Int32.ofNat q), .int (Int32.ofNat len)] 7)) (T7.setTop (mkF m 3 #[.val (.ref b), .val (.int (Int32.ofNat (o + (i + 1)))), .val (.ref d), .val (.int (Int32.ofNat (q + (i + 1)))), .val (.int (Int32.ofNat len)), .val (.int (Int32.ofNat (i + 1))), .val (.int (cv A (o + i)))] [])) := by
        have := c9
        rw [succ32, succ32, succ32] at this
        exact this
      exact ih (i + 1) (by omega) _ (Or.inr ⟨_, rfl, rfl⟩) T7 _ (by rw [copyLocs_step, ← List.append_assoc]; exact X7) (pl.trans p7) (fl.step (by omega) hlt (by simp)) c10
  obtain ⟨T9, B9, z9, X9, p9, f9, g9⟩ := loop len 0 (by omega) .unset (Or.inl rfl) s₁ B (by simpa [copyLocs] using X0) ⟨hB0.1, fun _ _ => rfl, rfl⟩ (Laid.zero _ _ _) c2
  have c11 : Steps p.tables e below (s₁.setTop (entryFrame m #[.ref b, .int (Int32.ofNat o), .ref d, .int (Int32.ofNat q), .int (Int32.ofNat len)] 7)) (T9.setTop (mkF m 46 #[.val (.ref b), .val (.int (Int32.ofNat (o + len))), .val (.ref d), .val (.int (Int32.ofNat (q + len))), .val (.int (Int32.ofNat len)), .val (.int (Int32.ofNat len)), z9] [.int (Int32.ofNat len)])) := g9.trans (by
    refine XS.iload X9.here hexec rfl (hb hbytes d3) rfl ?_
    refine XS.iload X9.here hexec rfl (hb hbytes d5) rfl ?_
    refine XS.icmpYes X9.here hexec rfl (pc0 := 7) rfl (hb hbytes d7) rfl (ii_ge_t (nlt32 (by omega) (Nat.le_refl _))) (by decide) rfl ?_
    refine XS.iload X9.here hexec rfl (hb hbytes d44) rfl ?_
    exact Steps.refl _)
  exact ⟨T9, some (.int (Int32.ofNat len)), _, _, _, X9, by simp, rfl, rfl, (fun h => by cases h), ⟨rfl, B9, p9.from hh0, f9⟩, fun fs hl => c11.trans (X9.ireturnOut hexec hret rfl (Or.inl rfl) (hb hbytes d46) hl)⟩
end Cmp5
namespace Cmp3
def yN : MethodName := ⟨"java/lang/StringUTF16", "compress", "([CII)[B"⟩
abbrev yB : ByteArray := jdk_52_method_16_code
theorem d0 : decode yB 0 = .ok (.iload_n 2, 1) := by decide +kernel
theorem d1 : decode yB 1 = .ok (.newarray .byte, 2) := by decide +kernel
theorem d3 : decode yB 3 = .ok (.astore_n 3, 1) := by decide +kernel
theorem d4 : decode yB 4 = .ok (.aload_n 0, 1) := by decide +kernel
theorem d5 : decode yB 5 = .ok (.iload_n 1, 1) := by decide +kernel
theorem d6 : decode yB 6 = .ok (.aload_n 3, 1) := by decide +kernel
theorem d7 : decode yB 7 = .ok (.iconst 0, 1) := by decide +kernel
theorem d8 : decode yB 8 = .ok (.iload_n 2, 1) := by decide +kernel
theorem d9 : decode yB 9 = .ok (.invokestatic 115, 3) := by decide +kernel
theorem d12 : decode yB 12 = .ok (.istore 4, 2) := by decide +kernel
theorem d14 : decode yB 14 = .ok (.iload 4, 2) := by decide +kernel
theorem d16 : decode yB 16 = .ok (.iload_n 2, 1) := by decide +kernel
theorem d17 : decode yB 17 = .ok (.if_icmp (.eq) 40, 3) := by decide +kernel
theorem d57 : decode yB 57 = .ok (.aload_n 3, 1) := by decide +kernel
theorem d58 : decode yB 58 = .ok (.areturn, 1) := by decide +kernel
def site : List Cond := [.arrayClass .byte, Cmp5.tab] ++ staticW U16 115 Cmp5.yN
def tab : Cond := tabOf yN yB 6 (some (.array .byte)) site
def P (b : Addr) (A : Cell) (o len : Nat) (args : Array Value) (s : State) : Prop := args = #[.ref b, .int (Int32.ofNat o), .int (Int32.ofNat len)] ∧ Ch b A s ∧ o + len ≤ A.slots.size ∧ len ≤ 536870912 ∧ ∀ i, i < len → ¬ 255 < cv A (o + i)
def E (b : Addr) (A : Cell) (o len : Nat) (r : Option Value) (s u : State) : Prop := NewArr .byte "[B" len (fun j => .int (lo8 (cv A (o + j)))) r s u ∧ u.heap.size = s.heap.size + 1
/-- no char of the range above 255: a new byte[] of their low bytes -/
theorem law (l : Launch) (b : Addr) (A : Cell) (o len : Nat) : Law l yN 3 3 1 18 yB 6 (some (.array .byte)) site (P b A o len) (E b A o len) [] 1 len := by
  refine Law.of_walk (plainFor_of_name (by decide +kernel)) (by decide +kernel) (by decide +kernel) (by decide) (fun _ _ h => by rw [h.1]; rfl) (fun _ U U' hal hh h => ⟨h.1, h.2.1.mv hal hh, h.2.2⟩) (fun r U U' V V' h1 hal h2 h => ⟨NewArr.mv r U U' V V' h1 hal h2 h.1, by rw [h1, h2]; exact h.2⟩) ?_
  intro p e s m args below meth c s₁ X0 hexec hbytes hml hret hlk hnm hown hh0 W hP
  obtain ⟨rfl, hA, l1, l2, hp⟩ := hP
  have a31 := hA.1.2.2.2
  have c1 : Steps p.tables e below (s₁.setTop (entryFrame m #[.ref b, .int (Int32.ofNat o), .int (Int32.ofNat len)] 6)) (s₁.setTop (mkF m 0 #[.val (.ref b), .val (.int (Int32.ofNat o)), .val (.int (Int32.ofNat len)), .unset, .unset, .unset] [])) := entry rfl
  have c2 : Steps p.tables e below (s₁.setTop (entryFrame m #[.ref b, .int (Int32.ofNat o), .int (Int32.ofNat len)] 6)) (s₁.setTop (mkF m 1 #[.val (.ref b), .val (.int (Int32.ofNat o)), .val (.int (Int32.ofNat len)), .unset, .unset, .unset] [.int (Int32.ofNat len)])) := c1.trans (by
    refine XS.iloadN X0.here hexec rfl (hb hbytes d0) rfl ?_
    exact Steps.refl _)
  obtain ⟨T3, B3, X3, ba3, bs3, bv3, bh3, bf3, st3⟩ := X0.anew hexec (atype := .byte) (wk W (.arrayClass .byte)) rfl (by show len * 1 ≤ _; omega) (by omega) (g := (mkF m 1 #[.val (.ref b), .val (.int (Int32.ofNat o)), .val (.int (Int32.ofNat len)), .unset, .unset, .unset] [.int (Int32.ofNat len)])) rfl (hb hbytes d1) (rest := []) rfl (Nat.le_refl _) (by show 0 + len ≤ len; omega)
  rw [hh0] at ba3 st3
  have kp3 : XT.Kept s T3 := (XT.Kept.of_eq hh0).push bh3
  have hA3 := hA.keep X3.warmed.alike (kp3 _ _ hA.1.1)
  have hne : b ≠ s.heap.size := hA.1.ne
  have c4 : Steps p.tables e below (s₁.setTop (entryFrame m #[.ref b, .int (Int32.ofNat o), .int (Int32.ofNat len)] 6)) (T3.setTop (mkF m 3 #[.val (.ref b), .val (.int (Int32.ofNat o)), .val (.int (Int32.ofNat len)), .unset, .unset, .unset] [.ref s.heap.size])) := c2.trans (st3 _ (Steps.refl _))
  have c5 : Steps p.tables e below (s₁.setTop (entryFrame m #[.ref b, .int (Int32.ofNat o), .int (Int32.ofNat len)] 6)) (T3.setTop (mkF m 9 #[.val (.ref b), .val (.int (Int32.ofNat o)), .val (.int (Int32.ofNat len)), .val (.ref s.heap.size), .unset, .unset] [.int (Int32.ofNat len), .int 0, .ref s.heap.size, .int (Int32.ofNat o), .ref b])) := c4.trans (by
    refine XS.astoreN X3.here hexec rfl (hb hbytes d3) rfl rfl rfl ?_
    refine XS.aloadN X3.here hexec rfl (hb hbytes d4) rfl rfl ?_
    refine XS.iloadN X3.here hexec rfl (hb hbytes d5) rfl ?_
    refine XS.aloadN X3.here hexec rfl (hb hbytes d6) rfl rfl ?_
    refine iconstV X3.here hexec rfl 0 (hb hbytes d7) (by decide) ?_
    refine XS.iloadN X3.here hexec rfl (hb hbytes d8) rfl ?_
    exact Steps.refl _)
  obtain ⟨v6, T6, X6, E6, g6⟩ := X3.callS hexec (Cmp5.law l b A s.heap.size B3 o 0 len) hown (wks W (staticW U16 115 Cmp5.yN)) (wk W Cmp5.tab) (W := 0) (Nat.le_of_ble_eq_true rfl) (Nat.le_of_ble_eq_true rfl) (Nat.le_refl _) (by show 0 + len + 0 ≤ len; omega) (g := (mkF m 9 #[.val (.ref b), .val (.int (Int32.ofNat o)), .val (.int (Int32.ofNat len)), .val (.ref s.heap.size), .unset, .unset] [.int (Int32.ofNat len), .int (Int32.ofNat 0), .ref s.heap.size, .int (Int32.ofNat o), .ref b])) rfl (by rw [hml]; rfl) c5 (argsL := [.ref b, .int (Int32.ofNat o), .ref s.heap.size, .int (Int32.ofNat 0), .int (Int32.ofNat len)]) (rest := []) rfl rfl (by show 2 * 0 + 0 ≤ _; decide) (hb hbytes d9) (⟨rfl, hA3, ba3, hne, l1, by rw [bs3]; simp, hp⟩)
  obtain ⟨rfl, B6, p6, f6⟩ := E6
  have c7 : Steps p.tables e below (s₁.setTop (entryFrame m #[.ref b, .int (Int32.ofNat o), .int (Int32.ofNat len)] 6)) (T6.setTop (mkF m 12 #[.val (.ref b), .val (.int (Int32.ofNat o)), .val (.int (Int32.ofNat len)), .val (.ref s.heap.size), .unset, .unset] [.int (Int32.ofNat len)])) := g6
  have c8 : Steps p.tables e below (s₁.setTop (entryFrame m #[.ref b, .int (Int32.ofNat o), .int (Int32.ofNat len)] 6)) (T6.setTop (mkF m 58 #[.val (.ref b), .val (.int (Int32.ofNat o)), .val (.int (Int32.ofNat len)), .val (.ref s.heap.size), .val (.int (Int32.ofNat len)), .unset] [.ref s.heap.size])) := c7.trans (by
    refine XS.istore X6.here hexec rfl (hb hbytes d12) rfl rfl ?_
    refine XS.iload X6.here hexec rfl (hb hbytes d14) rfl ?_
    refine XS.iloadN X6.here hexec rfl (hb hbytes d16) rfl ?_
    refine XS.icmpYes X6.here hexec rfl (pc0 := 17) rfl (hb hbytes d17) rfl (ii_eq_t rfl) (by decide) rfl ?_
    refine XS.aloadN X6.here hexec rfl (hb hbytes d57) rfl rfl ?_
    exact Steps.refl _)
  have X8 := X6.wide (L' := []) (cells' := 1) (slots' := len) (fun x hx hlt => by
    simp only [List.nil_append, copyLocs, List.mem_map, List.mem_range] at hx
    obtain ⟨i, -, rfl⟩ := hx
    exact absurd hlt (Nat.lt_irrefl _)) (Nat.le_refl _) (by omega)
  exact ⟨T6, some (.ref s.heap.size), _, _, _, X8, rfl, rfl, rfl, (fun h => by cases h), ⟨⟨rfl, B6, ba3.like (X3.warmed.alike.symm.trans X6.warmed.alike) p6.1 f6.1 f6.2.1 f6.2.2.1, f6.2.1.trans bv3, by rw [X6.warmed.alike.findClass, f6.1]; exact bf3, by rw [f6.2.2.1, bs3]; simp, fun j hj => by rw [f6.2.2.2 j, if_pos (by omega)]; rfl, kp3.put p6 (Nat.le_refl _)⟩, by rw [p6.2.2, bh3, hh0]; simp⟩, fun fs hl => c8.trans (X8.areturnOut hexec rfl hret rfl (hb hbytes d58) hl)⟩
end Cmp3
namespace CodL
def yN : MethodName := ⟨"java/lang/StringUTF16", "coderFromArrayLen", "([BI)B"⟩
abbrev yB : ByteArray := jdk_52_method_15_code
theorem d0 : decode yB 0 = .ok (.iload_n 1, 1) := by decide +kernel
theorem d1 : decode yB 1 = .ok (.aload_n 0, 1) := by decide +kernel
theorem d2 : decode yB 2 = .ok (.arraylength, 1) := by decide +kernel
theorem d3 : decode yB 3 = .ok (.isub, 1) := by decide +kernel
theorem d4 : decode yB 4 = .ok (.bipush 31, 2) := by decide +kernel
theorem d6 : decode yB 6 = .ok (.iushr, 1) := by decide +kernel
theorem d7 : decode yB 7 = .ok (.i2b, 1) := by decide +kernel
theorem d8 : decode yB 8 = .ok (.ireturn, 1) := by decide +kernel
def site : List Cond := []
def tab : Cond := tabOf yN yB 2 (some .byte) site
def P (d : Addr) (B : Cell) (args : Array Value) (s : State) : Prop := args = #[.ref d, .int (Int32.ofNat B.slots.size)] ∧ Arr .byte d B s
def E (r : Option Value) (s u : State) : Prop := XT.PureE (some (.int 0)) r s u
/-- an array as long as the number of chars: LATIN1 -/
theorem law (l : Launch) (d : Addr) (B : Cell) : Law l yN 2 2 0 0 yB 2 (some .byte) site (P d B) E [] 0 0 := by
  refine Law.of_walk (plainFor_of_name (by decide +kernel)) (by decide +kernel) (by decide +kernel) (by decide) (fun _ _ h => by rw [h.1]; rfl) (fun _ U U' hal hh h => ⟨h.1, h.2.mv hal hh⟩) (fun r U U' V V' h1 hal h2 h => XT.PureE.mv r U U' V V' h1 hal h2 h) ?_
  intro p e s m args below meth c s₁ X0 hexec hbytes hml hret hlk hnm hown hh0 W hP
  obtain ⟨rfl, hB⟩ := hP
  have hB0 := hB.mv X0.warmed.alike hh0
  have c1 : Steps p.tables e below (s₁.setTop (entryFrame m #[.ref d, .int (Int32.ofNat B.slots.size)] 2)) (s₁.setTop (mkF m 0 #[.val (.ref d), .val (.int (Int32.ofNat B.slots.size))] [])) := entry rfl
  have c2 : Steps p.tables e below (s₁.setTop (entryFrame m #[.ref d, .int (Int32.ofNat B.slots.size)] 2)) (s₁.setTop (mkF m 2 #[.val (.ref d), .val (.int (Int32.ofNat B.slots.size))] [.ref d, .int (Int32.ofNat B.slots.size)])) := c1.trans (by
    refine XS.iloadN X0.here hexec rfl (hb hbytes d0) rfl ?_
    refine XS.aloadN X0.here hexec rfl (hb hbytes d1) rfl rfl ?_
    exact Steps.refl _)
  have c3 : Steps p.tables e below (s₁.setTop (entryFrame m #[.ref d, .int (Int32.ofNat B.slots.size)] 2)) (s₁.setTop (mkF m 8 #[.val (.ref d), .val (.int (Int32.ofNat B.slots.size))] [.int (lo8 (ushr (Int32.ofNat B.slots.size - Int32.ofNat B.slots.size) 31))])) := c2.trans (by
    refine X0.alen hexec hB0 rfl rfl (hb hbytes d2) ?_
    refine XS.isub X0.here hexec rfl (hb hbytes d3) rfl ?_
    refine bipushV X0.here hexec rfl 31 (hb hbytes d4) (by decide) ?_
    refine iushr X0.here hexec rfl (hb hbytes d6) rfl ?_
    refine i2b X0.here hexec rfl (hb hbytes d7) rfl ?_
    exact Steps.refl _)
  have e0 : lo8 (ushr (Int32.ofNat B.slots.size - Int32.ofNat B.slots.size) 31) = 0 := by rw [Int32.sub_self]; decide
  rw [e0] at c3
  exact ⟨s₁, some (.int 0), _, _, _, X0, rfl, rfl, rfl, (fun h => by cases h), ⟨rfl, hh0⟩, fun fs hl => c3.trans (X0.ireturnOut hexec hret rfl (Or.inr (Or.inr (Or.inl rfl))) (hb hbytes d8) hl)⟩
end CodL
/-- the String at a is Latin-1 over a new byte[] (the heap's one new cell): the low bytes of the len chars of A from o on; every cell but a is kept -/
def Got (a : Addr) (D : Cell) (fV fC : Field) (A : Cell) (o len : Nat) (r : Option Value) (s u : State) : Prop := r = none ∧ ∃ D' V : Cell, Blank "java/lang/String" a D' u ∧ Same D D' [fV.slot, fC.slot] ∧ D'.slots[fV.slot]? = some (.ref s.heap.size) ∧ D'.slots[fC.slot]? = some (.int 0) ∧ Arr .byte s.heap.size V u ∧ V.vm = .none ∧ u.vm.findClass "[B" = some V.cls ∧ V.slots.size = len ∧ (∀ j, j < len → V.slots[j]? = some (.int (lo8 (cv A (o + j))))) ∧ (∀ (y : Addr) (c : Cell), y ≠ a → s.heap[y]? = some c → u.heap[y]? = some c) ∧ u.heap.size = s.heap.size + 1
theorem Got.mv {a : Addr} {D A : Cell} {fV fC : Field} {o len : Nat} : ∀ r (U U' V V' : State), U'.heap = U.heap → V.vm.Alike V'.vm → V'.heap = V.heap → Got a D fV fC A o len r U V → Got a D fV fC A o len r U' V' :=
  fun r U U' V V' h1 hal h2 ⟨e0, D', X, a1, a2, a3, a4, a5, a6, a7, a8, a9, a10, a11⟩ => ⟨e0, D', X, a1.mv hal h2, a2, by rw [h1]; exact a3, a4, by rw [h1]; exact a5.mv hal h2, a6, by rw [hal.findClass]; exact a7, a8, a9, by rw [h1, h2]; exact a10, by rw [h1, h2]; exact a11⟩
namespace New4
def yN : MethodName := ⟨"java/lang/String", "<init>", "([CIILjava/lang/Void;)V"⟩
abbrev yB : ByteArray := jdk_42_method_149_code
theorem d0 : decode yB 0 = .ok (.aload_n 0, 1) := by decide +kernel
theorem d1 : decode yB 1 = .ok (.invokespecial 1, 3) := by decide +kernel
theorem d4 : decode yB 4 = .ok (.iload_n 3, 1) := by decide +kernel
theorem d5 : decode yB 5 = .ok (.ifCond (.ne) 22, 3) := by decide +kernel
theorem d27 : decode yB 27 = .ok (.getstatic 38, 3) := by decide +kernel
theorem d30 : decode yB 30 = .ok (.ifCond (.eq) 28, 3) := by decide +kernel
theorem d33 : decode yB 33 = .ok (.aload_n 1, 1) := by decide +kernel
theorem d34 : decode yB 34 = .ok (.iload_n 2, 1) := by decide +kernel
theorem d35 : decode yB 35 = .ok (.iload_n 3, 1) := by decide +kernel
theorem d36 : decode yB 36 = .ok (.invokestatic 177, 3) := by decide +kernel
theorem d39 : decode yB 39 = .ok (.astore 5, 2) := by decide +kernel
theorem d41 : decode yB 41 = .ok (.aload_n 0, 1) := by decide +kernel
theorem d42 : decode yB 42 = .ok (.aload 5, 2) := by decide +kernel
theorem d44 : decode yB 44 = .ok (.iload_n 3, 1) := by decide +kernel
theorem d45 : decode yB 45 = .ok (.invokestatic 47, 3) := by decide +kernel
theorem d48 : decode yB 48 = .ok (.putfield 15, 3) := by decide +kernel
theorem d51 : decode yB 51 = .ok (.aload_n 0, 1) := by decide +kernel
theorem d52 : decode yB 52 = .ok (.aload 5, 2) := by decide +kernel
theorem d54 : decode yB 54 = .ok (.putfield 9, 3) := by decide +kernel
theorem d57 : decode yB 57 = .ok (.return_, 1) := by decide +kernel
def site : List Cond := [.fieldLink "java/lang/String" 38 "java/lang/String" "COMPACT_STRINGS" "Z", Cmp3.tab, CodL.tab, .laysFinal "java/lang/String" "java/lang/String" "value" "[B", .fieldLink "java/lang/String" 9 "java/lang/String" "value" "[B", .laysFinal "java/lang/String" "java/lang/String" "coder" "B", .fieldLink "java/lang/String" 15 "java/lang/String" "coder" "B"] ++ objW "java/lang/String" 1 ++ staticW "java/lang/String" 177 Cmp3.yN ++ staticW "java/lang/String" 47 CodL.yN
def tab : Cond := tabOf yN yB 6 none site
def P (a : Addr) (D : Cell) (fV fC : Field) (b : Addr) (A : Cell) (z : Int32) (o len : Nat) (args : Array Value) (s : State) : Prop := args = #[.ref a, .ref b, .int (Int32.ofNat o), .int (Int32.ofNat len), .null] ∧ Blank "java/lang/String" a D s ∧ Found "java/lang/String" "value" "[B" fV s ∧ Found "java/lang/String" "coder" "B" fC s ∧ Ch b A s ∧ StaticIs s "java/lang/String" "COMPACT_STRINGS" "Z" (.int z) ∧ ¬ z = 0 ∧ 0 < len ∧ o + len ≤ A.slots.size ∧ len ≤ 536870912 ∧ ∀ i, i < len → ¬ 255 < cv A (o + i)
def E (a : Addr) (D : Cell) (fV fC : Field) (A : Cell) (o len : Nat) (r : Option Value) (s u : State) : Prop := Got a D fV fC A o len r s u
/-- len > 0, no char of the range above 255: a Latin-1 String of their low bytes -/
theorem law (l : Launch) (a : Addr) (D : Cell) (fV fC : Field) (b : Addr) (A : Cell) (z : Int32) (o len : Nat) : Law l yN 5 4 2 35 yB 6 none site (P a D fV fC b A z o len) (E a D fV fC A o len) [⟨a, fC.slot⟩, ⟨a, fV.slot⟩] 1 len := by
  refine Law.of_walk (plainFor_of_name (by decide +kernel)) (by decide +kernel) (by decide +kernel) (by decide) (fun _ _ h => by rw [h.1]; rfl) (fun _ U U' hal hh h => ⟨h.1, h.2.1.mv hal hh, h.2.2.1.al hal, h.2.2.2.1.al hal, h.2.2.2.2.1.mv hal hh, h.2.2.2.2.2.1.there hal hh, h.2.2.2.2.2.2⟩) (fun r U U' V V' h1 hal h2 h => Got.mv r U U' V V' h1 hal h2 h) ?_
  intro p e s m args below meth c s₁ X0 hexec hbytes hml hret hlk hnm hown hh0 W hP
  obtain ⟨rfl, hB, f1, f2, hA, s1, hz, l0, l1, l2, hp⟩ := hP
  have a31 := hA.1.2.2.2
  have c1 : Steps p.tables e below (s₁.setTop (entryFrame m #[.ref a, .ref b, .int (Int32.ofNat o), .int (Int32.ofNat len), .null] 6)) (s₁.setTop (mkF m 0 #[.val (.ref a), .val (.ref b), .val (.int (Int32.ofNat o)), .val (.int (Int32.ofNat len)), .val .null, .unset] [])) := entry rfl
  have c2 : Steps p.tables e below (s₁.setTop (entryFrame m #[.ref a, .ref b, .int (Int32.ofNat o), .int (Int32.ofNat len), .null] 6)) (s₁.setTop (mkF m 1 #[.val (.ref a), .val (.ref b), .val (.int (Int32.ofNat o)), .val (.int (Int32.ofNat len)), .val .null, .unset] [.ref a])) := c1.trans (by
    refine XS.aloadN X0.here hexec rfl (hb hbytes d0) rfl rfl ?_
    exact Steps.refl _)
  obtain ⟨T3, X3, q3, st3⟩ := X0.oinit hexec hown (wks W (objW "java/lang/String" 1)) (g := (mkF m 1 #[.val (.ref a), .val (.ref b), .val (.int (Int32.ofNat o)), .val (.int (Int32.ofNat len)), .val .null, .unset] [.ref a])) rfl (by rw [hml]; rfl) (rest := []) rfl (hb hbytes d1) (W := 0) (by show 2 * 0 + 0 ≤ _; decide) (Nat.le_of_ble_eq_true rfl) (Nat.le_of_ble_eq_true rfl)
  have hh3 := q3.trans hh0
  have c4 : Steps p.tables e below (s₁.setTop (entryFrame m #[.ref a, .ref b, .int (Int32.ofNat o), .int (Int32.ofNat len), .null] 6)) (T3.setTop (mkF m 27 #[.val (.ref a), .val (.ref b), .val (.int (Int32.ofNat o)), .val (.int (Int32.ofNat len)), .val .null, .unset] [])) := (c2.trans (st3 _ (Steps.refl _))).trans (by
    refine XS.iloadN X3.here hexec rfl (hb hbytes d4) rfl ?_
    refine XS.ifYes X3.here hexec rfl (pc0 := 5) rfl (hb hbytes d5) rfl (i0_ne_t (nz32 (by omega) l0)) (by decide) rfl ?_
    exact Steps.refl _)
  obtain ⟨T5, X5, q5, st5⟩ := X3.sget hexec hown (wk W (.fieldLink "java/lang/String" 38 "java/lang/String" "COMPACT_STRINGS" "Z")) s1 (fun _ _ h => by rw [hh3]; exact h) (g := (mkF m 27 #[.val (.ref a), .val (.ref b), .val (.int (Int32.ofNat o)), .val (.int (Int32.ofNat len)), .val .null, .unset] [])) rfl (hb hbytes d27)
  have hh5 := q5.trans hh3
  have c6 : Steps p.tables e below (s₁.setTop (entryFrame m #[.ref a, .ref b, .int (Int32.ofNat o), .int (Int32.ofNat len), .null] 6)) (T5.setTop (mkF m 30 #[.val (.ref a), .val (.ref b), .val (.int (Int32.ofNat o)), .val (.int (Int32.ofNat len)), .val .null, .unset] [.int z])) := c4.trans (st5 _ (Steps.refl _))
  have c7 : Steps p.tables e below (s₁.setTop (entryFrame m #[.ref a, .ref b, .int (Int32.ofNat o), .int (Int32.ofNat len), .null] 6)) (T5.setTop (mkF m 36 #[.val (.ref a), .val (.ref b), .val (.int (Int32.ofNat o)), .val (.int (Int32.ofNat len)), .val .null, .unset] [.int (Int32.ofNat len), .int (Int32.ofNat o), .ref b])) := c6.trans (by
    refine XS.ifNo X5.here hexec rfl (hb hbytes d30) rfl (i0_eq_f hz) ?_
    refine XS.aloadN X5.here hexec rfl (hb hbytes d33) rfl rfl ?_
    refine XS.iloadN X5.here hexec rfl (hb hbytes d34) rfl ?_
    refine XS.iloadN X5.here hexec rfl (hb hbytes d35) rfl ?_
    exact Steps.refl _)
  obtain ⟨v8, T8, X8, E8, g8⟩ := X5.callS hexec (Cmp3.law l b A o len) hown (wks W (staticW "java/lang/String" 177 Cmp3.yN)) (wk W Cmp3.tab) (W := 0) (Nat.le_of_ble_eq_true rfl) (Nat.le_of_ble_eq_true rfl) (Nat.le_refl _) (by show 0 + len ≤ len; omega) (g := (mkF m 36 #[.val (.ref a), .val (.ref b), .val (.int (Int32.ofNat o)), .val (.int (Int32.ofNat len)), .val .null, .unset] [.int (Int32.ofNat len), .int (Int32.ofNat o), .ref b])) rfl (by rw [hml]; rfl) c7 (argsL := [.ref b, .int (Int32.ofNat o), .int (Int32.ofNat len)]) (rest := []) rfl rfl (by show 2 * 0 + 0 ≤ _; decide) (hb hbytes d36) (⟨rfl, hA.mv X5.warmed.alike hh5, l1, l2, hp⟩)
  obtain ⟨e8, z8⟩ := E8
  obtain ⟨rfl, N, n1, n2, n3, n4, n5, n6⟩ := NewArr.mv _ T5 s _ _ hh5.symm (Vm.Alike.refl _) rfl e8
  rw [hh5] at z8
  have hB1 := hB.keep X8.warmed.alike (n6 _ _ hB.1)
  have hne : s.heap.size ≠ a := (Nat.ne_of_lt (Array.getElem?_eq_some_iff.mp hB.1).1).symm
  have c9 : Steps p.tables e below (s₁.setTop (entryFrame m #[.ref a, .ref b, .int (Int32.ofNat o), .int (Int32.ofNat len), .null] 6)) (T8.setTop (mkF m 39 #[.val (.ref a), .val (.ref b), .val (.int (Int32.ofNat o)), .val (.int (Int32.ofNat len)), .val .null, .unset] [.ref s.heap.size])) := g8
  have c10 : Steps p.tables e below (s₁.setTop (entryFrame m #[.ref a, .ref b, .int (Int32.ofNat o), .int (Int32.ofNat len), .null] 6)) (T8.setTop (mkF m 45 #[.val (.ref a), .val (.ref b), .val (.int (Int32.ofNat o)), .val (.int (Int32.ofNat len)), .val .null, .val (.ref s.heap.size)] [.int (Int32.ofNat N.slots.size), .ref s.heap.size, .ref a])) := by
    have hc : Steps p.tables e below (s₁.setTop (entryFrame m #[.ref a, .ref b, .int (Int32.ofNat o), .int (Int32.ofNat len), .null] 6)) (T8.setTop (mkF m 45 #[.val (.ref a), .val (.ref b), .val (.int (Int32.ofNat o)), .val (.int (Int32.ofNat len)), .val .null, .val (.ref s.heap.size)] [.int (Int32.ofNat len), .ref s.heap.size, .ref a])) := c9.trans (by
      refine XS.astore X8.here hexec rfl (hb hbytes d39) rfl rfl rfl ?_
      refine XS.aloadN X8.here hexec rfl (hb hbytes d41) rfl rfl ?_
      refine XS.aload X8.here hexec rfl (hb hbytes d42) rfl rfl ?_
      refine XS.iloadN X8.here hexec rfl (hb hbytes d44) rfl ?_
      exact Steps.refl _)
    rw [n4]; exact hc
  obtain ⟨v11, T11, X11, E11, g11⟩ := X8.callS hexec (CodL.law l s.heap.size N) hown (wks W (staticW "java/lang/String" 47 CodL.yN)) (wk W CodL.tab) (W := 1) (Nat.le_of_ble_eq_true rfl) (Nat.le_of_ble_eq_true rfl) (Nat.le_refl _) (by show 0 + len + 0 ≤ len; omega) (g := (mkF m 45 #[.val (.ref a), .val (.ref b), .val (.int (Int32.ofNat o)), .val (.int (Int32.ofNat len)), .val .null, .val (.ref s.heap.size)] [.int (Int32.ofNat N.slots.size), .ref s.heap.size, .ref a])) rfl (by rw [hml]; rfl) c10 (argsL := [.ref s.heap.size, .int (Int32.ofNat N.slots.size)]) (rest := [.ref a]) rfl rfl (by show 2 * 0 + (1 + 0) ≤ _; decide) (hb hbytes d45) (⟨rfl, n1⟩)
  obtain ⟨rfl, q11⟩ := E11
  have hB11 := hB1.mv (X8.warmed.alike.symm.trans X11.warmed.alike) q11
  have c12 : Steps p.tables e below (s₁.setTop (entryFrame m #[.ref a, .ref b, .int (Int32.ofNat o), .int (Int32.ofNat len), .null] 6)) (T11.setTop (mkF m 48 #[.val (.ref a), .val (.ref b), .val (.int (Int32.ofNat o)), .val (.int (Int32.ofNat len)), .val .null, .val (.ref s.heap.size)] [.int 0, .ref a])) := g11
  obtain ⟨T13, X13, p13, bl13, sl13, st13⟩ := X11.finit hexec hown (wk W (.fieldLink "java/lang/String" 15 "java/lang/String" "coder" "B")) (Or.inr ⟨_, (wk W (.laysFinal "java/lang/String" "java/lang/String" "coder" "B"))⟩) (Or.inl ⟨rfl, hnm⟩) f2 (Or.inl rfl) hB11 (t := .byte) (by decide +kernel) rfl (g := (mkF m 48 #[.val (.ref a), .val (.ref b), .val (.int (Int32.ofNat o)), .val (.int (Int32.ofNat len)), .val .null, .val (.ref s.heap.size)] [.int 0, .ref a])) rfl (rest := []) rfl (hb hbytes d48)
  have c14 : Steps p.tables e below (s₁.setTop (entryFrame m #[.ref a, .ref b, .int (Int32.ofNat o), .int (Int32.ofNat len), .null] 6)) (T13.setTop (mkF m 54 #[.val (.ref a), .val (.ref b), .val (.int (Int32.ofNat o)), .val (.int (Int32.ofNat len)), .val .null, .val (.ref s.heap.size)] [.ref s.heap.size, .ref a])) := (c12.trans (st13 _ (Steps.refl _))).trans (by
    refine XS.aloadN X13.here hexec rfl (hb hbytes d51) rfl rfl ?_
    refine XS.aload X13.here hexec rfl (hb hbytes d52) rfl rfl ?_
    exact Steps.refl _)
  obtain ⟨T15, X15, p15, bl15, sl15, st15⟩ := X13.finit hexec hown (wk W (.fieldLink "java/lang/String" 9 "java/lang/String" "value" "[B")) (Or.inr ⟨_, (wk W (.laysFinal "java/lang/String" "java/lang/String" "value" "[B"))⟩) (Or.inl ⟨rfl, hnm⟩) f1 (Or.inl rfl) bl13 (t := (.array .byte)) (by decide +kernel) rfl (g := (mkF m 54 #[.val (.ref a), .val (.ref b), .val (.int (Int32.ofNat o)), .val (.int (Int32.ofNat len)), .val .null, .val (.ref s.heap.size)] [.ref s.heap.size, .ref a])) rfl (rest := []) rfl (hb hbytes d54)
  have c16 : Steps p.tables e below (s₁.setTop (entryFrame m #[.ref a, .ref b, .int (Int32.ofNat o), .int (Int32.ofNat len), .null] 6)) (T15.setTop (mkF m 57 #[.val (.ref a), .val (.ref b), .val (.int (Int32.ofNat o)), .val (.int (Int32.ofNat len)), .val .null, .val (.ref s.heap.size)] [])) := c14.trans (st15 _ (Steps.refl _))
  have ap := apart (Or.inr ⟨_, (wk W (.laysFinal "java/lang/String" "java/lang/String" "value" "[B"))⟩) (Or.inr ⟨_, (wk W (.laysFinal "java/lang/String" "java/lang/String" "coder" "B"))⟩) f1 f2 (t₁ := .array .byte) (t₂ := .byte) (by decide +kernel) (by decide +kernel) (by decide)
  have al := X8.warmed.alike.symm.trans X15.warmed.alike
  have n7 : T11.heap[s.heap.size]? = some N := by rw [q11]; exact n1.1
  exact ⟨T15, none, _, _, _, X15, by simp, rfl, by omega, (fun _ => rfl), ⟨rfl, _, N, bl15, ((Same.refl D _).set _ (by simp)).set _ (by simp), sl15, (Cell.slots_setSlot_ne _ ap).trans sl13, n1.keep al (p15.other hne (p13.other hne n7)), n2, by rw [al.findClass]; exact n3, n4, n5, fun y c h1 h2 => p15.other h1 (p13.other h1 (by rw [q11]; exact n6 y c h2)), by rw [p15.2.2, p13.2.2, q11]; exact z8⟩, fun fs hl => c16.trans (X15.returnOut hexec hret (hb hbytes d57) hl)⟩
end New4
namespace New1
def yN : MethodName := ⟨"java/lang/String", "<init>", "([C)V"⟩
abbrev yB : ByteArray := jdk_42_method_3_code
theorem d0 : decode yB 0 = .ok (.aload_n 0, 1) := by decide +kernel
theorem d1 : decode yB 1 = .ok (.aload_n 1, 1) := by decide +kernel
theorem d2 : decode yB 2 = .ok (.iconst 0, 1) := by decide +kernel
theorem d3 : decode yB 3 = .ok (.aload_n 1, 1) := by decide +kernel
theorem d4 : decode yB 4 = .ok (.arraylength, 1) := by decide +kernel
theorem d5 : decode yB 5 = .ok (.aconst_null, 1) := by decide +kernel
theorem d6 : decode yB 6 = .ok (.invokespecial 27, 3) := by decide +kernel
theorem d9 : decode yB 9 = .ok (.return_, 1) := by decide +kernel
def site : List Cond := [New4.tab] ++ initW "java/lang/String" 27 New4.yN
def tab : Cond := tabOf yN yB 2 none site
def P (a : Addr) (D : Cell) (fV fC : Field) (b : Addr) (A : Cell) (z : Int32) (args : Array Value) (s : State) : Prop := args = #[.ref a, .ref b] ∧ Blank "java/lang/String" a D s ∧ Found "java/lang/String" "value" "[B" fV s ∧ Found "java/lang/String" "coder" "B" fC s ∧ Ch b A s ∧ StaticIs s "java/lang/String" "COMPACT_STRINGS" "Z" (.int z) ∧ ¬ z = 0 ∧ 0 < A.slots.size ∧ A.slots.size ≤ 536870912 ∧ ∀ i, i < A.slots.size → ¬ 255 < cv A i
def E (a : Addr) (D : Cell) (fV fC : Field) (A : Cell) (r : Option Value) (s u : State) : Prop := Got a D fV fC A 0 A.slots.size r s u
/-- new String(chars), not empty, no char above 255: a Latin-1 String of their low bytes -/
theorem law (l : Launch) (a : Addr) (D : Cell) (fV fC : Field) (b : Addr) (A : Cell) (z : Int32) : Law l yN 2 1 3 52 yB 2 none site (P a D fV fC b A z) (E a D fV fC A) [⟨a, fC.slot⟩, ⟨a, fV.slot⟩] 1 A.slots.size := by
  refine Law.of_walk (plainFor_of_name (by decide +kernel)) (by decide +kernel) (by decide +kernel) (by decide) (fun _ _ h => by rw [h.1]; rfl) (fun _ U U' hal hh h => ⟨h.1, h.2.1.mv hal hh, h.2.2.1.al hal, h.2.2.2.1.al hal, h.2.2.2.2.1.mv hal hh, h.2.2.2.2.2.1.there hal hh, h.2.2.2.2.2.2⟩) (fun r U U' V V' h1 hal h2 h => Got.mv r U U' V V' h1 hal h2 h) ?_
  intro p e s m args below meth c s₁ X0 hexec hbytes hml hret hlk hnm hown hh0 W hP
  obtain ⟨rfl, hB, f1, f2, hA, s1, hz, l0, l2, hp⟩ := hP
  have c1 : Steps p.tables e below (s₁.setTop (entryFrame m #[.ref a, .ref b] 2)) (s₁.setTop (mkF m 0 #[.val (.ref a), .val (.ref b)] [])) := entry rfl
  have c2 : Steps p.tables e below (s₁.setTop (entryFrame m #[.ref a, .ref b] 2)) (s₁.setTop (mkF m 6 #[.val (.ref a), .val (.ref b)] [.null, .int (Int32.ofNat A.slots.size), .int 0, .ref b, .ref a])) := c1.trans (by
    refine XS.aloadN X0.here hexec rfl (hb hbytes d0) rfl rfl ?_
    refine XS.aloadN X0.here hexec rfl (hb hbytes d1) rfl rfl ?_
    refine iconstV X0.here hexec rfl 0 (hb hbytes d2) (by decide) ?_
    refine XS.aloadN X0.here hexec rfl (hb hbytes d3) rfl rfl ?_
    refine X0.alen hexec (hA.1.mv X0.warmed.alike hh0) rfl rfl (hb hbytes d4) ?_
    refine XS.aconstNull X0.here hexec rfl (hb hbytes d5) ?_
    exact Steps.refl _)
  obtain ⟨v3, T3, X3, E3, g3⟩ := X0.callN hexec (New4.law l a D fV fC b A z 0 A.slots.size) rfl hown (wks W (initW "java/lang/String" 27 New4.yN)) (W New4.tab (by simp only [site, List.mem_cons, List.mem_append, true_or, or_true])) (W := 0) (Nat.le_of_ble_eq_true rfl) (Nat.le_of_ble_eq_true rfl) (Nat.le_refl _) (by show 0 + A.slots.size ≤ A.slots.size; omega) (g := (mkF m 6 #[.val (.ref a), .val (.ref b)] [.null, .int (Int32.ofNat A.slots.size), .int (Int32.ofNat 0), .ref b, .ref a])) rfl (by rw [hml]; rfl) c2 (argsL := [.ref b, .int (Int32.ofNat 0), .int (Int32.ofNat A.slots.size), .null]) (rest := []) rfl rfl (by show 2 * 0 + 0 ≤ _; decide) (hb hbytes d6) (⟨rfl, hB.mv X0.warmed.alike hh0, f1.al X0.warmed.alike, f2.al X0.warmed.alike, hA.mv X0.warmed.alike hh0, s1.there X0.warmed.alike hh0, hz, l0, by omega, l2, fun i hi => by rw [Nat.zero_add]; exact hp i hi⟩)
  have e0 := Got.mv _ s₁ s _ _ hh0.symm (Vm.Alike.refl _) rfl E3
  obtain rfl := e0.1
  have c4 : Steps p.tables e below (s₁.setTop (entryFrame m #[.ref a, .ref b] 2)) (T3.setTop (mkF m 9 #[.val (.ref a), .val (.ref b)] [])) := g3
  exact ⟨T3, none, _, _, _, X3, by simp, rfl, by omega, (fun _ => rfl), e0, fun fs hl => c4.trans (X3.returnOut hexec hret (hb hbytes d9) hl)⟩
theorem pays {l : Launch} {R : Room} {p : Program} {e : Env} {below : List Frame} {s : State} {sargs : Array Value} {len W : Nat} (a : Addr) (D : Cell) (fV fC : Field) (b : Addr) (A : Cell) (z : Int32) (htab : tab.before sargs s = true) (hfr : 4 ≤ R.frames) (hlo : W + 65 ≤ R.locals) :
    Back l R p e below s sargs yN len W (fun A₁ a₁ => A₁.cells + 1 ≤ R.cells ∧ A₁.slots + A.slots.size ≤ R.slots ∧ P a D fV fC b A z a₁ A₁.U) (fun A₁ _ v₁ B₁ => E a D fV fC A v₁ A₁.U B₁.U ∧ B₁.locs = A₁.locs ++ [⟨a, fC.slot⟩, ⟨a, fV.slot⟩] ∧ B₁.cells = A₁.cells + 1 ∧ B₁.slots = A₁.slots + A.slots.size) :=
  (law l a D fV fC b A z).pays htab hfr (by omega)
end New1
/-- the byte, read back as charAt reads it, is the char -/
theorem lo8_mask {x : Int32} (h0 : ¬ x < 0) (h1 : ¬ 255 < x) : lo8 x &&& 255 = x := by
  have t : ∀ k : Fin 256, lo8 (Int32.ofNat k.val) &&& 255 = Int32.ofNat k.val := by decide +kernel
  rw [Int32.lt_iff_toInt_lt] at h0 h1
  have e0 : (0 : Int32).toInt = 0 := rfl
  have e1 : (255 : Int32).toInt = 255 := rfl
  obtain ⟨k, hk⟩ : ∃ k : Nat, x.toInt = k := ⟨x.toInt.toNat, by omega⟩
  have hx : x = Int32.ofNat k := Int32.toInt_inj.mp (by rw [hk, Int32.toInt_ofNat_small (by omega)])
  rw [hx]
  exact t ⟨k, by omega⟩
end StrChars
namespace StrChars.Road
open Jvm Sem ClassFile Op Lib Jvm.Stand Jvm.Free Jvm.Free.XT
open Jvm.Lib.Cold (StaticIs)
abbrev ST : String := "java/lang/String"
/-- every table word that New1's law asks, flat -/
abbrev words : List Jvm.Cond := [.code New1.yN New1.yB 2 none, .initialized ST, .methodLink ST 27 New4.yN, .instanceMethod New4.yN,
  .code New4.yN New4.yB 6 none, .fieldLink ST 38 ST "COMPACT_STRINGS" "Z", .laysFinal ST ST "value" "[B", .fieldLink ST 9 ST "value" "[B", .laysFinal ST ST "coder" "B", .fieldLink ST 15 ST "coder" "B",
  .methodLink ST 1 Lib.objectInit, .instanceMethod Lib.objectInit, .code Lib.objectInit ⟨#[0xb1]⟩ 1 none, .methodLink ST 177 Cmp3.yN, .static Cmp3.yN, .methodLink ST 47 CodL.yN, .static CodL.yN,
  .code Cmp3.yN Cmp3.yB 6 (some (.array .byte)), .initialized U16, .arrayClass .byte, .methodLink U16 115 Cmp5.yN, .static Cmp5.yN, .code Cmp5.yN Cmp5.yB 7 (some .int), .code CodL.yN CodL.yB 2 (some .byte)]
theorem tab_of {a : Array Value} {s : State} (h : ∀ w ∈ words, w.before a s = true) : New1.tab.before a s = true := by
  have h5 : Cmp5.tab.before a s = true := unparts (wk h (.code Cmp5.yN Cmp5.yB 7 (some .int))) (wks h (.initialized Cmp5.yN.cls :: Cmp5.site))
  have hc : CodL.tab.before a s = true := unparts (wk h (.code CodL.yN CodL.yB 2 (some .byte))) (wks h (.initialized CodL.yN.cls :: CodL.site))
  have q5 : ∀ w ∈ Cmp5.tab :: words, w.before a s = true := fun w hw => (List.mem_cons.mp hw).elim (fun e => e ▸ h5) (h w)
  have h3 : Cmp3.tab.before a s = true := unparts (wk q5 (.code Cmp3.yN Cmp3.yB 6 (some (.array .byte)))) (wks q5 (.initialized Cmp3.yN.cls :: Cmp3.site))
  have q3 : ∀ w ∈ Cmp3.tab :: CodL.tab :: words, w.before a s = true := fun w hw => (List.mem_cons.mp hw).elim (fun e => e ▸ h3) fun hw => (List.mem_cons.mp hw).elim (fun e => e ▸ hc) (h w)
  have h4 : New4.tab.before a s = true := unparts (wk q3 (.code New4.yN New4.yB 6 none)) (wks q3 (.initialized New4.yN.cls :: New4.site))
  have q4 : ∀ w ∈ New4.tab :: words, w.before a s = true := fun w hw => (List.mem_cons.mp hw).elim (fun e => e ▸ h4) (h w)
  exact unparts (wk q4 (.code New1.yN New1.yB 2 none)) (wks q4 (.initialized New1.yN.cls :: New1.site))
/-- the words ride from the start Z to the walk's own state -/
theorem moved {Z s : State} {a0 args : Array Value} (hZ : Z.Warmed39 s.vm) (hw : ∀ d ∈ words, d.before a0 Z = true) : ∀ d ∈ words, d.before args s = true := fun d hd => by
  have q := hw d hd
  have t : ∀ d ∈ words, d = .arrayClass .byte ∨ (d.onTables && d.keepsFace) = true := by decide +kernel
  rcases t d hd with rfl | t
  · exact RoadKit.mvA hZ q
  · exact RoadKit.mv hZ q t
/-- WHAT COMES BACK, over the tables of the start Z: h the heap at the call, h' behind it -/
def Q (Z : State) (x : Addr) (A : Cell) (h : Heap) (v : Option Value) (h' : Heap) (L : List Loc) : Prop := v = none ∧ (∀ y ∈ L, y.base = x) ∧ RoadKit.Keep h h' [x] ∧ h'.size = h.size + 1 ∧ RoadKit.Exa Z h' x ST ∧ RoadKit.Fld Z h' x ST "value" "[B" (.ref h.size) ∧ RoadKit.Fld Z h' x ST "coder" "B" (.int 0) ∧
  (∃ V : Cell, RoadKit.Arr Z h' h.size V .byte ∧ V.vm = .none ∧ Z.vm.findClass "[B" = some V.cls ∧ V.slots.size = A.slots.size ∧ ∀ j, j < A.slots.size → V.slots[j]? = some (.int (lo8 (cv A j)))) ∧
  ∀ (O n d : String) (w : Value), RoadKit.Fld Z h x O n d w → RoadKit.slotOf Z O n d ≠ RoadKit.slotOf Z ST "value" "[B" → RoadKit.slotOf Z O n d ≠ RoadKit.slotOf Z ST "coder" "B" → RoadKit.Fld Z h' x O n d w
/-- **new String(chars) AT A CALL, IN THE ROAD'S FORM**: for specialBack behind newO: x the fresh String, b the char[] with the cell A -/
theorem back {p : Program} {l : Launch} {e : Env} {R : Room} {s : State} {args : Array Value} {below : List Frame} {len W : Nat} {Z : State} {a0 : Array Value} {h : Heap} (hZ : Z.Warmed39 s.vm) (hw : ∀ d ∈ words, d.before a0 Z = true) {kI : Nat} (wi : (Jvm.Cond.instantiable ST kI).before a0 Z = true)
    {x b : Addr} {A : Cell} {z : Int32} {v0 c0 : Value} (E : RoadKit.Exa Z h x ST) (V : RoadKit.Fld Z h x ST "value" "[B" v0) (C : RoadKit.Fld Z h x ST "coder" "B" c0) (K : RoadKit.Arr Z h b A .char) (hty : Typed .char A) (S : RoadKit.Sta Z h ST "COMPACT_STRINGS" "Z" (.int z)) (hz : ¬ z = 0)
    (l0 : 0 < A.slots.size) (l2 : A.slots.size ≤ 536870912) (hp : ∀ i, i < A.slots.size → ¬ 255 < cv A i) (hfr : 4 ≤ R.frames) (hlo : W + 65 ≤ R.locals) :
    Back l R p e below s args New1.yN len W (fun P a => a = #[.ref x, .ref b] ∧ P.U.heap = h ∧ P.cells + 1 ≤ R.cells ∧ P.slots + A.slots.size ≤ R.slots)
      (fun P _ v B => ∃ L, Q Z x A h v B.U.heap L ∧ B.locs = P.locs ++ L ∧ B.cells = P.cells + 1 ∧ B.slots = P.slots + A.slots.size) := by
  intro m meth c P g ig mk a X hg hsize hdg hW hn hp'
  obtain ⟨rfl, rfl, r1, r2⟩ := hp'
  have al : Z.vm.Alike P.U.vm := hZ.alike.trans X.warmed.alike
  obtain ⟨D, cfV, kV, iV, fV, hD, gV, stV, knV, obV, asV, slV⟩ := id V
  obtain ⟨D', cfC, kC, iC, fC, hD', gC, stC, -, -, asC, slC⟩ := id C
  cases hD.symm.trans hD'
  obtain ⟨D2, kD, e1, e2, e3, e4, e5⟩ := id E
  cases hD.symm.trans e1
  obtain ⟨c2, k2, i1, i2, i3, -⟩ := Cond.instantiable_spec wi
  cases e2.symm.trans i1
  cases e3.symm.trans i2
  obtain ⟨kU, u1, u2⟩ := al.2.2 _ _ e3
  have hB : Blank ST x D P.U := ⟨hD, ⟨knV, fun q hq => by rw [hq] at obV; cases obV⟩, by rw [al.findClass]; exact e2, kU, u1, by rw [u2]; exact i3, by rw [u2]; exact e5 i3⟩
  have F1 : Found ST "value" "[B" fV P.U := ⟨SBG.found_only al ⟨cfV, kV, iV, gV⟩, stV⟩
  have F2 : Found ST "coder" "B" fC P.U := ⟨SBG.found_only al ⟨cfC, kC, iC, gC⟩, stC⟩
  have hA : Ch b A P.U := ⟨⟨K.1, State.isArrayOf_alike al K.2.1, K.2.2, by omega⟩, hty⟩
  have hS : StaticIs P.U ST "COMPACT_STRINGS" "Z" (.int z) := by
    obtain ⟨cfS, iS, kS, fS, st, cS, t1, t2, t3, t4, t5, t6, t7⟩ := S
    exact StaticIs.there (s := { Z with heap := P.U.heap }) ⟨cfS, iS, kS, fS, st, cS, t1, t2, t3, t4, t5, (fun q => by rw [q] at t6; cases t6), t7⟩ al rfl
  obtain ⟨v, B, X', ⟨⟨hv, E', V', q1, q2, q3, q4, q5, q6, q7, q8, q9, q10, q11⟩, hl, hc, hs⟩, st⟩ := New1.pays x D fV fC b A z (tab_of (moved hZ hw)) hfr hlo m meth c P g ig mk _ X hg hsize hdg hW hn ⟨r1, r2, rfl, hB, F1, F2, hA, hS, hz, l0, l2, hp⟩
  have al' : Z.vm.Alike B.U.vm := hZ.alike.trans X'.warmed.alike
  have hsz : E'.slots.size = D.slots.size := by
    obtain ⟨-, -, -, kB, w1, w2, w3⟩ := q1
    obtain ⟨kB', y1, y2⟩ := al'.2.2 _ _ e3
    rw [q2.2.1] at w1
    cases w1.symm.trans y1
    rw [w3, e5 i3, y2]
  refine ⟨v, B, X', ⟨_, ⟨hv, ?_, ⟨by omega, fun y cy hy hn' => q10 y cy (by simpa using hn') hy, fun y cy hy => ?_⟩, q11, ⟨E', _, q1.1, by rw [q2.2.1]; exact e2, by rw [q2.2.1]; exact e3, by rw [q2.1]; exact obV, fun _ => by rw [hsz]; exact e5 i3⟩,
    ⟨E', cfV, kV, iV, fV, q1.1, gV, stV, by rw [q2.1]; exact knV, by rw [q2.1]; exact obV, by rw [q2.2.1]; exact asV, q3⟩, ⟨E', cfC, kC, iC, fC, q1.1, gC, stC, by rw [q2.1]; exact knV, by rw [q2.1]; exact obV, by rw [q2.2.1]; exact asC, q4⟩,
    ⟨V', ⟨q5.1, State.isArrayOf_alike al'.symm q5.2.1, q5.2.2.1⟩, q6, by rw [← al'.findClass]; exact q7, q8, fun j hj => by have := q9 j hj; rwa [Nat.zero_add] at this⟩, fun O n d w F n1 n2 => ?_⟩, hl, hc, hs⟩, st⟩
  · intro y hy
    simp only [List.mem_cons, List.not_mem_nil, or_false] at hy
    rcases hy with rfl | rfl <;> rfl
  · by_cases q : y = x
    · subst q
      cases hD.symm.trans hy
      exact ⟨E', q1.1, q2.2.1, q2.1, hsz⟩
    · exact ⟨cy, q10 y cy q hy, rfl, rfl, rfl⟩
  · obtain ⟨D3, cf, k, i, f, g1, g2, g3, g4, g5, g6, g7⟩ := F
    cases hD.symm.trans g1
    simp only [RoadKit.slotOf, g2, gV, gC, Option.map_some, Option.getD_some] at n1 n2
    exact ⟨E', cf, k, i, f, q1.1, g2, g3, by rw [q2.1]; exact g4, by rw [q2.1]; exact g5, by rw [q2.2.1]; exact g6, by rw [q2.2.2 f.slot (by simp [n1, n2])]; exact g7⟩
end StrChars.Road
namespace StrChars.Road
open Jvm Sem ClassFile Op Lib Jvm.Stand Jvm.Free Jvm.Free.XT
/-- WHAT COMES BACK, the byte[] as a list of values -/
def QA (Z : State) (x : Addr) (zn : Int32) (cs : List Int32) (h : Heap) (v : Option Value) (h' : Heap) (L : List Loc) : Prop := v = none ∧ (∀ y ∈ L, y.base = x) ∧ RoadKit.Keep h h' [x] ∧ h'.size = h.size + 1 ∧ RoadKit.Exa Z h' x ST ∧ RoadKit.Fld Z h' x ST "value" "[B" (.ref h.size) ∧ RoadKit.Fld Z h' x ST "coder" "B" (.int 0) ∧
  (∃ kb, Z.vm.findClass "[B" = some kb ∧ RoadKit.Arv Z h' h.size kb .byte zn (cs.map fun c => .int (lo8 c)) (.int 0)) ∧
  ∀ (O n d : String) (w : Value), RoadKit.Fld Z h x O n d w → RoadKit.slotOf Z O n d ≠ RoadKit.slotOf Z ST "value" "[B" → RoadKit.slotOf Z O n d ≠ RoadKit.slotOf Z ST "coder" "B" → RoadKit.Fld Z h' x O n d w
/-- **new String(chars) AT A CALL, THE ARRAYS AS LISTS**: the char[] at b holds cs, not empty, no char above 255 -/
theorem backArv {p : Program} {l : Launch} {e : Env} {R : Room} {s : State} {args : Array Value} {below : List Frame} {len W : Nat} {Z : State} {a0 : Array Value} {h : Heap} (hZ : Z.Warmed39 s.vm) (hw : ∀ d ∈ words, d.before a0 Z = true) {kI : Nat} (wi : (Jvm.Cond.instantiable ST kI).before a0 Z = true)
    {x b : Addr} {k : ClassId} {zn z : Int32} {cs : List Int32} {dv v0 c0 : Value} (E : RoadKit.Exa Z h x ST) (V : RoadKit.Fld Z h x ST "value" "[B" v0) (C : RoadKit.Fld Z h x ST "coder" "B" c0) (K : RoadKit.Arv Z h b k .char zn (cs.map Value.int) dv) (S : RoadKit.Sta Z h ST "COMPACT_STRINGS" "Z" (.int z)) (hz : ¬ z = 0)
    (hlen : zn.toNatClampNeg = cs.length) (h0 : 0 < cs.length) (hbig : cs.length ≤ 536870912) (hall : ∀ c ∈ cs, ¬ 255 < c) (hfr : 4 ≤ R.frames) (hlo : W + 65 ≤ R.locals) :
    Back l R p e below s args New1.yN len W (fun P a => a = #[.ref x, .ref b] ∧ P.U.heap = h ∧ P.cells + 1 ≤ R.cells ∧ P.slots + cs.length ≤ R.slots)
      (fun P _ v B => ∃ L, QA Z x zn cs h v B.U.heap L ∧ B.locs = P.locs ++ L ∧ B.cells = P.cells + 1 ∧ B.slots = P.slots + cs.length) := by
  obtain ⟨A, K1, K2, K3, K4, K5, K6⟩ := K
  have e : A.slots.size = cs.length := K3.trans hlen
  have hat : ∀ (i : Nat) (hi : i < cs.length), A.slots[i]? = some (.int cs[i]) := fun i hi => by rw [K5 i (by omega)]; simp [List.getD_eq_getElem?_getD, hi]
  have hcv : ∀ (i : Nat) (hi : i < cs.length), cv A i = cs[i] := fun i hi => by unfold cv; rw [hat i hi]
  have hty : Typed .char A := fun i v hv => by
    have hi : i < A.slots.size := (Array.getElem?_eq_some_iff.mp hv).1
    have q := K5 i hi
    rw [hv] at q
    rw [Option.some.inj q]
    exact K6 i hi
  refine Back.mono (back hZ hw wi E V C K1 hty S hz (by omega) (by omega) (fun i hi => by rw [hcv i (by omega)]; exact hall _ (List.getElem_mem _)) hfr hlo) (fun P a hp => ⟨hp.1, hp.2.1, hp.2.2.1, by rw [e]; exact hp.2.2.2⟩) (fun P a v B hp hq => ?_)
  obtain ⟨L, ⟨q1, q2, q3, q4, q5, q6, q7, ⟨V', v1, v2, v3, v4, v5⟩, q9⟩, hl, hc, hs⟩ := hq
  refine ⟨L, ⟨q1, q2, q3, q4, q5, q6, q7, ⟨V'.cls, v3, V', v1, rfl, by rw [v4, e, hlen], K4, fun i hi => ?_, fun i hi => ?_⟩, q9⟩, hl, hc, by rw [hs, e]⟩
  · have hi' : i < cs.length := by omega
    rw [v5 i (by omega), hcv i hi']; simp [List.getD_eq_getElem?_getD, hi']
  · have hi' : i < cs.length := by omega
    simp only [List.getD_eq_getElem?_getD, List.getElem?_map, List.getElem?_eq_getElem hi', Option.map_some, Option.getD_some]
    exact fits_lo8 _
end StrChars.Road
namespace StrChars.Road
open Jvm Sem ClassFile Op Lib Jvm.Stand Jvm.Free Jvm.Free.XT
/-- WHAT COMES BACK, in the writer's own shape -/
def QV (Z : State) (x : Addr) (N : Int32) (bs : List Int32) (h : Heap) (n0 : Nat) (v : Option Value) (h' : Heap) (L : List Loc) : Prop := v = none ∧ RoadKit.Fr n0 L ∧ RoadKit.Keep h h' [x] ∧ RoadKit.Exa Z h' x ST ∧ RoadKit.Fld Z h' x ST "coder" "B" (.int 0) ∧
  ∃ (t : Addr) (kb : ClassId), n0 ≤ t ∧ h.size ≤ t ∧ ¬ t = x ∧ RoadKit.Fld Z h' x ST "value" "[B" (.ref t) ∧ RoadKit.Arv Z h' t kb .byte N (bs.map Value.int) (.int 0)
/-- **new String(chars) AT A CALL, FOR THE WRITER**: a char[] of n known ints, each 0 to 255 -/
theorem backV {p : Program} {l : Launch} {e : Env} {R : Room} {s : State} {args : Array Value} {below : List Frame} {len W : Nat} {Z : State} {a0 : Array Value} {h : Heap} (hZ : Z.Warmed39 s.vm) (hw : ∀ d ∈ words, d.before a0 Z = true) {kI : Nat} (wi : (Jvm.Cond.instantiable ST kI).before a0 Z = true)
    {x b : Addr} {kC : ClassId} {cs bs : List Int32} {d v0 c0 : Value} {z N : Int32} {n n0 : Nat} (hx0 : n0 ≤ x) (hh0 : n0 ≤ h.size) (E : RoadKit.Exa Z h x ST) (V : RoadKit.Fld Z h x ST "value" "[B" v0) (C : RoadKit.Fld Z h x ST "coder" "B" c0) (K : RoadKit.Arv Z h b kC .char N (cs.map Value.int) d) (S : RoadKit.Sta Z h ST "COMPACT_STRINGS" "Z" (.int z)) (hz : ¬ z = 0)
    (hn : cs.length = n) (hN : N = Int32.ofNat n) (l0 : 0 < n) (l2 : n ≤ 4000) (hp : ∀ c ∈ cs, ¬ c < 0 ∧ ¬ (255 : Int32) < c) (hb : bs = cs.map (fun c => c.toInt8.toInt32)) (hfr : 4 ≤ R.frames) (hlo : W + 65 ≤ R.locals) :
    Back l R p e below s args (⟨"java/lang/String", "<init>", "([C)V"⟩ : MethodName) len W (fun P a => a = #[.ref x, .ref b] ∧ P.U.heap = h ∧ P.cells + 1 ≤ R.cells ∧ P.slots + n ≤ R.slots)
      (fun P _ v B => ∃ L, QV Z x N bs h n0 v B.U.heap L ∧ B.locs = P.locs ++ L ∧ B.cells = P.cells + 1 ∧ B.slots = P.slots + n) := by
  subst hn hN hb
  refine Back.mono (backArv hZ hw wi E V C K S hz (n32 (by omega)) l0 (by omega) (fun c hc => (hp c hc).2) hfr hlo) (fun P a hp => hp) (fun P a v B hp hq => ?_)
  obtain ⟨L, ⟨q1, q2, q3, q4, q5, q6, q7, ⟨kb, v1, v2⟩, q9⟩, hl, hc, hs⟩ := hq
  exact ⟨L, ⟨q1, fun y hy => by rw [q2 y hy]; exact hx0, q3, q5, q7, h.size, kb, hh0, Nat.le_refl _, Nat.ne_of_gt E.lt, q6, by rw [List.map_map]; exact v2⟩, hl, hc, hs⟩
end StrChars.Road
namespace StrChars
open Jvm Sem ClassFile Op Lib Jvm.Stand Jvm.Free.XT Jvm.Free.ALB Jvm.Free.JM Jvm.Free
open Jvm.Lib.Cold (StaticIs)
def hi8 (x : Int32) : Int32 := lo8 (x >>> ((8 : Int32) &&& 31))
/-- what StringUTF16.getChar makes of two bytes -/
def pairCh (u v : Int32) : Int32 := (((u &&& 255) <<< ((0 : Int32) &&& 31)) ||| ((v &&& 255) <<< ((8 : Int32) &&& 31))).toUInt32.toUInt16.toUInt32.toInt32
theorem shr0 (c : Int32) : c >>> ((0 : Int32) &&& 31) = c := by
  have e : ((0 : Int32) &&& 31) = 0 := by decide
  rw [e]
  apply Int32.toBitVec_inj.mp
  rw [Int32.toBitVec_shiftRight]
  have e1 : ((0 : Int32).toBitVec.smod 32) = 0#32 := by decide
  rw [e1, BitVec.sshiftRight_eq']
  exact BitVec.sshiftRight_zero
theorem lo8_and (x : Int32) : (lo8 x &&& 255).toBitVec.toNat = x.toBitVec.toNat % 256 := by
  have h : (lo8 x).toBitVec = (x.toBitVec.signExtend 8).signExtend 32 := by rw [lo8, Int8.toBitVec_toInt32, Int32.toBitVec_toInt8]
  rw [Int32.toBitVec_and, BitVec.toNat_and, h]
  have e : ((x.toBitVec.signExtend 8).signExtend 32).toNat % 256 = x.toBitVec.toNat % 256 := by
    rw [BitVec.toNat_signExtend]
    have hlt := x.toBitVec.isLt
    simp only [BitVec.toNat_setWidth, BitVec.toNat_signExtend]
    split <;> split <;> omega
  rw [← e]
  exact Nat.and_two_pow_sub_one_eq_mod _ 8
theorem pair_says {c : Int32} (h0 : ¬ c < 0) (h1 : ¬ 65535 < c) : pairCh (lo8 c) (hi8 c) = c := by
  rw [Int32.lt_iff_toInt_lt] at h0 h1
  have e0 : (0 : Int32).toInt = 0 := rfl
  have e1 : (65535 : Int32).toInt = 65535 := rfl
  have hc : c.toInt = c.toBitVec.toNat := by
    have := c.toBitVec.isLt
    have e : c.toInt = c.toBitVec.toInt := rfl
    rw [e] at h0 h1
    rw [e]
    rw [BitVec.toInt_eq_toNat_cond] at h0 h1 ⊢
    split at h0 <;> split <;> omega
  have hn : c.toBitVec.toNat < 65536 := by omega
  have a1 := lo8_and c
  have a2 : (hi8 c &&& 255).toBitVec.toNat = c.toBitVec.toNat / 256 := by
    rw [hi8, lo8_and]
    have e : ((8 : Int32) &&& 31) = 8 := by decide
    rw [e, Int32.toBitVec_shiftRight]
    have e2 : ((8 : Int32).toBitVec.smod 32) = 8#32 := by decide
    rw [e2, BitVec.sshiftRight_eq', BitVec.toNat_sshiftRight_of_msb_false (by rw [BitVec.msb_eq_false_iff_two_mul_lt]; omega)]
    show c.toBitVec.toNat >>> 8 % 256 = _
    rw [Nat.shiftRight_eq_div_pow]
    omega
  unfold pairCh
  apply Int32.toBitVec_inj.mp
  apply BitVec.eq_of_toNat_eq
  have f0 : ((0 : Int32) &&& 31) = 0 := by decide
  have f8 : ((8 : Int32) &&& 31) = 8 := by decide
  rw [f0, f8]
  have g : (((lo8 c &&& 255) <<< (0 : Int32)) ||| ((hi8 c &&& 255) <<< (8 : Int32))).toBitVec.toNat = c.toBitVec.toNat := by
    rw [Int32.toBitVec_or, Int32.toBitVec_shiftLeft, Int32.toBitVec_shiftLeft]
    have s0 : ((0 : Int32).toBitVec.smod 32) = 0#32 := by decide
    have s8 : ((8 : Int32).toBitVec.smod 32) = 8#32 := by decide
    rw [s0, s8, BitVec.toNat_or]
    simp only [BitVec.shiftLeft_eq', BitVec.toNat_shiftLeft, a1, a2]
    show (c.toBitVec.toNat % 256) <<< 0 % 2 ^ 32 ||| (c.toBitVec.toNat / 256) <<< 8 % 2 ^ 32 = _
    rw [Nat.shiftLeft_zero, Nat.mod_eq_of_lt (show c.toBitVec.toNat % 256 < 2 ^ 32 by omega), Nat.mod_eq_of_lt (show (c.toBitVec.toNat / 256) <<< 8 < 2 ^ 32 by rw [Nat.shiftLeft_eq]; omega), Nat.or_comm, ← Nat.shiftLeft_add_eq_or_of_lt (by omega), Nat.shiftLeft_eq]
    omega
  show BitVec.toNat (((((lo8 c &&& 255) <<< (0 : Int32)) ||| ((hi8 c &&& 255) <<< (8 : Int32))).toBitVec.setWidth 16).setWidth 32) = _
  rw [BitVec.toNat_setWidth, BitVec.toNat_setWidth, g]
  omega
end StrChars
namespace StrChars
open Jvm Sem ClassFile Op Lib Jvm.Stand Jvm.Free.XT Jvm.Free.ALB Jvm.Free.JM Jvm.Free
open Jvm.Lib.Cold (StaticIs)
theorem shr1 {n : Nat} (h : 2 * n < 2 ^ 31) : Int32.ofNat (2 * n) >>> ((1 : Int32) &&& 31) = Int32.ofNat n := by
  have e : ((1 : Int32) &&& 31) = 1 := by decide
  rw [e]
  apply Int32.toBitVec_inj.mp
  rw [Int32.toBitVec_shiftRight]
  have e1 : ((1 : Int32).toBitVec.smod 32) = 1#32 := by decide
  have hm : (BitVec.ofNat 32 (2 * n)).toNat = 2 * n := by rw [BitVec.toNat_ofNat, Nat.mod_eq_of_lt (by omega)]
  rw [e1, BitVec.sshiftRight_eq']
  apply BitVec.eq_of_toNat_eq
  show ((BitVec.ofNat 32 (2 * n)).sshiftRight 1).toNat = (BitVec.ofNat 32 n).toNat
  rw [BitVec.toNat_sshiftRight_of_msb_false (by rw [BitVec.msb_eq_false_iff_two_mul_lt, hm]; omega), hm, BitVec.toNat_ofNat, Nat.shiftRight_eq_div_pow]
  omega
/-- charAt's cast of a byte read back -/
def chr8 (u : Int32) : Int32 := (u &&& 255).toUInt32.toUInt16.toUInt32.toInt32
theorem chr8_lo8 {c : Int32} (h0 : ¬ c < 0) (h1 : ¬ 255 < c) : chr8 (lo8 c) = c := by
  have t : ∀ k : Fin 256, (Int32.ofNat k.val).toUInt32.toUInt16.toUInt32.toInt32 = Int32.ofNat k.val := by decide +kernel
  unfold chr8
  rw [lo8_mask h0 h1]
  rw [Int32.lt_iff_toInt_lt] at h0 h1
  have e0 : (0 : Int32).toInt = 0 := rfl
  have e1 : (255 : Int32).toInt = 255 := rfl
  obtain ⟨k, hk⟩ : ∃ k : Nat, c.toInt = k := ⟨c.toInt.toNat, by omega⟩
  have hx : c = Int32.ofNat k := Int32.toInt_inj.mp (by rw [hk, Int32.toInt_ofNat_small (by omega)])
  rw [hx]
  exact t ⟨k, by omega⟩
theorem narrow_ch {c : Int32} (h0 : ¬ c < 0) (h1 : ¬ 65535 < c) : narrow .char (.int c) = .int c := by
  have q : narrow .char (.int (pairCh (lo8 c) (hi8 c))) = .int (pairCh (lo8 c) (hi8 c)) := narrow_c _
  rwa [pair_says h0 h1] at q
/-- the array's cell V codes the n chars f 0 .. f (n - 1) by the coder cd, as the JDK does: coder 1 just where some char is above 255 -/
def Cod (cd : Int32) (n : Nat) (f : Nat → Int32) (V : Cell) : Prop := (cd = 0 ∧ V.slots.size = n ∧ ∀ j, j < n → V.slots[j]? = some (.int (lo8 (f j))) ∧ ¬ 255 < f j) ∨ (cd = 1 ∧ V.slots.size = 2 * n ∧ (∀ j, j < n → V.slots[2 * j]? = some (.int (lo8 (f j))) ∧ V.slots[2 * j + 1]? = some (.int (hi8 (f j)))) ∧ ∃ j, j < n ∧ 255 < f j)
theorem Cod.cd {cd : Int32} {n : Nat} {f : Nat → Int32} {V : Cell} (h : Cod cd n f V) : cd = 0 ∨ cd = 1 := h.imp (fun q => q.1) fun q => q.1
theorem Cod.len {cd : Int32} {n : Nat} {f : Nat → Int32} {V : Cell} (h : Cod cd n f V) (hs : V.slots.size < 2 ^ 31) : Int32.ofNat V.slots.size >>> (cd &&& 31) = Int32.ofNat n := by
  rcases h with ⟨rfl, h, -⟩ | ⟨rfl, h, -⟩
  · rw [shr0, h]
  · rw [h, shr1 (by omega)]
/-- **x is a String of the n chars f 0 .. f (n - 1)**, Latin-1 or UTF-16; its array at t has the cell V -/
def Txt (x t : Addr) (V : Cell) (cd : Int32) (n : Nat) (f : Nat → Int32) (U : State) : Prop := Exact "java/lang/String" x U ∧ Has x "java/lang/String" "value" "[B" (.ref t) U ∧ Has x "java/lang/String" "coder" "B" (.int cd) U ∧ XT.Arr .byte t V U ∧ Cod cd n f V ∧ ∀ j, j < n → ¬ f j < 0 ∧ ¬ 65535 < f j
theorem Txt.mv {x t : Addr} {V : Cell} {cd : Int32} {n : Nat} {f : Nat → Int32} {U U' : State} (h : Txt x t V cd n f U) (hal : U.vm.Alike U'.vm) (hh : U'.heap = U.heap) : Txt x t V cd n f U' := ⟨h.1.mv hal hh, h.2.1.mv hal hh, h.2.2.1.mv hal hh, h.2.2.2.1.mv hal hh, h.2.2.2.2⟩
namespace Cdr
def yN : MethodName := ⟨"java/lang/String", "coder", "()B"⟩
abbrev yB : ByteArray := jdk_42_method_152_code
theorem d0 : decode yB 0 = .ok (.getstatic 38, 3) := by decide +kernel
theorem d3 : decode yB 3 = .ok (.ifCond (.eq) 10, 3) := by decide +kernel
theorem d6 : decode yB 6 = .ok (.aload_n 0, 1) := by decide +kernel
theorem d7 : decode yB 7 = .ok (.getfield 15, 3) := by decide +kernel
theorem d10 : decode yB 10 = .ok (.goto 4, 3) := by decide +kernel
theorem d14 : decode yB 14 = .ok (.ireturn, 1) := by decide +kernel
def site : List Cond := [.fieldLink "java/lang/String" 38 "java/lang/String" "COMPACT_STRINGS" "Z", .fieldLink "java/lang/String" 15 "java/lang/String" "coder" "B"]
def tab : Cond := tabOf yN yB 1 (some .byte) site
def P (x : Addr) (cd z : Int32) (args : Array Value) (s : State) : Prop := args = #[.ref x] ∧ Has x "java/lang/String" "coder" "B" (.int cd) s ∧ (cd = 0 ∨ cd = 1) ∧ StaticIs s "java/lang/String" "COMPACT_STRINGS" "Z" (.int z) ∧ ¬ z = 0
def E (cd : Int32) (r : Option Value) (s u : State) : Prop := XT.PureE (some (.int cd)) r s u
theorem law (l : Launch) (x : Addr) (cd z : Int32) : Law l yN 1 0 0 0 yB 1 (some .byte) site (P x cd z) (E cd) [] 0 0 := by
  refine Law.of_walk (plainFor_of_name (by decide +kernel)) (by decide +kernel) (by decide +kernel) (by decide) (fun _ _ h => by rw [h.1]; rfl) (fun _ U U' hal hh h => ⟨h.1, h.2.1.mv hal hh, h.2.2.1, h.2.2.2.1.there hal hh, h.2.2.2.2⟩) (fun r U U' V V' h1 hal h2 h => XT.PureE.mv r U U' V V' h1 hal h2 h) ?_
  intro p e s m args below meth c s₁ X0 hexec hbytes hml hret hlk hnm hown hh0 W hP
  obtain ⟨rfl, hx, hc, s1, hz⟩ := hP
  have c1 : Steps p.tables e below (s₁.setTop (entryFrame m #[.ref x] 1)) (s₁.setTop (mkF m 0 #[.val (.ref x)] [])) := entry rfl
  obtain ⟨T2, X2, q2, st2⟩ := X0.sget hexec hown (wk W (.fieldLink "java/lang/String" 38 "java/lang/String" "COMPACT_STRINGS" "Z")) s1 (fun _ _ h => by rw [hh0]; exact h) (g := (mkF m 0 #[.val (.ref x)] [])) rfl (hb hbytes d0)
  have hh2 := q2.trans hh0
  have c3 : Steps p.tables e below (s₁.setTop (entryFrame m #[.ref x] 1)) (T2.setTop (mkF m 7 #[.val (.ref x)] [.ref x])) := (c1.trans (st2 _ (Steps.refl _))).trans (by
    refine XS.ifNo X2.here hexec rfl (hb hbytes d3) rfl (i0_eq_f hz) ?_
    refine XS.aloadN X2.here hexec rfl (hb hbytes d6) rfl rfl ?_
    exact Steps.refl _)
  obtain ⟨T4, X4, q4, st4⟩ := X2.hget hexec hown (wk W (.fieldLink "java/lang/String" 15 "java/lang/String" "coder" "B")) (hx.mv X2.warmed.alike hh2) (g := (mkF m 7 #[.val (.ref x)] [.ref x])) rfl (rest := []) rfl (hb hbytes d7)
  have c5 : Steps p.tables e below (s₁.setTop (entryFrame m #[.ref x] 1)) (T4.setTop (mkF m 14 #[.val (.ref x)] [.int cd])) := (c3.trans (st4 _ (Steps.refl _))).trans (by
    refine XS.goto X4.here hexec rfl (pc0 := 10) rfl (hb hbytes d10) (by decide) rfl ?_
    exact Steps.refl _)
  exact ⟨T4, some (.int cd), _, _, _, X4, rfl, rfl, rfl, (fun h => by cases h), ⟨rfl, q4.trans hh2⟩, fun fs hl => c5.trans (X4.ireturnOut hexec hret (by rcases hc with rfl | rfl <;> rfl) (Or.inr (Or.inr (Or.inl rfl))) (hb hbytes d14) hl)⟩
end Cdr
namespace Len
def yN : MethodName := ⟨"java/lang/String", "length", "()I"⟩
abbrev yB : ByteArray := jdk_42_method_54_code
theorem d0 : decode yB 0 = .ok (.aload_n 0, 1) := by decide +kernel
theorem d1 : decode yB 1 = .ok (.getfield 9, 3) := by decide +kernel
theorem d4 : decode yB 4 = .ok (.arraylength, 1) := by decide +kernel
theorem d5 : decode yB 5 = .ok (.aload_n 0, 1) := by decide +kernel
theorem d6 : decode yB 6 = .ok (.invokevirtual 335, 3) := by decide +kernel
theorem d9 : decode yB 9 = .ok (.ishr, 1) := by decide +kernel
theorem d10 : decode yB 10 = .ok (.ireturn, 1) := by decide +kernel
def site : List Cond := [.fieldLink "java/lang/String" 9 "java/lang/String" "value" "[B", Cdr.tab] ++ virtW "java/lang/String" 335 "java/lang/String" Cdr.yN Cdr.yN
def tab : Cond := tabOf yN yB 1 (some .int) site
def P (x t : Addr) (V : Cell) (cd : Int32) (n : Nat) (f : Nat → Int32) (z : Int32) (args : Array Value) (s : State) : Prop := args = #[.ref x] ∧ Txt x t V cd n f s ∧ StaticIs s "java/lang/String" "COMPACT_STRINGS" "Z" (.int z) ∧ ¬ z = 0
def E (n : Nat) (r : Option Value) (s u : State) : Prop := XT.PureE (some (.int (Int32.ofNat n))) r s u
/-- length() of a String of n chars, in either coding -/
theorem law (l : Launch) (x t : Addr) (V : Cell) (cd : Int32) (n : Nat) (f : Nat → Int32) (z : Int32) : Law l yN 1 0 1 13 yB 1 (some .int) site (P x t V cd n f z) (E n) [] 0 0 := by
  refine Law.of_walk (plainFor_of_name (by decide +kernel)) (by decide +kernel) (by decide +kernel) (by decide) (fun _ _ h => by rw [h.1]; rfl) (fun _ U U' hal hh h => ⟨h.1, h.2.1.mv hal hh, h.2.2.1.there hal hh, h.2.2.2⟩) (fun r U U' V V' h1 hal h2 h => XT.PureE.mv r U U' V V' h1 hal h2 h) ?_
  intro p e s m args below meth c s₁ X0 hexec hbytes hml hret hlk hnm hown hh0 W hP
  obtain ⟨rfl, hx, s1, hz⟩ := hP
  have v31 := hx.2.2.2.1.2.2.2
  have c1 : Steps p.tables e below (s₁.setTop (entryFrame m #[.ref x] 1)) (s₁.setTop (mkF m 1 #[.val (.ref x)] [.ref x])) := Steps.trans (entry rfl) (by
    show Steps p.tables e below (s₁.setTop (mkF m 0 #[.val (.ref x)] [])) _
    refine XS.aloadN X0.here hexec rfl (hb hbytes d0) rfl rfl ?_
    exact Steps.refl _)
  obtain ⟨T2, X2, q2, st2⟩ := X0.hget hexec hown (wk W (.fieldLink "java/lang/String" 9 "java/lang/String" "value" "[B")) (hx.mv X0.warmed.alike hh0).2.1 (g := (mkF m 1 #[.val (.ref x)] [.ref x])) rfl (rest := []) rfl (hb hbytes d1)
  have hh2 := q2.trans hh0
  have hx2 := hx.mv X2.warmed.alike hh2
  have c3 : Steps p.tables e below (s₁.setTop (entryFrame m #[.ref x] 1)) (T2.setTop (mkF m 6 #[.val (.ref x)] [.ref x, .int (Int32.ofNat V.slots.size)])) := (c1.trans (st2 _ (Steps.refl _))).trans (by
    refine X2.alen hexec hx2.2.2.2.1 rfl rfl (hb hbytes d4) ?_
    refine XS.aloadN X2.here hexec rfl (hb hbytes d5) rfl rfl ?_
    exact Steps.refl _)
  obtain ⟨v4, T4, X4, E4, g4⟩ := X2.callV hexec (Cdr.law l x cd z) hown (wks W (virtW "java/lang/String" 335 "java/lang/String" Cdr.yN Cdr.yN)) rfl (by decide) (wk W Cdr.tab) (W := 1) (Nat.le_of_ble_eq_true rfl) (Nat.le_of_ble_eq_true rfl) (Nat.le_refl _) (Nat.le_refl _) (hx2.1.fc X2.warmed.alike) hx2.1.is (g := (mkF m 6 #[.val (.ref x)] [.ref x, .int (Int32.ofNat V.slots.size)])) rfl (by rw [hml]; rfl) c3 (argsL := []) (rest := [.int (Int32.ofNat V.slots.size)]) rfl rfl (by show 2 * 0 + (1 + 0) ≤ _; decide) (hb hbytes d6) (⟨rfl, hx2.2.2.1, hx.2.2.2.2.1.cd, s1.there X2.warmed.alike hh2, hz⟩)
  obtain ⟨rfl, q4⟩ := E4
  have c5 : Steps p.tables e below (s₁.setTop (entryFrame m #[.ref x] 1)) (T4.setTop (mkF m 10 #[.val (.ref x)] [.int (Int32.ofNat V.slots.size >>> (cd &&& 31))])) := Steps.trans g4 (by
    refine ishr X4.here hexec rfl (hb hbytes d9) rfl ?_
    exact Steps.refl _)
  rw [hx.2.2.2.2.1.len v31] at c5
  exact ⟨T4, some (.int (Int32.ofNat n)), _, _, _, X4, rfl, rfl, rfl, (fun h => by cases h), ⟨rfl, q4.trans hh2⟩, fun fs hl => c5.trans (X4.ireturnOut hexec hret rfl (Or.inl rfl) (hb hbytes d10) hl)⟩
theorem pays {l : Launch} {R : Room} {p : Program} {e : Env} {below : List Frame} {s : State} {sargs : Array Value} {len W : Nat} (x t : Addr) (V : Cell) (cd : Int32) (n : Nat) (f : Nat → Int32) (z : Int32) (htab : tab.before sargs s = true) (hfr : 2 ≤ R.frames) (hlo : W + 25 ≤ R.locals) :
    Back l R p e below s sargs yN len W (fun A₁ a₁ => A₁.cells + 0 ≤ R.cells ∧ A₁.slots + 0 ≤ R.slots ∧ P x t V cd n f z a₁ A₁.U) (fun A₁ _ v₁ B₁ => E n v₁ A₁.U B₁.U ∧ B₁.locs = A₁.locs ++ [] ∧ B₁.cells = A₁.cells + 0 ∧ B₁.slots = A₁.slots + 0) :=
  (law l x t V cd n f z).pays htab hfr (by omega)
end Len
namespace IsL
def yN : MethodName := ⟨"java/lang/String", "isLatin1", "()Z"⟩
abbrev yB : ByteArray := jdk_42_method_154_code
theorem d0 : decode yB 0 = .ok (.getstatic 38, 3) := by decide +kernel
theorem d3 : decode yB 3 = .ok (.ifCond (.eq) 14, 3) := by decide +kernel
theorem d6 : decode yB 6 = .ok (.aload_n 0, 1) := by decide +kernel
theorem d7 : decode yB 7 = .ok (.getfield 15, 3) := by decide +kernel
theorem d10 : decode yB 10 = .ok (.ifCond (.ne) 7, 3) := by decide +kernel
theorem d13 : decode yB 13 = .ok (.iconst 1, 1) := by decide +kernel
theorem d14 : decode yB 14 = .ok (.goto 4, 3) := by decide +kernel
theorem d17 : decode yB 17 = .ok (.iconst 0, 1) := by decide +kernel
theorem d18 : decode yB 18 = .ok (.ireturn, 1) := by decide +kernel
def site : List Cond := [.fieldLink "java/lang/String" 38 "java/lang/String" "COMPACT_STRINGS" "Z", .fieldLink "java/lang/String" 15 "java/lang/String" "coder" "B"]
def tab : Cond := tabOf yN yB 1 (some .boolean) site
def P (x : Addr) (cd z : Int32) (args : Array Value) (s : State) : Prop := args = #[.ref x] ∧ Has x "java/lang/String" "coder" "B" (.int cd) s ∧ (cd = 0 ∨ cd = 1) ∧ StaticIs s "java/lang/String" "COMPACT_STRINGS" "Z" (.int z) ∧ ¬ z = 0
def E (cd : Int32) (r : Option Value) (s u : State) : Prop := XT.PureE (some (.int (1 - cd))) r s u
theorem law (l : Launch) (x : Addr) (cd z : Int32) : Law l yN 1 0 0 0 yB 1 (some .boolean) site (P x cd z) (E cd) [] 0 0 := by
  refine Law.of_walk (plainFor_of_name (by decide +kernel)) (by decide +kernel) (by decide +kernel) (by decide) (fun _ _ h => by rw [h.1]; rfl) (fun _ U U' hal hh h => ⟨h.1, h.2.1.mv hal hh, h.2.2.1, h.2.2.2.1.there hal hh, h.2.2.2.2⟩) (fun r U U' V V' h1 hal h2 h => XT.PureE.mv r U U' V V' h1 hal h2 h) ?_
  intro p e s m args below meth c s₁ X0 hexec hbytes hml hret hlk hnm hown hh0 W hP
  obtain ⟨rfl, hx, hc, s1, hz⟩ := hP
  have c1 : Steps p.tables e below (s₁.setTop (entryFrame m #[.ref x] 1)) (s₁.setTop (mkF m 0 #[.val (.ref x)] [])) := entry rfl
  obtain ⟨T2, X2, q2, st2⟩ := X0.sget hexec hown (wk W (.fieldLink "java/lang/String" 38 "java/lang/String" "COMPACT_STRINGS" "Z")) s1 (fun _ _ h => by rw [hh0]; exact h) (g := (mkF m 0 #[.val (.ref x)] [])) rfl (hb hbytes d0)
  have hh2 := q2.trans hh0
  have c3 : Steps p.tables e below (s₁.setTop (entryFrame m #[.ref x] 1)) (T2.setTop (mkF m 7 #[.val (.ref x)] [.ref x])) := (c1.trans (st2 _ (Steps.refl _))).trans (by
    refine XS.ifNo X2.here hexec rfl (hb hbytes d3) rfl (i0_eq_f hz) ?_
    refine XS.aloadN X2.here hexec rfl (hb hbytes d6) rfl rfl ?_
    exact Steps.refl _)
  obtain ⟨T4, X4, q4, st4⟩ := X2.hget hexec hown (wk W (.fieldLink "java/lang/String" 15 "java/lang/String" "coder" "B")) (hx.mv X2.warmed.alike hh2) (g := (mkF m 7 #[.val (.ref x)] [.ref x])) rfl (rest := []) rfl (hb hbytes d7)
  have c5 : Steps p.tables e below (s₁.setTop (entryFrame m #[.ref x] 1)) (T4.setTop (mkF m 10 #[.val (.ref x)] [.int cd])) := c3.trans (st4 _ (Steps.refl _))
  have c6 : Steps p.tables e below (s₁.setTop (entryFrame m #[.ref x] 1)) (T4.setTop (mkF m 18 #[.val (.ref x)] [.int (1 - cd)])) := by
    rcases hc with rfl | rfl
    · exact c5.trans (by
        refine XS.ifNo X4.here hexec rfl (hb hbytes d10) rfl (i0_ne_f rfl) ?_
        refine iconstV X4.here hexec rfl 1 (hb hbytes d13) (by decide) ?_
        refine XS.goto X4.here hexec rfl (pc0 := 14) rfl (hb hbytes d14) (by decide) rfl ?_
        exact Steps.refl _)
    · exact c5.trans (by
        refine XS.ifYes X4.here hexec rfl (pc0 := 10) rfl (hb hbytes d10) rfl (i0_ne_t (by decide)) (by decide) rfl ?_
        refine iconstV X4.here hexec rfl 0 (hb hbytes d17) (by decide) ?_
        exact Steps.refl _)
  exact ⟨T4, some (.int (1 - cd)), _, _, _, X4, rfl, rfl, rfl, (fun h => by cases h), ⟨rfl, q4.trans hh2⟩, fun fs hl => c6.trans (X4.ireturnOut hexec hret (by rcases hc with rfl | rfl <;> rfl) (Or.inr (Or.inl rfl)) (hb hbytes d18) hl)⟩
end IsL
namespace LChA
def yN : MethodName := ⟨"java/lang/StringLatin1", "charAt", "([BI)C"⟩
abbrev yB : ByteArray := jdk_43_method_2_code
theorem d0 : decode yB 0 = .ok (.iload_n 1, 1) := by decide +kernel
theorem d1 : decode yB 1 = .ok (.aload_n 0, 1) := by decide +kernel
theorem d2 : decode yB 2 = .ok (.arraylength, 1) := by decide +kernel
theorem d3 : decode yB 3 = .ok (.invokestatic 9, 3) := by decide +kernel
theorem d6 : decode yB 6 = .ok (.aload_n 0, 1) := by decide +kernel
theorem d7 : decode yB 7 = .ok (.iload_n 1, 1) := by decide +kernel
theorem d8 : decode yB 8 = .ok (.baload, 1) := by decide +kernel
theorem d9 : decode yB 9 = .ok (.sipush 255, 3) := by decide +kernel
theorem d12 : decode yB 12 = .ok (.iand, 1) := by decide +kernel
theorem d13 : decode yB 13 = .ok (.i2c, 1) := by decide +kernel
theorem d14 : decode yB 14 = .ok (.ireturn, 1) := by decide +kernel
def site : List Cond := [JO.Str_checkIndex.tab] ++ staticW "java/lang/StringLatin1" 9 JO.Str_checkIndex.yN
def tab : Cond := tabOf yN yB 2 (some .char) site
def P (t : Addr) (V : Cell) (i : Nat) (u : Int32) (fm : Value) (args : Array Value) (s : State) : Prop := args = #[.ref t, .int (Int32.ofNat i)] ∧ XT.Arr .byte t V s ∧ V.slots[i]? = some (.int u) ∧ (StaticIs s "jdk/internal/util/Preconditions" "SIOOBE_FORMATTER" "Ljava/util/function/BiFunction;" fm ∧ fm.isRef = true)
def E (u : Int32) (r : Option Value) (s w : State) : Prop := XT.PureE (some (.int (chr8 u))) r s w
theorem law (l : Launch) (t : Addr) (V : Cell) (i : Nat) (u : Int32) (fm : Value) : Law l yN 2 2 2 27 yB 2 (some .char) site (P t V i u fm) (E u) [] 0 0 := by
  refine Law.of_walk (plainFor_of_name (by decide +kernel)) (by decide +kernel) (by decide +kernel) (by decide) (fun _ _ h => by rw [h.1]; rfl) (fun _ U U' hal hh h => ⟨h.1, h.2.1.mv hal hh, h.2.2.1, h.2.2.2.1.there hal hh, h.2.2.2.2⟩) (fun r U U' V V' h1 hal h2 h => XT.PureE.mv r U U' V V' h1 hal h2 h) ?_
  intro p e s m args below meth c s₁ X0 hexec hbytes hml hret hlk hnm hown hh0 W hP
  obtain ⟨rfl, hV, hu, s1, rf⟩ := hP
  have v31 := hV.2.2.2
  have hi : i < V.slots.size := (Array.getElem?_eq_some_iff.mp hu).1
  have c1 : Steps p.tables e below (s₁.setTop (entryFrame m #[.ref t, .int (Int32.ofNat i)] 2)) (s₁.setTop (mkF m 0 #[.val (.ref t), .val (.int (Int32.ofNat i))] [])) := entry rfl
  have c2 : Steps p.tables e below (s₁.setTop (entryFrame m #[.ref t, .int (Int32.ofNat i)] 2)) (s₁.setTop (mkF m 3 #[.val (.ref t), .val (.int (Int32.ofNat i))] [.int (Int32.ofNat V.slots.size), .int (Int32.ofNat i)])) := c1.trans (by
    refine XS.iloadN X0.here hexec rfl (hb hbytes d0) rfl ?_
    refine XS.aloadN X0.here hexec rfl (hb hbytes d1) rfl rfl ?_
    refine X0.alen hexec (hV.mv X0.warmed.alike hh0) rfl rfl (hb hbytes d2) ?_
    exact Steps.refl _)
  obtain ⟨v3, T3, X3, E3, g3⟩ := X0.callS hexec (JO.Str_checkIndex.law l (Int32.ofNat i) (Int32.ofNat V.slots.size) fm) hown (wks W (staticW "java/lang/StringLatin1" 9 JO.Str_checkIndex.yN)) (wk W JO.Str_checkIndex.tab) (W := 0) (Nat.le_of_ble_eq_true rfl) (Nat.le_of_ble_eq_true rfl) (Nat.le_refl _) (Nat.le_refl _) (g := (mkF m 3 #[.val (.ref t), .val (.int (Int32.ofNat i))] [.int (Int32.ofNat V.slots.size), .int (Int32.ofNat i)])) rfl (by rw [hml]; rfl) c2 (argsL := [.int (Int32.ofNat i), .int (Int32.ofNat V.slots.size)]) (rest := []) rfl rfl (by show 2 * 0 + 0 ≤ _; decide) (hb hbytes d3) (⟨rfl, rf, s1.there X0.warmed.alike hh0, Int32.ofNat_not_neg (by omega), lt32 v31 hi⟩)
  obtain ⟨rfl, q3⟩ := E3
  have hh3 := q3.trans hh0
  have c4 : Steps p.tables e below (s₁.setTop (entryFrame m #[.ref t, .int (Int32.ofNat i)] 2)) (T3.setTop (mkF m 14 #[.val (.ref t), .val (.int (Int32.ofNat i))] [.int (chr8 u)])) := Steps.trans g3 (by
    refine XS.aloadN X3.here hexec rfl (hb hbytes d6) rfl rfl ?_
    refine XS.iloadN X3.here hexec rfl (hb hbytes d7) rfl ?_
    refine X3.aget hexec (hV.mv X3.warmed.alike hh3) rfl hu rfl rfl (hb hbytes d8) ?_
    refine sipushV X3.here hexec rfl 255 (hb hbytes d9) (by decide) ?_
    refine XS.iand X3.here hexec rfl (hb hbytes d12) rfl ?_
    refine i2c X3.here hexec rfl (hb hbytes d13) rfl ?_
    exact Steps.refl _)
  exact ⟨T3, some (.int (chr8 u)), _, _, _, X3, rfl, rfl, rfl, (fun h => by cases h), ⟨rfl, hh3⟩, fun fs hl => c4.trans (X3.ireturnOut hexec hret (narrow_c _) (Or.inr (Or.inr (Or.inr (Or.inl rfl)))) (hb hbytes d14) hl)⟩
end LChA
end StrChars
namespace StrChars.Road
open Jvm Sem ClassFile Op Lib Jvm.Stand Jvm.Free Jvm.Free.XT
open Jvm.Lib.Cold (StaticIs)
theorem consq {a : Array Value} {s : State} {c : Jvm.Cond} {L : List Jvm.Cond} (h0 : c.before a s = true) (h : ∀ w ∈ L, w.before a s = true) : ∀ w ∈ c :: L, w.before a s = true := fun w hw => (List.mem_cons.mp hw).elim (fun e => e ▸ h0) (h w)
/-- the words of String.length(), either coding -/
abbrev wordsLen : List Jvm.Cond := [.code Len.yN Len.yB 1 (some .int), .initialized ST, .fieldLink ST 9 ST "value" "[B", .fieldLink ST 38 ST "COMPACT_STRINGS" "Z", .fieldLink ST 15 ST "coder" "B", .code Cdr.yN Cdr.yB 1 (some .byte), .methodLink ST 335 Cdr.yN, .declares Cdr.yN, .selects ST Cdr.yN Cdr.yN, .instanceMethod Cdr.yN]
theorem tabLen_of {a : Array Value} {s : State} (h : ∀ w ∈ wordsLen, w.before a s = true) : Len.tab.before a s = true := by
  have hc : Cdr.tab.before a s = true := unparts (wk h (.code Cdr.yN Cdr.yB 1 (some .byte))) (wks h (.initialized Cdr.yN.cls :: Cdr.site))
  have q := consq hc h
  exact unparts (wk q (.code Len.yN Len.yB 1 (some .int))) (wks q (.initialized Len.yN.cls :: Len.site))
theorem movedLen {Z s : State} {a0 args : Array Value} (hZ : Z.Warmed39 s.vm) (hw : ∀ d ∈ wordsLen, d.before a0 Z = true) : ∀ d ∈ wordsLen, d.before args s = true := fun d hd => by
  have q := hw d hd
  have t : ∀ d ∈ wordsLen, d = .arrayClass .byte ∨ (d.onTables && d.keepsFace) = true := by decide +kernel
  rcases t d hd with rfl | t
  · exact RoadKit.mvA hZ q
  · exact RoadKit.mv hZ q t
/-- the bytes of the chars cs, low before high -/
def wideBytes : List Int32 → List Value
  | [] => []
  | c :: cs => .int (lo8 c) :: .int (hi8 c) :: wideBytes cs
theorem wide_lo (d : Value) : ∀ (cs : List Int32) (j : Nat), j < cs.length → (wideBytes cs).getD (2 * j) d = .int (lo8 (cs.getD j 0))
  | [], j, h => absurd h (Nat.not_lt_zero j)
  | c :: cs, 0, _ => rfl
  | c :: cs, j + 1, h => by
    have q := wide_lo d cs j (by simpa using h)
    rw [show 2 * (j + 1) = 2 * j + 1 + 1 from by omega]
    simpa [wideBytes] using q
theorem wide_hi (d : Value) : ∀ (cs : List Int32) (j : Nat), j < cs.length → (wideBytes cs).getD (2 * j + 1) d = .int (hi8 (cs.getD j 0))
  | [], j, h => absurd h (Nat.not_lt_zero j)
  | c :: cs, 0, _ => rfl
  | c :: cs, j + 1, h => by
    have q := wide_hi d cs j (by simpa using h)
    rw [show 2 * (j + 1) + 1 = 2 * j + 1 + 1 + 1 from by omega]
    simpa [wideBytes] using q
theorem low_at (d : Value) (cs : List Int32) (j : Nat) (h : j < cs.length) : (cs.map fun c => Value.int (lo8 c)).getD j d = .int (lo8 (cs.getD j 0)) := by
  simp [List.getD_eq_getElem?_getD, h]
/-- an array of N2 bytes vs codes the chars cs by the coder cd -/
def CodA (cs : List Int32) (cd N2 : Int32) (vs : List Value) : Prop := (cd = 0 ∧ N2 = Int32.ofNat cs.length ∧ vs = (cs.map fun c => Value.int (lo8 c)) ∧ ∀ c ∈ cs, ¬ 255 < c) ∨ (cd = 1 ∧ N2 = Int32.ofNat (2 * cs.length) ∧ vs = wideBytes cs ∧ ∃ c ∈ cs, 255 < c)
theorem CodA.cod {cs : List Int32} {cd N2 : Int32} {vs : List Value} {V : Cell} (h : CodA cs cd N2 vs) (hn : 2 * cs.length < 2 ^ 31) (hs : V.slots.size = N2.toNatClampNeg) (hv : RoadKit.Has V vs (.int 0)) : Cod cd cs.length (fun j => cs.getD j 0) V := by
  rcases h with ⟨rfl, rfl, rfl, h⟩ | ⟨rfl, rfl, rfl, c, hc, hw⟩
  · rw [n32 (by omega)] at hs
    exact Or.inl ⟨rfl, hs, fun j hj => ⟨by rw [hv j (by omega), low_at _ _ _ hj], by
      have e : cs.getD j 0 = cs[j] := by simp [List.getD_eq_getElem?_getD, hj]
      show ¬ 255 < cs.getD j 0
      rw [e]; exact h _ (List.getElem_mem _)⟩⟩
  · rw [n32 (by omega)] at hs
    obtain ⟨j, hj, rfl⟩ := List.getElem_of_mem hc
    exact Or.inr ⟨rfl, hs, fun j hj => ⟨by rw [hv _ (by omega), wide_lo _ _ _ hj], by rw [hv _ (by omega), wide_hi _ _ _ hj]⟩, j, hj, by
      have e : cs.getD j 0 = cs[j] := by simp [List.getD_eq_getElem?_getD, hj]
      show 255 < cs.getD j 0
      rw [e]; exact hw⟩
/-- an object of exactly java/lang/String, its two fields found: as the laws ask it -/
theorem strObj {Z U : State} {a0 : Array Value} {kI : Nat} (wi : (Jvm.Cond.instantiable ST kI).before a0 Z = true) (al : Z.vm.Alike U.vm) {x : Addr} {v0 c0 : Value} (E : RoadKit.Exa Z U.heap x ST) (V : RoadKit.Fld Z U.heap x ST "value" "[B" v0) (C : RoadKit.Fld Z U.heap x ST "coder" "B" c0) :
    ∃ (D : Cell) (fV fC : Field), Blank ST x D U ∧ Found ST "value" "[B" fV U ∧ Found ST "coder" "B" fC U ∧ D.slots[fV.slot]? = some v0 ∧ D.slots[fC.slot]? = some c0 ∧ RoadKit.slotOf Z ST "value" "[B" = fV.slot ∧ RoadKit.slotOf Z ST "coder" "B" = fC.slot := by
  obtain ⟨D, cfV, kV, iV, fV, hD, gV, stV, knV, obV, asV, slV⟩ := V
  obtain ⟨D', cfC, kC, iC, fC, hD', gC, stC, -, -, asC, slC⟩ := C
  cases hD.symm.trans hD'
  obtain ⟨D2, kD, e1, e2, e3, e4, e5⟩ := E
  cases hD.symm.trans e1
  obtain ⟨c2, k2, i1, i2, i3, -⟩ := Cond.instantiable_spec wi
  cases e2.symm.trans i1
  cases e3.symm.trans i2
  obtain ⟨kU, u1, u2⟩ := al.2.2 _ _ e3
  exact ⟨D, fV, fC, ⟨hD, ⟨knV, fun q hq => by rw [hq] at obV; cases obV⟩, by rw [al.findClass]; exact e2, kU, u1, by rw [u2]; exact i3, by rw [u2]; exact e5 i3⟩, ⟨SBG.found_only al ⟨cfV, kV, iV, gV⟩, stV⟩, ⟨SBG.found_only al ⟨cfC, kC, iC, gC⟩, stC⟩, slV, slC, by simp [RoadKit.slotOf, gV], by simp [RoadKit.slotOf, gC]⟩
theorem sta_is {Z U : State} (al : Z.vm.Alike U.vm) {C n d : String} {v : Value} (S : RoadKit.Sta Z U.heap C n d v) : StaticIs U C n d v := by
  obtain ⟨cfS, iS, kS, fS, st, cS, t1, t2, t3, t4, t5, t6, t7⟩ := S
  exact StaticIs.there (s := { Z with heap := U.heap }) ⟨cfS, iS, kS, fS, st, cS, t1, t2, t3, t4, t5, (fun q => by rw [q] at t6; cases t6), t7⟩ al rfl
/-- **length() OF SUCH A STRING** -/
theorem lenW {p : Program} {l : Launch} {e : Env} {R : Room} {s : State} {args : Array Value} {below : List Frame} {len W : Nat} {Z : State} {a0 : Array Value} {h : Heap} (hZ : Z.Warmed39 s.vm) (hw : ∀ d ∈ wordsLen, d.before a0 Z = true) {kI : Nat} (wi : (Jvm.Cond.instantiable ST kI).before a0 Z = true)
    {x t : Addr} {kb : ClassId} {cs : List Int32} {cd N2 z : Int32} {vs : List Value} (E : RoadKit.Exa Z h x ST) (V : RoadKit.Fld Z h x ST "value" "[B" (.ref t)) (C : RoadKit.Fld Z h x ST "coder" "B" (.int cd)) (K : RoadKit.Arv Z h t kb .byte N2 vs (.int 0)) (hc : CodA cs cd N2 vs) (hb : ∀ c ∈ cs, ¬ c < 0 ∧ ¬ (65535 : Int32) < c)
    (S : RoadKit.Sta Z h ST "COMPACT_STRINGS" "Z" (.int z)) (hz : ¬ z = 0) (l2 : cs.length ≤ 4000) (hfr : 2 ≤ R.frames) (hlo : W + 25 ≤ R.locals) :
    Back l R p e below s args (⟨"java/lang/String", "length", "()I"⟩ : MethodName) len W (fun P a => a = #[.ref x] ∧ P.U.heap = h ∧ P.cells + 0 ≤ R.cells ∧ P.slots + 0 ≤ R.slots)
      (fun P _ v B => ∃ L, (v = some (.int (Int32.ofNat cs.length)) ∧ L = [] ∧ B.U.heap = h) ∧ B.locs = P.locs ++ L ∧ B.cells = P.cells + 0 ∧ B.slots = P.slots + 0) := by
  obtain ⟨A, K1, K2, K3, K4, K5, K6⟩ := K
  have hcod := hc.cod (by omega) K3 K5
  intro m meth c P g ig mk a X hg hsize hdg hW hn hp'
  obtain ⟨rfl, rfl, r1, r2⟩ := hp'
  have al : Z.vm.Alike P.U.vm := hZ.alike.trans X.warmed.alike
  obtain ⟨D, fV, fC, hB, F1, F2, g1, g2, -, -⟩ := strObj wi al E V C
  have hx : Txt x t A cd cs.length (fun j => cs.getD j 0) P.U := ⟨⟨_, hB.2.2.1, D, hB.1, rfl, by cases q : D.vm <;> first | rfl | exact absurd q (hB.2.1.2 _)⟩, Has.of hB F1 g1, Has.of hB F2 g2, ⟨K1.1, State.isArrayOf_alike al K1.2.1, K1.2.2, by rcases hcod with ⟨-, q, -⟩ | ⟨-, q, -⟩ <;> omega⟩, hcod, fun j hj => by
    have e : cs.getD j 0 = cs[j] := by simp [List.getD_eq_getElem?_getD, hj]
    show ¬ cs.getD j 0 < 0 ∧ ¬ 65535 < cs.getD j 0
    rw [e]; exact hb _ (List.getElem_mem _)⟩
  obtain ⟨v, B, X', ⟨⟨hv, hh⟩, hl, hk, hs⟩, st⟩ := Len.pays x t A cd cs.length (fun j => cs.getD j 0) z (tabLen_of (movedLen hZ hw)) hfr hlo m meth c P g ig mk _ X hg hsize hdg hW hn ⟨r1, r2, rfl, hx, sta_is al S, hz⟩
  exact ⟨v, B, X', ⟨[], ⟨hv, rfl, hh⟩, hl, hk, hs⟩, st⟩
end StrChars.Road
namespace StrChars.Road
open Jvm Sem ClassFile Op Lib Jvm.Stand Jvm.Free Jvm.Free.XT
open Jvm.Lib.Cold (StaticIs)
/-- the road's facts of a String, as the laws ask it -/
theorem txt_of {Z U : State} {a0 : Array Value} {kI : Nat} (wi : (Jvm.Cond.instantiable ST kI).before a0 Z = true) (al : Z.vm.Alike U.vm) {x t : Addr} {kb : ClassId} {cs : List Int32} {cd N2 : Int32} {vs : List Value} (E : RoadKit.Exa Z U.heap x ST) (V : RoadKit.Fld Z U.heap x ST "value" "[B" (.ref t)) (C : RoadKit.Fld Z U.heap x ST "coder" "B" (.int cd)) (K : RoadKit.Arv Z U.heap t kb .byte N2 vs (.int 0)) (hc : CodA cs cd N2 vs) (hb : ∀ c ∈ cs, ¬ c < 0 ∧ ¬ (65535 : Int32) < c) (l2 : cs.length ≤ 4000) :
    ∃ A, Txt x t A cd cs.length (fun j => cs.getD j 0) U := by
  obtain ⟨A, K1, K2, K3, K4, K5, K6⟩ := K
  have hcod := hc.cod (by omega) K3 K5
  obtain ⟨D, fV, fC, hB, F1, F2, g1, g2, -, -⟩ := strObj wi al E V C
  exact ⟨A, ⟨_, hB.2.2.1, D, hB.1, rfl, by cases q : D.vm <;> first | rfl | exact absurd q (hB.2.1.2 _)⟩, Has.of hB F1 g1, Has.of hB F2 g2, ⟨K1.1, State.isArrayOf_alike al K1.2.1, K1.2.2, by rcases hcod with ⟨-, q, -⟩ | ⟨-, q, -⟩ <;> omega⟩, hcod, fun j hj => by
    have e : cs.getD j 0 = cs[j] := by simp [List.getD_eq_getElem?_getD, hj]
    show ¬ cs.getD j 0 < 0 ∧ ¬ 65535 < cs.getD j 0
    rw [e]; exact hb _ (List.getElem_mem _)⟩
end StrChars.Road
namespace StrChars
open Jvm Sem ClassFile Op Lib Jvm.Stand Jvm.Free.XT Jvm.Free.ALB Jvm.Free.JM Jvm.Free
open Jvm.Lib.Cold (StaticIs)
namespace ChN
def yN : MethodName := ⟨"java/lang/String", "charAt", "(I)C"⟩
abbrev yB : ByteArray := jdk_42_method_56_code
theorem d0 : decode yB 0 = .ok (.aload_n 0, 1) := by decide +kernel
theorem d1 : decode yB 1 = .ok (.invokevirtual 492, 3) := by decide +kernel
theorem d4 : decode yB 4 = .ok (.ifCond (.eq) 12, 3) := by decide +kernel
theorem d7 : decode yB 7 = .ok (.aload_n 0, 1) := by decide +kernel
theorem d8 : decode yB 8 = .ok (.getfield 9, 3) := by decide +kernel
theorem d11 : decode yB 11 = .ok (.iload_n 1, 1) := by decide +kernel
theorem d12 : decode yB 12 = .ok (.invokestatic 495, 3) := by decide +kernel
theorem d15 : decode yB 15 = .ok (.ireturn, 1) := by decide +kernel
def site : List Cond := [.fieldLink "java/lang/String" 9 "java/lang/String" "value" "[B", IsL.tab, LChA.tab] ++ virtW "java/lang/String" 492 "java/lang/String" IsL.yN IsL.yN ++ staticW "java/lang/String" 495 LChA.yN
def tab : Cond := tabOf yN yB 2 (some .char) site
def P (x t : Addr) (V : Cell) (n : Nat) (f : Nat → Int32) (z : Int32) (fm : Value) (i : Nat) (args : Array Value) (s : State) : Prop := args = #[.ref x, .int (Int32.ofNat i)] ∧ Txt x t V 0 n f s ∧ i < n ∧ StaticIs s "java/lang/String" "COMPACT_STRINGS" "Z" (.int z) ∧ ¬ z = 0 ∧ StaticIs s "jdk/internal/util/Preconditions" "SIOOBE_FORMATTER" "Ljava/util/function/BiFunction;" fm ∧ fm.isRef = true
def E (f : Nat → Int32) (i : Nat) (r : Option Value) (s u : State) : Prop := XT.PureE (some (.int (f i))) r s u
/-- charAt(i) of a Latin-1 String of n chars, i < n: f i -/
theorem law (l : Launch) (x t : Addr) (V : Cell) (n : Nat) (f : Nat → Int32) (z : Int32) (fm : Value) (i : Nat) : Law l yN 2 1 3 40 yB 2 (some .char) site (P x t V n f z fm i) (E f i) [] 0 0 := by
  refine Law.of_walk (plainFor_of_name (by decide +kernel)) (by decide +kernel) (by decide +kernel) (by decide) (fun _ _ h => by rw [h.1]; rfl) (fun _ U U' hal hh h => ⟨h.1, h.2.1.mv hal hh, h.2.2.1, h.2.2.2.1.there hal hh, h.2.2.2.2.1, h.2.2.2.2.2.1.there hal hh, h.2.2.2.2.2.2⟩) (fun r U U' V V' h1 hal h2 h => XT.PureE.mv r U U' V V' h1 hal h2 h) ?_
  intro p e s m args below meth c s₁ X0 hexec hbytes hml hret hlk hnm hown hh0 W hP
  obtain ⟨rfl, hx, hi, s1, hz, s3, rf⟩ := hP
  have v31 := hx.2.2.2.1.2.2.2
  have hr := hx.2.2.2.2.2 i hi
  have hx0 := hx.mv X0.warmed.alike hh0
  have c1 : Steps p.tables e below (s₁.setTop (entryFrame m #[.ref x, .int (Int32.ofNat i)] 2)) (s₁.setTop (mkF m 1 #[.val (.ref x), .val (.int (Int32.ofNat i))] [.ref x])) := Steps.trans (entry rfl) (by
    show Steps p.tables e below (s₁.setTop (mkF m 0 #[.val (.ref x), .val (.int (Int32.ofNat i))] [])) _
    refine XS.aloadN X0.here hexec rfl (hb hbytes d0) rfl rfl ?_
    exact Steps.refl _)
  obtain ⟨v2, T2, X2, E2, g2⟩ := X0.callV hexec (IsL.law l x 0 z) hown (wks W (virtW "java/lang/String" 492 "java/lang/String" IsL.yN IsL.yN)) rfl (by decide) (wk W IsL.tab) (W := 0) (Nat.le_of_ble_eq_true rfl) (Nat.le_of_ble_eq_true rfl) (Nat.le_refl _) (Nat.le_refl _) (hx0.1.fc X0.warmed.alike) hx0.1.is (g := (mkF m 1 #[.val (.ref x), .val (.int (Int32.ofNat i))] [.ref x])) rfl (by rw [hml]; rfl) c1 (argsL := []) (rest := []) rfl rfl (by show 2 * 0 + 0 ≤ _; decide) (hb hbytes d1) (⟨rfl, hx0.2.2.1, hx.2.2.2.2.1.cd, s1.there X0.warmed.alike hh0, hz⟩)
  obtain ⟨rfl, q2⟩ := E2
  have hh2 := q2.trans hh0
  have hx2 := hx.mv X2.warmed.alike hh2
  obtain ⟨-, k1, k2⟩ | ⟨k0, -⟩ := hx.2.2.2.2.1
  · have c3 : Steps p.tables e below (s₁.setTop (entryFrame m #[.ref x, .int (Int32.ofNat i)] 2)) (T2.setTop (mkF m 8 #[.val (.ref x), .val (.int (Int32.ofNat i))] [.ref x])) := Steps.trans g2 (by
      refine XS.ifNo X2.here hexec rfl (hb hbytes d4) rfl (i0_eq_f (by decide)) ?_
      refine XS.aloadN X2.here hexec rfl (hb hbytes d7) rfl rfl ?_
      exact Steps.refl _)
    obtain ⟨T4, X4, q4, st4⟩ := X2.hget hexec hown (wk W (.fieldLink "java/lang/String" 9 "java/lang/String" "value" "[B")) hx2.2.1 (g := (mkF m 8 #[.val (.ref x), .val (.int (Int32.ofNat i))] [.ref x])) rfl (rest := []) rfl (hb hbytes d8)
    have hh4 := q4.trans hh2
    have c5 : Steps p.tables e below (s₁.setTop (entryFrame m #[.ref x, .int (Int32.ofNat i)] 2)) (T4.setTop (mkF m 12 #[.val (.ref x), .val (.int (Int32.ofNat i))] [.int (Int32.ofNat i), .ref t])) := (c3.trans (st4 _ (Steps.refl _))).trans (by
      refine XS.iloadN X4.here hexec rfl (hb hbytes d11) rfl ?_
      exact Steps.refl _)
    obtain ⟨v6, T6, X6, E6, g6⟩ := X4.callS hexec (LChA.law l t V i (lo8 (f i)) fm) hown (wks W (staticW "java/lang/String" 495 LChA.yN)) (wk W LChA.tab) (W := 0) (Nat.le_of_ble_eq_true rfl) (Nat.le_of_ble_eq_true rfl) (Nat.le_refl _) (Nat.le_refl _) (g := (mkF m 12 #[.val (.ref x), .val (.int (Int32.ofNat i))] [.int (Int32.ofNat i), .ref t])) rfl (by rw [hml]; rfl) c5 (argsL := [.ref t, .int (Int32.ofNat i)]) (rest := []) rfl rfl (by show 2 * 0 + 0 ≤ _; decide) (hb hbytes d12) (⟨rfl, hx.2.2.2.1.mv X4.warmed.alike hh4, (k2 i hi).1, s3.there X4.warmed.alike hh4, rf⟩)
    obtain ⟨rfl, q6⟩ := E6
    rw [chr8_lo8 hr.1 (k2 i hi).2] at g6
    exact ⟨T6, some (.int (f i)), _, _, _, X6, rfl, rfl, rfl, (fun h => by cases h), ⟨rfl, q6.trans hh4⟩, fun fs hl => Steps.trans g6 (X6.ireturnOut hexec hret (narrow_ch hr.1 hr.2) (Or.inr (Or.inr (Or.inr (Or.inl rfl)))) (hb hbytes d15) hl)⟩
  · exact absurd k0 (by decide)
theorem pays {l : Launch} {R : Room} {p : Program} {e : Env} {below : List Frame} {s : State} {sargs : Array Value} {len W : Nat} (x t : Addr) (V : Cell) (n : Nat) (f : Nat → Int32) (z : Int32) (fm : Value) (i : Nat) (htab : tab.before sargs s = true) (hfr : 4 ≤ R.frames) (hlo : W + 53 ≤ R.locals) :
    Back l R p e below s sargs yN len W (fun A₁ a₁ => A₁.cells + 0 ≤ R.cells ∧ A₁.slots + 0 ≤ R.slots ∧ P x t V n f z fm i a₁ A₁.U) (fun A₁ _ v₁ B₁ => E f i v₁ A₁.U B₁.U ∧ B₁.locs = A₁.locs ++ [] ∧ B₁.cells = A₁.cells + 0 ∧ B₁.slots = A₁.slots + 0) :=
  (law l x t V n f z fm i).pays htab hfr (by omega)
end ChN
end StrChars
namespace StrChars.Road
open Jvm Sem ClassFile Op Lib Jvm.Stand Jvm.Free Jvm.Free.XT
open Jvm.Lib.Cold (StaticIs)
/-- the words of String.charAt(int), the Latin-1 road alone -/
abbrev wordsChN : List Jvm.Cond := [.code ChN.yN ChN.yB 2 (some .char), .initialized ST, .fieldLink ST 9 ST "value" "[B", .fieldLink ST 38 ST "COMPACT_STRINGS" "Z", .fieldLink ST 15 ST "coder" "B", .code IsL.yN IsL.yB 1 (some .boolean), .methodLink ST 492 IsL.yN, .declares IsL.yN, .selects ST IsL.yN IsL.yN, .instanceMethod IsL.yN,
  .methodLink ST 495 LChA.yN, .static LChA.yN, .code LChA.yN LChA.yB 2 (some .char), .initialized "java/lang/StringLatin1", .methodLink "java/lang/StringLatin1" 9 JO.Str_checkIndex.yN, .static JO.Str_checkIndex.yN, .code JO.Str_checkIndex.yN JO.Str_checkIndex.yB 2 none,
  .fieldLink ST 1053 "jdk/internal/util/Preconditions" "SIOOBE_FORMATTER" "Ljava/util/function/BiFunction;", .methodLink ST 1059 JC.PreCheck.yN, .static JC.PreCheck.yN, .code JC.PreCheck.yN JC.PreCheck.yB 3 (some .int), .initialized "jdk/internal/util/Preconditions"]
theorem tabChN_of {a : Array Value} {s : State} (h : ∀ w ∈ wordsChN, w.before a s = true) : ChN.tab.before a s = true := by
  have hp : JC.PreCheck.tab.before a s = true := unparts (wk h (.code JC.PreCheck.yN JC.PreCheck.yB 3 (some .int))) (wks h (.initialized JC.PreCheck.yN.cls :: JC.PreCheck.site))
  have qk := consq hp h
  have hk : JO.Str_checkIndex.tab.before a s = true := unparts (wk qk (.code JO.Str_checkIndex.yN JO.Str_checkIndex.yB 2 none)) (wks qk (.initialized JO.Str_checkIndex.yN.cls :: JO.Str_checkIndex.site))
  have ql := consq hk h
  have hl : LChA.tab.before a s = true := unparts (wk ql (.code LChA.yN LChA.yB 2 (some .char))) (wks ql (.initialized LChA.yN.cls :: LChA.site))
  have hi : IsL.tab.before a s = true := unparts (wk h (.code IsL.yN IsL.yB 1 (some .boolean))) (wks h (.initialized IsL.yN.cls :: IsL.site))
  have q := consq hi (consq hl h)
  exact unparts (wk q (.code ChN.yN ChN.yB 2 (some .char))) (wks q (.initialized ChN.yN.cls :: ChN.site))
theorem movedChN {Z s : State} {a0 args : Array Value} (hZ : Z.Warmed39 s.vm) (hw : ∀ d ∈ wordsChN, d.before a0 Z = true) : ∀ d ∈ wordsChN, d.before args s = true := fun d hd => by
  have t : ∀ d ∈ wordsChN, (d.onTables && d.keepsFace) = true := by decide +kernel
  exact RoadKit.mv hZ (hw d hd) (t d hd)
/-- **charAt(i) OF A LATIN-1 STRING**, i < n: the char -/
theorem chN {p : Program} {l : Launch} {e : Env} {R : Room} {s : State} {args : Array Value} {below : List Frame} {len W : Nat} {Z : State} {a0 : Array Value} {h : Heap} (hZ : Z.Warmed39 s.vm) (hw : ∀ d ∈ wordsChN, d.before a0 Z = true) {kI : Nat} (wi : (Jvm.Cond.instantiable ST kI).before a0 Z = true)
    {x t : Addr} {kb : ClassId} {cs : List Int32} {N2 z : Int32} {vs : List Value} {fm : Value} {i : Nat} {j : Int32} (E : RoadKit.Exa Z h x ST) (V : RoadKit.Fld Z h x ST "value" "[B" (.ref t)) (C : RoadKit.Fld Z h x ST "coder" "B" (.int 0)) (K : RoadKit.Arv Z h t kb .byte N2 vs (.int 0)) (hc : CodA cs 0 N2 vs) (hb : ∀ c ∈ cs, ¬ c < 0 ∧ ¬ (65535 : Int32) < c)
    (S : RoadKit.Sta Z h ST "COMPACT_STRINGS" "Z" (.int z)) (hz : ¬ z = 0) (F : RoadKit.Sta Z h "jdk/internal/util/Preconditions" "SIOOBE_FORMATTER" "Ljava/util/function/BiFunction;" fm) (rf : fm.isRef = true) (l2 : cs.length ≤ 4000) (hi : i < cs.length) (hj : j = Int32.ofNat i) (hfr : 4 ≤ R.frames) (hlo : W + 53 ≤ R.locals) :
    Back l R p e below s args (⟨"java/lang/String", "charAt", "(I)C"⟩ : MethodName) len W (fun P a => a = #[.ref x, .int j] ∧ P.U.heap = h ∧ P.cells + 0 ≤ R.cells ∧ P.slots + 0 ≤ R.slots)
      (fun P _ v B => ∃ L, (v = some (.int (cs.getD i 0)) ∧ L = [] ∧ B.U.heap = h) ∧ B.locs = P.locs ++ L ∧ B.cells = P.cells + 0 ∧ B.slots = P.slots + 0) := by
  subst hj
  intro m meth c P g ig mk a X hg hsize hdg hW hn hp'
  obtain ⟨rfl, rfl, r1, r2⟩ := hp'
  have al : Z.vm.Alike P.U.vm := hZ.alike.trans X.warmed.alike
  obtain ⟨A, hx⟩ := txt_of wi al E V C K hc hb l2
  obtain ⟨v, B, X', ⟨⟨hv, hh⟩, hl, hk, hs⟩, st⟩ := ChN.pays x t A cs.length (fun j => cs.getD j 0) z fm i (tabChN_of (movedChN hZ hw)) hfr hlo m meth c P g ig mk _ X hg hsize hdg hW hn ⟨r1, r2, rfl, hx, hi, sta_is al S, hz, sta_is al F, rf⟩
  exact ⟨v, B, X', ⟨[], ⟨hv, rfl, hh⟩, hl, hk, hs⟩, st⟩
/-- what backV says of its String, as the contracts of this text ask it: cs's low bytes, coder 0 -/
theorem codOf {cs : List Int32} {n : Nat} (hn : cs.length = n) (hb : ∀ c ∈ cs, ¬ 255 < c) : CodA cs 0 (Int32.ofNat n) ((cs.map lo8).map Value.int) := Or.inl ⟨rfl, by rw [hn], by simp [List.map_map, Function.comp_def], hb⟩
end StrChars.Road
end Jvm.Pilot.@@N@@

namespace Jvm.RoadKit
open Sem ClassFile Op Lib Jvm.Stand Jvm.Free Jvm.LawKit
section Own
variable {p : Program} {l : Launch} {e : Env} {R : Room} {s : State} {m : MethodId} {args : Array Value} {below : List Frame} {meth : Method} {c : Code} {T T' : State} {locs : List Loc} {cells slots : Nat} {Q : Option Value → Heap → List Loc → Prop} {h : Heap}
/-- from T the invocation comes to an end of which P holds -/
def Ends (p : Program) (e : Env) (below : List Frame) (P : Outcome → State → Prop) (T : State) : Prop := ∃ s₂ o, Steps p.tables e below T s₂ ∧ s₂.status = .running ∧ Ended s₂ below o ∧ P o s₂
/-- the end of a body that interns nothing -/
def EndN (s : State) (R : Room) (Q : Option Value → Heap → List Loc → Prop) (o : Outcome) (s₂ : State) : Prop := ∃ v L, o = .returned v ∧ Q v s₂.heap L ∧ FrameEnd s o s₂ L R.cells R.slots
/-- the end of a body that may intern String constants -/
def EndW (s : State) (R : Room) (Z : State) (EL : List (String × Nat)) (Q : Option Value → Heap → List Loc → Prop) (o : Outcome) (s₂ : State) : Prop := ∃ v L, o = .returned v ∧ Q v s₂.heap L ∧ CHr Z EL s.vm s.heap s₂.vm s₂.heap ∧ ReturnedEndW s o s₂ L R.cells R.slots
theorem Ends.pre {P : Outcome → State → Prop} (k : ∀ t, Steps p.tables e below T' t → Steps p.tables e below T t) (h : Ends p e below P T') : Ends p e below P T := by
  obtain ⟨a, b, d, r⟩ := h
  exact ⟨a, b, k _ d, r⟩
theorem Ends.cast {P : Outcome → State → Prop} {g g' : JFrame} (q : g = g') (h : Ends p e below P (T.setTop g')) : Ends p e below P (T.setTop g) := q ▸ h
theorem Ends.ret (X : Stand p l e R s m args below meth c T locs cells slots) (hx : p.tables.exec = Jvm.exec) (hlk : meth.locks = false) {pc : Nat} {Ls : Array Slot} {w : Value} {t : FieldType} {i : Instr} {rest : List Value} (hret : meth.sig.returnType = some t) (hn : narrow t w = w)
    (hi : (i = .ireturn ∧ (t = .int ∨ t = .boolean ∨ t = .byte ∨ t = .char ∨ t = .short) ∧ ∃ z, w = .int z) ∨ (i = .lreturn ∧ t = .long ∧ ∃ z, w = .long z) ∨ (i = .dreturn ∧ t = .double ∧ ∃ z, w = .double z) ∨ (i = .freturn ∧ t = .float ∧ ∃ z, w = .float z) ∨ (i = .areturn ∧ t.isReference = true ∧ w.isRef = true))
    (hd : decode c.code pc = .ok (i, 1)) (eT : T.heap = h) (hq : Q (some w) h locs) (h1 : cells ≤ R.cells) (h2 : slots ≤ R.slots) : Ends p e below (EndN s R Q) (T.setTop (mkF m pc Ls (w :: rest))) := by
  obtain ⟨fs, hr, hrun, hended, hW, hsame⟩ := X.leave (v := some w) (fun q => by rw [hret] at q; cases q) hlk
  refine ⟨_, _, retOut X hx hret hn hi hd hr, hrun, hended, _, _, rfl, ?_, ⟨_, rfl⟩, hW, hsame.mono h1 h2⟩
  show Q (some w) T.heap locs
  rw [eT]; exact hq
theorem Ends.ret0 (X : Stand p l e R s m args below meth c T locs cells slots) (hx : p.tables.exec = Jvm.exec) (hlk : meth.locks = false) {pc : Nat} {Ls : Array Slot} (hret : meth.sig.returnType = none)
    (hd : decode c.code pc = .ok (.return_, 1)) (eT : T.heap = h) (hq : Q none h locs) (h1 : cells ≤ R.cells) (h2 : slots ≤ R.slots) : Ends p e below (EndN s R Q) (T.setTop (mkF m pc Ls [])) := by
  obtain ⟨fs, hr, hrun, hended, hW, hsame⟩ := X.leave (v := none) (fun _ => rfl) hlk
  refine ⟨_, _, X.returnOut hx hret hd hr, hrun, hended, _, _, rfl, ?_, ⟨_, rfl⟩, hW, hsame.mono h1 h2⟩
  show Q none T.heap locs
  rw [eT]; exact hq
theorem Ends.retW {Z : State} {a0 : Array Value} {EL : List (String × Nat)} {vm0 : Vm} {k0 : Nat} {h0 : Heap} (X : Stand p l e R (s.setVm vm0) m args below meth c T locs cells slots) (hx : p.tables.exec = Jvm.exec) (hlk : meth.locks = false) {pc : Nat} {Ls : Array Slot} {w : Value} {t : FieldType} {i : Instr} {rest : List Value} (hret : meth.sig.returnType = some t) (hn : narrow t w = w)
    (hi : (i = .ireturn ∧ (t = .int ∨ t = .boolean ∨ t = .byte ∨ t = .char ∨ t = .short) ∧ ∃ z, w = .int z) ∨ (i = .lreturn ∧ t = .long ∧ ∃ z, w = .long z) ∨ (i = .dreturn ∧ t = .double ∧ ∃ z, w = .double z) ∨ (i = .freturn ∧ t = .float ∧ ∃ z, w = .float z) ∨ (i = .areturn ∧ t.isReference = true ∧ w.isRef = true))
    (hd : decode c.code pc = .ok (i, 1)) (eT : T.heap = h) (hZ : Z.Warmed39 vm0) (hEL : EW Z a0 EL) (hS : s.Since vm0 k0) (hk : k0 ≤ h.size) (hh : s.heap = h0) (CR : CHr Z EL s.vm h0 vm0 h) (hq : Q (some w) h locs) (h1 : cells ≤ R.cells) (h2 : slots ≤ R.slots) : Ends p e below (EndW s R Z EL Q) (T.setTop (mkF m pc Ls (w :: rest))) := by
  subst eT hh
  obtain ⟨fs, hr, hrun, hended, r1, r2, r3, r4⟩ := X.leaveW hS hk (v := some w) (fun q => by rw [hret] at q; cases q) hlk
  have q := CR.trans (CHv.at X hZ hEL CR.1)
  exact ⟨_, _, retOut X hx hret hn hi hd hr, hrun, hended, _, _, rfl, hq, q, r1, r2, r3, r4.mono h1 h2⟩
theorem Ends.ret0W {Z : State} {a0 : Array Value} {EL : List (String × Nat)} {vm0 : Vm} {k0 : Nat} {h0 : Heap} (X : Stand p l e R (s.setVm vm0) m args below meth c T locs cells slots) (hx : p.tables.exec = Jvm.exec) (hlk : meth.locks = false) {pc : Nat} {Ls : Array Slot} (hret : meth.sig.returnType = none)
    (hd : decode c.code pc = .ok (.return_, 1)) (eT : T.heap = h) (hZ : Z.Warmed39 vm0) (hEL : EW Z a0 EL) (hS : s.Since vm0 k0) (hk : k0 ≤ h.size) (hh : s.heap = h0) (CR : CHr Z EL s.vm h0 vm0 h) (hq : Q none h locs) (h1 : cells ≤ R.cells) (h2 : slots ≤ R.slots) : Ends p e below (EndW s R Z EL Q) (T.setTop (mkF m pc Ls [])) := by
  subst eT hh
  obtain ⟨fs, hr, hrun, hended, r1, r2, r3, r4⟩ := X.leaveW hS hk (v := none) (fun _ => rfl) hlk
  have q := CR.trans (CHv.at X hZ hEL CR.1)
  exact ⟨_, _, X.returnOut hx hret hd hr, hrun, hended, _, _, rfl, hq, q, r1, r2, r3, r4.mono h1 h2⟩
/-- T' stands as T does -/
def SS (X : Stand p l e R s m args below meth c T locs cells slots) (T' : State) : Prop := Stand p l e R s m args below meth c T' locs cells slots
theorem Stand_mono {cells' slots' : Nat} (X : Stand p l e R s m args below meth c T locs cells slots) (h1 : cells ≤ cells') (h2 : slots ≤ slots') : Stand p l e R s m args below meth c T locs cells' slots' := { X with same := X.same.mono h1 h2 }
theorem lremM {g : JFrame} {target : State} (X : Stand p l e R s m args below meth c T locs cells slots) (hx : p.tables.exec = Jvm.exec) (hg : g.method = m) {x y : Int64} {rest : List Value} (hd : decode c.code g.pc = .ok (.lrem, 1)) (hs : g.stack = .long y :: .long x :: rest) (hy : y ≠ 0)
    (hr : Steps p.tables e below (T.setTop { g with pc := g.pc + 1, stack := .long (x % y) :: rest }) target) : Steps p.tables e below (T.setTop g) target :=
  XS.lrem X.here hx hg hd hs hy (by rw [lrem_mod]; exact hr)
theorem nf_via {y y' : MethodName} {m' : MethodId} (hn : s.methodNamed? y' = some m') (hc : y'.cls = y.cls) (nf : NotFace s y') : NotFace s y := fun r0 h0 => by
  obtain ⟨kr, h1, h2⟩ := nf _ hn
  have e1 := findClass_of_methodNamed hn
  have e2 := findClass_of_methodNamed h0
  rw [hc] at e1
  have e3 : m'.cls = r0.cls := Option.some.inj (e1.symm.trans e2)
  exact ⟨kr, e3 ▸ h1, h2⟩
theorem Sta_keep0 {Z : State} {h h' : Heap} {C n d : String} {v : Value} (F : Sta Z h C n d v) (K : Keep h h' []) : Sta Z h' C n d v := by
  obtain ⟨cf, i, k, f, st, cell, h1, h2, h3, h4, h5, r⟩ := F
  exact ⟨cf, i, k, f, st, cell, h1, h2, h3, h4, K.2.1 _ _ h5 nin0, r⟩
theorem Sta_keepW {Z : State} {h h' : Heap} {ws : List Addr} {C n d : String} {v : Value} (F : Sta Z h C n d v) (K : Keep h h' ws) (q : ∀ x ∈ ws, ∀ cell : Cell, h[x]? = some cell → cell.vm.isStatics = false) : Sta Z h' C n d v := by
  obtain ⟨cf, i, k, f, st, cell, h1, h2, h3, h4, h5, h6, r⟩ := F
  exact ⟨cf, i, k, f, st, cell, h1, h2, h3, h4, K.2.1 _ _ h5 (fun z => by have := q _ z _ h5; rw [h6] at this; cases this), h6, r⟩
theorem Ins_keep {Z : State} {h h' : Heap} {ws : List Addr} {a : Addr} {C : String} {b : Bool} (F : Ins Z h a C b) (K : Keep h h' ws) : Ins Z h' a C b := by
  obtain ⟨cell, cT, h1, h2, h3⟩ := F
  obtain ⟨c', q1, q2, q3, -⟩ := K.2.2 _ _ h1
  exact ⟨c', cT, q1, h2, by rw [q2, q3]; exact h3⟩
theorem Arr_keep0 {Z : State} {h h' : Heap} {a : Addr} {c : Cell} {ty : FieldType} (F : Arr Z h a c ty) (K : Keep h h' []) : Arr Z h' a c ty := ⟨K.2.1 _ _ F.1 nin0, F.2⟩
theorem NS_root' {Z : State} {a0 : Array Value} {O K : String} {n : Nat} (w : (Cond.noSuperclass O).before a0 Z = true) (wk : (Cond.instantiable K n).before a0 Z = true) (hn : O ≠ K) : NS Z O K := by
  obtain ⟨c, k, h1, h2, h3, -, -⟩ := Cond.noSuperclass_spec w
  obtain ⟨t, kt, g1, -⟩ := Cond.instantiable_spec wk
  have ne := ids_ne h1 g1 hn
  refine ⟨c, t, h1, g1, fun fuel => ?_⟩
  cases fuel with
  | zero => rfl
  | succ f => simp [Vm.isSubclassAux, ne, h2, h3]
theorem NS_no' {Z : State} {a0 : Array Value} {C S K : String} {n : Nat} (w : (Cond.superclass C S).before a0 Z = true) (wk : (Cond.instantiable K n).before a0 Z = true) (q : NS Z C K) (hn : C ≠ K) : ∃ c t, Z.vm.findClass C = some c ∧ Z.vm.findClass K = some t ∧ Z.vm.assignable c t = false := by
  obtain ⟨c, t, h0, g0, n3⟩ := q
  obtain ⟨p, k, kp, h1, h2, h3, h4, h5, -, h7⟩ := Cond.superclass_spec h0 w
  obtain ⟨t', k', g1, g2, g5, g7, -⟩ := Cond.instantiable_spec wk
  cases g0.symm.trans g1
  have ne := ids_ne h0 g0 hn
  have g8 : k'.isInterface = false := by
    cases hq : k'.isInterface with
    | false => rfl
    | true => simp [hq] at g7
  refine ⟨c, t, h0, g0, ?_⟩
  show Z.vm.assignableAux (255 + 1) c t = false
  simp [Vm.assignableAux, ne, h2, g2, h5, g5, g8, Vm.isSubclass, n3]
theorem Safe_null {Z : State} {EL : List (String × Nat)} {vm : Vm} {h : Heap} {x : Addr} (hal : Z.vm.Alike vm) (E : Exa Z h x "java/lang/String") (F : Fld Z h x "java/lang/String" "value" "[B" .null) : Safe Z EL vm h x := fun B => by
  obtain ⟨p, -, u, a, -, q, -, G, rfl | rfl⟩ := B
  · have ha : h[q.sa]? = some q.sC := G.ha
    obtain ⟨cS, ⟨⟨-, -, -, ⟨c1, k1, i1, f1, -⟩, -, -, -, v1, -⟩, -⟩, -⟩ := G
    obtain ⟨cell, cf, k, i, f, g1, g2, -, -, -, -, g7⟩ := F
    cases ha.symm.trans g1
    obtain ⟨k3, e3, -⟩ := State.fieldFound?_setVm (s := Z) hal g2
    have e4 := (show (Wst Z vm h).fieldFound? _ _ _ = _ from e3).symm.trans f1
    simp only [Option.some.injEq, Prod.mk.injEq] at e4
    rw [← e4.2.2.2, g7] at v1
    cases v1
  · have hd : h[q.sd]? = some q.SA := G.hd
    obtain ⟨cS, -, -, f, -⟩ := G
    obtain ⟨cell, k, e1, e2, -⟩ := E
    cases hd.symm.trans e1
    exact ids_ne e2 ((hal.findClass _ _).symm.trans f) (by decide) rfl
theorem sel_priv {args : Array Value} {n : Nat} {y : MethodName} (hy : y.cls ≠ "java/lang/invoke/MethodHandle" ∧ y.cls ≠ "java/lang/invoke/VarHandle") (hins : (Cond.instantiable y.cls n).before args s = true) (hpriv : (Cond.privateMethod y).before args s = true) (hinst : (Cond.instanceMethod y).before args s = true) : (Cond.selects y.cls y y).before args s = true := by
  obtain ⟨c, k, hc, hk, -, hniab, -, -⟩ := Cond.instantiable_spec hins
  have hni : k.isInterface = false := (Bool.or_eq_false_iff.mp hniab).1
  obtain ⟨mk, methM, hnamed, hmethM, -, -⟩ := Cond.instanceMethod_spec hinst
  have hfound : s.methodFound? y.cls y.name y.desc = some mk := State.methodFound?_of_named hnamed hy
  have hcls : mk.cls = c := Option.some.inj ((findClass_of_methodNamed hnamed).symm.trans hc)
  have hsel : selectMethod {} s.vm c mk = .method mk := selectMethod_private hmethM (Cond.privateMethod_at hpriv mk methM hnamed hmethM)
  simp only [Cond.before, Cond.holds, Cond.value, hc, hfound, hnamed, hsel, hcls, hk]
  simp; exact hni
theorem arv_ty {Z : State} {h : Heap} {a b : Addr} {k1 k2 : ClassId} {t1 t2 : FieldType} {z1 z2 : Int32} {v1 v2 : List Value} {d1 d2 : Value} (A : Arv Z h a k1 t1 z1 v1 d1) (B : Arv Z h b k2 t2 z2 v2 d2) (q : t1 ≠ t2) : a ≠ b := fun e => by
  subst e
  obtain ⟨c1, A1, -⟩ := A
  obtain ⟨c2, B1, -⟩ := B
  cases A1.1.symm.trans B1.1
  obtain ⟨-, k, h1, comp, h2⟩ := A1.2.1
  obtain ⟨-, k', h1', comp', h2'⟩ := B1.2.1
  cases h1.symm.trans h1'
  rw [h2] at h2'
  cases h2'
  exact q rfl
theorem eqI_v {first : State} {o : Option Outcome} {idx : List Nat} {a : Term} {k : Int32} (q : (Cond.eq a (.int k)).value args first o s idx = some true) : a.eval args first o idx s = some (.int k) := by
  cases ha : a.eval args first o idx s with
  | none => simp [Cond.value, ha] at q
  | some x => cases x <;> simp [Cond.value, ha, Term.eval] at q ⊢; exact q
theorem eqL_v {first : State} {o : Option Outcome} {idx : List Nat} {a : Term} {k : Int64} (q : (Cond.eq a (.long k)).value args first o s idx = some true) : a.eval args first o idx s = some (.long k) := by
  cases ha : a.eval args first o idx s with
  | none => simp [Cond.value, ha] at q
  | some x => cases x <;> simp [Cond.value, ha, Term.eval] at q ⊢; exact q
end Own
end Jvm.RoadKit
namespace Jvm.Pilot.@@N@@
open Jvm Jvm.ClassFile Sem Op Lib Jvm.Free Jvm.Stand Jvm.LawKit Jvm.RoadKit Bundle Jvm.Pilot.@@N@@.Jvm.D
theorem own_al0 {P : Int32 → Prop} : ∀ x ∈ ([] : List Int32), P x := fun _ q => nomatch q
theorem own_alS {P : Int32 → Prop} {y : Int32} {L : List Int32} (q : P y) (r : ∀ x ∈ L, P x) : ∀ x ∈ y :: L, P x := fun x z => (List.mem_cons.mp z).elim (fun u => u ▸ q) (r x)
theorem own_up (cs : List Int32) (h : ∀ c ∈ cs, ¬ c < 0 ∧ ¬ (255 : Int32) < c) : ∀ c ∈ cs, ¬ c < 0 ∧ ¬ (65535 : Int32) < c := fun c hc => ⟨(h c hc).1, fun q => (h c hc).2 (by rw [Int32.lt_iff_toInt_lt] at q ⊢; have e1 : (65535 : Int32).toInt = 65535 := rfl; have e2 : (255 : Int32).toInt = 255 := rfl; omega)⟩
theorem own_char {c : Int32} (h : ¬ c < 0 ∧ ¬ (255 : Int32) < c) : nar .char c = c := by
  obtain ⟨h0, h1⟩ := h
  have a := c_i2c c
  have e : nar .char c = c.toUInt32.toUInt16.toUInt32.toInt32 := rfl
  have e0 : (0 : Int32).toInt = 0 := rfl
  have e1 : (255 : Int32).toInt = 255 := rfl
  rw [Int32.lt_iff_toInt_lt] at h0 h1
  rw [e]; apply Int32.toInt_inj.mp; omega
theorem own_i2c {c : Int32} (h : ¬ c < 0 ∧ ¬ (255 : Int32) < c) : c.toUInt32.toUInt16.toUInt32.toInt32 = c := by
  obtain ⟨h0, h1⟩ := h
  have a := c_i2c c
  have e0 : (0 : Int32).toInt = 0 := rfl
  have e1 : (255 : Int32).toInt = 255 := rfl
  rw [Int32.lt_iff_toInt_lt] at h0 h1
  apply Int32.toInt_inj.mp; omega
theorem own_ci {c : Int32} (h : ¬ c < 0 ∧ ¬ (255 : Int32) < c) : ¬ c.toUInt32.toUInt16.toUInt32.toInt32 < 0 ∧ ¬ (255 : Int32) < c.toUInt32.toUInt16.toUInt32.toInt32 := by rw [own_i2c h]; exact h
theorem own_and255 (x : Int32) : ¬ (x &&& (255 : Int32)) < 0 ∧ ¬ (255 : Int32) < (x &&& (255 : Int32)) := by
  have a := c_mask x (255 : Int32) 8 (by decide) (by decide)
  have e0 : (0 : Int32).toInt = 0 := rfl
  have e1 : (255 : Int32).toInt = 255 := rfl
  simp only [Int32.lt_iff_toInt_lt, e0, e1]
  omega
theorem own_lit {cs : List Int32} {vs : List Value} {N : Int32} (h1 : N = Int32.ofNat cs.length) (h2 : vs = cs.map fun c => Value.int (StrChars.lo8 c)) (h3 : ∀ c ∈ cs, ¬ 255 < c) : StrChars.Road.CodA cs 0 N vs := Or.inl ⟨rfl, h1, h2, h3⟩
theorem own_hws {Z : State} {a0 : Array Value} (hw : ∀ d ∈ tables_1, d.before a0 Z = true) : ∀ d ∈ StrChars.Road.words, d.before a0 Z = true := fun d hd => hw d ((by decide +kernel : ∀ d ∈ StrChars.Road.words, d ∈ tables_1) d hd)
theorem own_hln {Z : State} {a0 : Array Value} (hw : ∀ d ∈ tables_1, d.before a0 Z = true) : ∀ d ∈ StrChars.Road.wordsLen, d.before a0 Z = true := fun d hd => hw d ((by decide +kernel : ∀ d ∈ StrChars.Road.wordsLen, d ∈ tables_1) d hd)
theorem own_hch {Z : State} {a0 : Array Value} (hw : ∀ d ∈ tables_1, d.before a0 Z = true) : ∀ d ∈ StrChars.Road.wordsChN, d.before a0 Z = true := fun d hd => hw d ((by decide +kernel : ∀ d ∈ StrChars.Road.wordsChN, d ∈ tables_1) d hd)
theorem own_since (s : State) : s.Since s.vm 0 := State.WarmedH.since (State.WarmedH.refl s) 0
theorem own_EW {Z : State} {a0 : Array Value} (hw : ∀ d ∈ tables_1, d.before a0 Z = true) : EW Z a0 consts_1 := (EW.cons (hw _ (List.mem_of_getElem? (i := 19) rfl)) (by decide) EW.nil)
theorem own_wS {Z : State} {a0 : Array Value} (hw : ∀ d ∈ tables_1, d.before a0 Z = true) : ∀ a ∈ Bundle.stringAtoms, a.before a0 Z = true := fun d hd => hw d ((by decide +kernel : ∀ d ∈ Bundle.stringAtoms, d ∈ tables_1) d hd)

/-- the sign c stands for the digit v -/
def HexC (c v : Int32) : Prop := (48 ≤ c.toInt ∧ c.toInt ≤ 57 ∧ v.toInt = c.toInt - 48) ∨ (97 ≤ c.toInt ∧ c.toInt ≤ 102 ∧ v.toInt = c.toInt - 87) ∨ (65 ≤ c.toInt ∧ c.toInt ≤ 70 ∧ v.toInt = c.toInt - 55)
theorem own_hexc {c v : Int32} (h : HexC c v) : ¬ c < 0 ∧ ¬ (255 : Int32) < c := by
  have e0 : (0 : Int32).toInt = 0 := rfl
  have e1 : (255 : Int32).toInt = 255 := rfl
  simp only [Int32.lt_iff_toInt_lt, e0, e1]
  rcases h with h | h | h <;> omega
theorem own_hexd {c v r : Int32} (h : HexC c v) (q : r.toInt = v.toInt) : r = v := Int32.toInt_inj.mp q
theorem own_all (P : Int32 → Prop) (t : ∀ k : Fin 256, P (Int32.ofNat k.val)) (x : Int32) : P (x &&& 255) := by
  have h : (x &&& 255).toBitVec.toNat < 256 := by
    simp only [Int32.toBitVec_and, BitVec.toNat_and]
    exact Nat.lt_succ_of_le Nat.and_le_right
  have e : (x &&& 255) = Int32.ofNat (x &&& 255).toBitVec.toNat := by
    apply Int32.toBitVec_inj.mp
    show _ = BitVec.ofNat 32 _
    rw [BitVec.ofNat_toNat]; simp
  rw [e]
  exact t ⟨_, h⟩
theorem own_hi (x : Int32) : ¬ ((x &&& 255) >>> ((4 : Int32) &&& 31)) < 0 ∧ ¬ (15 : Int32) < ((x &&& 255) >>> ((4 : Int32) &&& 31)) := own_all (fun y => ¬ (y >>> ((4 : Int32) &&& 31)) < 0 ∧ ¬ (15 : Int32) < (y >>> ((4 : Int32) &&& 31))) (by decide +kernel) x
theorem own_lo (x : Int32) : ¬ ((x &&& 255) &&& 15) < 0 ∧ ¬ (15 : Int32) < ((x &&& 255) &&& 15) := own_all (fun y => ¬ (y &&& 15) < 0 ∧ ¬ (15 : Int32) < (y &&& 15)) (by decide +kernel) x
theorem own_back (x : Int32) : nar .byte (((((x &&& 255) >>> ((4 : Int32) &&& 31)) <<< ((4 : Int32) &&& 31)) ||| ((x &&& 255) &&& 15)).toInt8.toInt32) = (x &&& 255).toInt8.toInt32 := own_all (fun y => nar .byte ((((y >>> ((4 : Int32) &&& 31)) <<< ((4 : Int32) &&& 31)) ||| (y &&& 15)).toInt8.toInt32) = y.toInt8.toInt32) (by decide +kernel) x
theorem own_c10 {v : Int32} (h : ¬ v < 0 ∧ ¬ (15 : Int32) < v) (q : v < (10 : Int32)) : HexC ((((48 : Int32) + v).toUInt32.toUInt16.toUInt32.toInt32)) v := by
  have a := c_iadd (48 : Int32) v
  have b := c_i2c ((48 : Int32) + v)
  have r := rng32 ((48 : Int32) + v)
  have e0 : (0 : Int32).toInt = 0 := rfl
  have e1 : (15 : Int32).toInt = 15 := rfl
  have e2 : (10 : Int32).toInt = 10 := rfl
  have e3 : (48 : Int32).toInt = 48 := rfl
  simp only [Int32.lt_iff_toInt_lt, e0, e1, e2, e3] at h q a
  unfold HexC
  omega
theorem own_cA (k : Int32) (K : Int) (hk : k.toInt = K) (hK : K = 65 ∨ K = 97) {v : Int32} (h : ¬ v < 0 ∧ ¬ (15 : Int32) < v) (q : ¬ v < (10 : Int32)) : HexC (((k + (v - (10 : Int32))).toUInt32.toUInt16.toUInt32.toInt32)) v := by
  have a := c_isub v (10 : Int32)
  have a2 := c_iadd k (v - (10 : Int32))
  have b := c_i2c (k + (v - (10 : Int32)))
  have r := rng32 (v - (10 : Int32))
  have r2 := rng32 (k + (v - (10 : Int32)))
  have e0 : (0 : Int32).toInt = 0 := rfl
  have e1 : (15 : Int32).toInt = 15 := rfl
  have e2 : (10 : Int32).toInt = 10 := rfl
  simp only [Int32.lt_iff_toInt_lt, e0, e1, e2] at h q a
  rw [hk] at a2
  unfold HexC
  omega
theorem own_dead {c v : Int32} (h : HexC c v) (a b : Int32) : (a.toInt = 48 → b.toInt = 57 → (c < a ∨ b < c) → ¬ (48 ≤ c.toInt ∧ c.toInt ≤ 57)) := by
  intro h1 h2 q
  simp only [Int32.lt_iff_toInt_lt] at q
  omega
theorem own_m3 (x : Int32) : ((x &&& (2147483647 : Int32)) % (3 : Int32)) = 0 ∨ ((x &&& (2147483647 : Int32)) % (3 : Int32)) = 1 ∨ ((x &&& (2147483647 : Int32)) % (3 : Int32)) = 2 := by
  have a := c_mask x (2147483647 : Int32) 31 (by decide) (by decide)
  have b := (c_irem (x &&& (2147483647 : Int32)) (3 : Int32) 3 (by decide)).1 (by omega)
  have e0 : (0 : Int32).toInt = 0 := rfl
  have e1 : (1 : Int32).toInt = 1 := rfl
  have e2 : (2 : Int32).toInt = 2 := rfl
  simp only [← Int32.toInt_inj, e0, e1, e2]
  omega
theorem d3_0 : decode jdk_42_method_149_code 0 = .ok (.aload_n 0, 1) := by decide +kernel
theorem d3_1 : decode jdk_42_method_149_code 1 = .ok (.invokespecial 1, 3) := by decide +kernel
theorem d3_4 : decode jdk_42_method_149_code 4 = .ok (.iload_n 3, 1) := by decide +kernel
theorem d3_5 : decode jdk_42_method_149_code 5 = .ok (.ifCond .ne 22, 3) := by decide +kernel
theorem d3_8 : decode jdk_42_method_149_code 8 = .ok (.aload_n 0, 1) := by decide +kernel
theorem d3_9 : decode jdk_42_method_149_code 9 = .ok (.ldc 7, 2) := by decide +kernel
theorem d3_11 : decode jdk_42_method_149_code 11 = .ok (.getfield 9, 3) := by decide +kernel
theorem d3_14 : decode jdk_42_method_149_code 14 = .ok (.putfield 9, 3) := by decide +kernel
theorem d3_17 : decode jdk_42_method_149_code 17 = .ok (.aload_n 0, 1) := by decide +kernel
theorem d3_18 : decode jdk_42_method_149_code 18 = .ok (.ldc 7, 2) := by decide +kernel
theorem d3_20 : decode jdk_42_method_149_code 20 = .ok (.getfield 15, 3) := by decide +kernel
theorem d3_23 : decode jdk_42_method_149_code 23 = .ok (.putfield 15, 3) := by decide +kernel
theorem d3_26 : decode jdk_42_method_149_code 26 = .ok (.return_, 1) := by decide +kernel
theorem pn_0 : plainName "java/lang/String" = true := by first | (simp [plainName, overriddenIn]; done) | decide +kernel
theorem ef_rm_e4 (m : MethodId) (x0 : Addr) (x1 : Addr) : entryFrame m #[(.ref x0), (.ref x1), (.int (0 : Int32)), (.int (0 : Int32)), .null] 6 = mkF m 0 #[.val (.ref x0), .val (.ref x1), .val (.int (0 : Int32)), .val (.int (0 : Int32)), .val .null, .unset] [] := by first | (simp [entryFrame, mkF, argsToLocals, Value.category]; done) | rfl
def Q_rm_e4 (Z : State) (x : Addr) (b : Addr) (h0 : Heap) (n0 : Nat) (v : Option Value) (h : Heap) (L : List Loc) : Prop := v = none ∧ Fr n0 L ∧ Keep h0 h [x] ∧ Exa Z h x "java/lang/String" ∧ Fld Z h x "java/lang/String" "coder" "B" (.int 0) ∧ ∃ (t : Addr) (kb : ClassId), Fld Z h x "java/lang/String" "value" "[B" (.ref t) ∧ Arv Z h t kb .byte (0 : Int32) [] (.int 0)
set_option maxRecDepth 65536 in
set_option maxHeartbeats 40000000 in
theorem rm_e4 (l : Launch) (Z : State) (a0 : Array Value) (hw : ∀ d ∈ tables_1, d.before a0 Z = true) (ws : List Jvm.Cond) (x : Addr) (b : Addr) (h0 : Heap) (n0 : Nat) (Z0 : n0 ≤ h0.size) (Ex : Exa Z h0 x "java/lang/String") (Vx : Fld Z h0 x "java/lang/String" "value" "[B" .null) (Cx : Fld Z h0 x "java/lang/String" "coder" "B" (.int (0 : Int32))) (gx : n0 ≤ x) :
    MetFree l (⟨"java/lang/String", "<init>", "([CIILjava/lang/Void;)V"⟩ : MethodName) (head1 (Jvm.Cond.code (⟨"java/lang/String", "<init>", "([CIILjava/lang/Void;)V"⟩ : MethodName) jdk_42_method_149_code 6 none :: ws) ({ frames := 1, cells := 4, slots := 8, locals := 12 } : Room)) (fun aa_ U => aa_ = #[(.ref x), (.ref b), (.int (0 : Int32)), (.int (0 : Int32)), .null] ∧ Z.Warmed39 U.vm ∧ U.heap = h0 ∧ CHv Z consts_1 U.vm h0) (fun _ _ _ _ _ => True) (fun _ U o U' => ∃ v L, o = .returned v ∧ Q_rm_e4 Z x b h0 n0 v U'.heap L ∧ CHr Z consts_1 U.vm U.heap U'.vm U'.heap ∧ ReturnedEndW U o U' L ({ frames := 1, cells := 4, slots := 8, locals := 12 } : Room).cells ({ frames := 1, cells := 4, slots := 8, locals := 12 } : Room).slots) := by
  refine MetFree.of_bodySF (plainFor_of_name pn_0) hisR ?_
  intro p e s m args below meth c s₁ Bd hml0 hP hK
  obtain ⟨rfl, hZ, hh, CH0⟩ := hP
  have hx := Bd.exec
  have hby := Bd.bytes
  have hml : c.maxLocals = 6 := hml0
  have hown : s.vm.findClass "java/lang/String" = some m.cls := findClass_of_methodNamed Bd.named
  have hnm := (name_of_methodNamed Bd.named Bd.method).1
  have X0 : Stand p l e ({ frames := 1, cells := 4, slots := 8, locals := 12 } : Room) (s.setVm s.vm) m #[(.ref x), (.ref b), (.int (0 : Int32)), (.int (0 : Int32)), .null] below meth c s₁ [] 0 0 := Stand.of_body Bd
  have e0 : s₁.heap = h0 := by rw [← hh, Bd.state]; rfl
  have N0 := Fr.nil n0
  have hS0 : s.Since s.vm 0 := own_since s
  have hk0 : 0 ≤ h0.size := Nat.zero_le _
  have CR0 := CHr.refl CH0
  have hEL := own_EW hw
  have wS := own_wS hw
  have hZo := hZ
  refine Ends.cast (P := EndW s ({ frames := 1, cells := 4, slots := 8, locals := 12 } : Room) Z consts_1 (Q_rm_e4 Z x b h0 n0)) (ef_rm_e4 m x b) ?_
  refine Ends.pre (T' := s₁.setTop (mkF m 1 #[.val (.ref x), .val (.ref b), .val (.int (0 : Int32)), .val (.int (0 : Int32)), .val .null, .unset] [(.ref x)])) (fun t k => XS.aloadN X0.here hx rfl (hb hby d3_0) rfl rfl k) ?_
  obtain ⟨T1, X1, e1, st1⟩ := initO X0 hx hZ hown (hw _ (List.mem_of_getElem? (i := 16) rfl)) (hw _ (List.mem_of_getElem? (i := 17) rfl)) (hw _ (List.mem_of_getElem? (i := 18) rfl)) e0 (g := (mkF m 1 #[.val (.ref x), .val (.ref b), .val (.int (0 : Int32)), .val (.int (0 : Int32)), .val .null, .unset] [(.ref x)])) rfl (by rw [hml]; rfl) rfl (hb hby d3_1) (by decide) (W := 0) (by show 2 * 0 + _ ≤ _; exact Nat.le_of_eq rfl) (by decide)
  refine Ends.pre (T' := T1.setTop (mkF m 4 #[.val (.ref x), .val (.ref b), .val (.int (0 : Int32)), .val (.int (0 : Int32)), .val .null, .unset] [])) (fun t k => st1 _ k) ?_
  refine Ends.pre (T' := T1.setTop (mkF m 5 #[.val (.ref x), .val (.ref b), .val (.int (0 : Int32)), .val (.int (0 : Int32)), .val .null, .unset] [(.int (0 : Int32))])) (fun t k => XS.iloadN X1.here hx rfl (hb hby d3_4) rfl k) ?_
  refine Ends.pre (T' := T1.setTop (mkF m 8 #[.val (.ref x), .val (.ref b), .val (.int (0 : Int32)), .val (.int (0 : Int32)), .val .null, .unset] [])) (fun t k => XS.ifNo X1.here hx rfl (hb hby d3_5) rfl (by decide) k) ?_
  refine Ends.pre (T' := T1.setTop (mkF m 9 #[.val (.ref x), .val (.ref b), .val (.int (0 : Int32)), .val (.int (0 : Int32)), .val .null, .unset] [(.ref x)])) (fun t k => XS.aloadN X1.here hx rfl (hb hby d3_8) rfl rfl k) ?_
  obtain ⟨a2, T2, h2, k2, t2, kb2, X2, e2, E2, hS2, hk2, hZ2, hown2, Ea2, Ca2, Va2, Aa2, la2, lb2, CL2, Lt2, Sf2, st2⟩ := ldcCH X1 hx hZ hown (hw _ (List.mem_of_getElem? (i := 19) rfl)) wS e1 hS0 hk0 hEL (by decide) CH0 (vs := []) (z := (0 : Int32)) ⟨by decide, rfl⟩ (by decide) rfl (g := (mkF m 9 #[.val (.ref x), .val (.ref b), .val (.int (0 : Int32)), .val (.int (0 : Int32)), .val .null, .unset] [(.ref x)])) rfl (hb hby d3_9) (n := 0) (by decide) (by decide) (by decide) (by decide)
  have CR2 := CHr.trans CR0 CL2
  have K2 : Keep h0 h2 [x] := (Keep.refl h0 [x]).ext E2
  refine Ends.pre (T' := T2.setTop (mkF m 11 #[.val (.ref x), .val (.ref b), .val (.int (0 : Int32)), .val (.int (0 : Int32)), .val .null, .unset] [(.ref a2), (.ref x)])) (fun t k => st2 _ k) ?_
  obtain ⟨T3, X3, e3, st3⟩ := getF X2 hx hZ2 hown2 (host := "") (Or.inl (hw _ (List.mem_of_getElem? (i := 25) rfl))) Via.refl e2 Va2 (g := (mkF m 11 #[.val (.ref x), .val (.ref b), .val (.int (0 : Int32)), .val (.int (0 : Int32)), .val .null, .unset] [(.ref a2), (.ref x)])) rfl rfl (hb hby d3_11)
  refine Ends.pre (T' := T3.setTop (mkF m 14 #[.val (.ref x), .val (.ref b), .val (.int (0 : Int32)), .val (.int (0 : Int32)), .val .null, .unset] [(.ref t2), (.ref x)])) (fun t k => st3 _ k) ?_
  have F4 : Fld Z h2 x "java/lang/String" "value" "[B" .null := (Vx.ext E2)
  have F5 : Exa Z h2 x "java/lang/String" := (Ex.ext E2)
  obtain ⟨T6, h6, X6, e6, W6, st6⟩ := putF X3 hx hZ2 hown2 (host := "") (Or.inl (hw _ (List.mem_of_getElem? (i := 25) rfl))) Via.refl e3 F4 F5 (Or.inr ⟨(hw _ (List.mem_of_getElem? (i := 21) rfl)), rfl, hnm⟩) (hw _ (List.mem_of_getElem? (i := 7) rfl)) (ty := (.array .byte)) (by decide) rfl rfl (g := (mkF m 14 #[.val (.ref x), .val (.ref b), .val (.int (0 : Int32)), .val (.int (0 : Int32)), .val .null, .unset] [(.ref t2), (.ref x)])) rfl rfl (hb hby d3_14)
  have CR6 := CHr.trans CR2 (CHr.wr W6 (CHr.safe CL2 Ex.lt (Safe_null hZo.alike Ex Vx)) CR2.1)
  have Fw6 : Fld Z h6 x "java/lang/String" "value" "[B" (.ref t2) := F4.same W6
  have N6 := Fr.snoc X6 N0 gx
  refine Ends.pre (T' := T6.setTop (mkF m 17 #[.val (.ref x), .val (.ref b), .val (.int (0 : Int32)), .val (.int (0 : Int32)), .val .null, .unset] [])) (fun t k => st6 _ k) ?_
  have K6 : Keep h0 h6 [x] := K2.wr W6 (Or.inl (List.mem_of_getElem? (i := 0) rfl))
  refine Ends.pre (T' := T6.setTop (mkF m 18 #[.val (.ref x), .val (.ref b), .val (.int (0 : Int32)), .val (.int (0 : Int32)), .val .null, .unset] [(.ref x)])) (fun t k => XS.aloadN X6.here hx rfl (hb hby d3_17) rfl rfl k) ?_
  obtain ⟨a7, T7, h7, k7, t7, kb7, X7, e7, E7, hS7, hk7, hZ7, hown7, Ea7, Ca7, Va7, Aa7, la7, lb7, CL7, Lt7, Sf7, st7⟩ := ldcCH X6 hx hZ2 hown2 (hw _ (List.mem_of_getElem? (i := 19) rfl)) wS e6 hS2 (Nat.le_trans hk2 (Keep.of_wr W6).1) hEL (by decide) CR6.1 (vs := []) (z := (0 : Int32)) ⟨by decide, rfl⟩ (by decide) rfl (g := (mkF m 18 #[.val (.ref x), .val (.ref b), .val (.int (0 : Int32)), .val (.int (0 : Int32)), .val .null, .unset] [(.ref x)])) rfl (hb hby d3_18) (n := 0) (by decide) (by decide) (by decide) (by decide)
  have CR7 := CHr.trans CR6 CL7
  have K7 : Keep h0 h7 [x] := K6.ext E7
  refine Ends.pre (T' := T7.setTop (mkF m 20 #[.val (.ref x), .val (.ref b), .val (.int (0 : Int32)), .val (.int (0 : Int32)), .val .null, .unset] [(.ref a7), (.ref x)])) (fun t k => st7 _ k) ?_
  obtain ⟨T8, X8, e8, st8⟩ := getF X7 hx hZ7 hown7 (host := "") (Or.inl (hw _ (List.mem_of_getElem? (i := 26) rfl))) Via.refl e7 Ca7 (g := (mkF m 20 #[.val (.ref x), .val (.ref b), .val (.int (0 : Int32)), .val (.int (0 : Int32)), .val .null, .unset] [(.ref a7), (.ref x)])) rfl rfl (hb hby d3_20)
  refine Ends.pre (T' := T8.setTop (mkF m 23 #[.val (.ref x), .val (.ref b), .val (.int (0 : Int32)), .val (.int (0 : Int32)), .val .null, .unset] [(.int (0 : Int32)), (.ref x)])) (fun t k => st8 _ k) ?_
  have F9 : Fld Z h7 x "java/lang/String" "coder" "B" (.int (0 : Int32)) := (((Cx.ext E2).other W6 (Or.inr (slot_ne (Or.inr (hw _ (List.mem_of_getElem? (i := 22) rfl))) (Or.inr (hw _ (List.mem_of_getElem? (i := 21) rfl))) (by decide) (t := .byte) (t' := (.array .byte)) (by decide) (by decide)))).ext E7)
  have F10 : Exa Z h7 x "java/lang/String" := ((F5.wr W6).ext E7)
  obtain ⟨T11, h11, X11, e11, W11, st11⟩ := putF X8 hx hZ7 hown7 (host := "") (Or.inl (hw _ (List.mem_of_getElem? (i := 26) rfl))) Via.refl e8 F9 F10 (Or.inr ⟨(hw _ (List.mem_of_getElem? (i := 22) rfl)), rfl, hnm⟩) (hw _ (List.mem_of_getElem? (i := 7) rfl)) (ty := .byte) (by decide) (by decide) (by decide) (g := (mkF m 23 #[.val (.ref x), .val (.ref b), .val (.int (0 : Int32)), .val (.int (0 : Int32)), .val .null, .unset] [(.int (0 : Int32)), (.ref x)])) rfl rfl (hb hby d3_23)
  have CR11 := CHr.trans CR7 (CHr.wr W11 (CHr.safe CL7 (Nat.lt_of_lt_of_le (Nat.lt_of_lt_of_le Ex.lt E2.1) (Keep.of_wr W6).1) (Safe.wr W6 (CHr.safe CL2 Ex.lt (Safe_null hZo.alike Ex Vx)) CR2.1 (CHr.safe CL2 Ex.lt (Safe_null hZo.alike Ex Vx)))) CR7.1)
  have Fw11 : Fld Z h11 x "java/lang/String" "coder" "B" (.int (0 : Int32)) := F9.same W11
  have N11 := Fr.snoc X11 N6 gx
  refine Ends.pre (T' := T11.setTop (mkF m 26 #[.val (.ref x), .val (.ref b), .val (.int (0 : Int32)), .val (.int (0 : Int32)), .val .null, .unset] [])) (fun t k => st11 _ k) ?_
  have K11 : Keep h0 h11 [x] := K7.wr W11 (Or.inl (List.mem_of_getElem? (i := 0) rfl))
  have F12 : Exa Z h11 x "java/lang/String" := (F10.wr W11)
  have F13 : Fld Z h11 x "java/lang/String" "value" "[B" (.ref t2) := ((Fw6.ext E7).other W11 (Or.inr (slot_ne (Or.inr (hw _ (List.mem_of_getElem? (i := 21) rfl))) (Or.inr (hw _ (List.mem_of_getElem? (i := 22) rfl))) (by decide) (t := (.array .byte)) (t' := .byte) (by decide) (by decide))))
  have F14 : Arv Z h11 t2 kb2 .byte (0 : Int32) [] (.int 0) := ((Arv.ext (Aa2.other W6 (Ne.symm (Exa.neArv F5 Aa2 (hw _ (List.mem_of_getElem? (i := 7) rfl))))) E7).other W11 (Ne.symm (Exa.neArv F10 (Arv.ext (Aa2.other W6 (Ne.symm (Exa.neArv F5 Aa2 (hw _ (List.mem_of_getElem? (i := 7) rfl))))) E7) (hw _ (List.mem_of_getElem? (i := 7) rfl)))))
  exact Ends.ret0W X11 hx Bd.notSynchronized Bd.returns (hb hby d3_26) e11 hZ7 hEL hS7 (Nat.le_trans hk7 (Keep.of_wr W11).1) hh CR11 ⟨rfl, N11, K11, F12, Fw11, t2, _, F13, F14⟩ (by decide) (by decide)
theorem d2_0 : decode jdk_42_method_3_code 0 = .ok (.aload_n 0, 1) := by decide +kernel
theorem d2_1 : decode jdk_42_method_3_code 1 = .ok (.aload_n 1, 1) := by decide +kernel
theorem d2_2 : decode jdk_42_method_3_code 2 = .ok (.iconst 0, 1) := by decide +kernel
theorem d2_3 : decode jdk_42_method_3_code 3 = .ok (.aload_n 1, 1) := by decide +kernel
theorem d2_4 : decode jdk_42_method_3_code 4 = .ok (.arraylength, 1) := by decide +kernel
theorem d2_5 : decode jdk_42_method_3_code 5 = .ok (.aconst_null, 1) := by decide +kernel
theorem d2_6 : decode jdk_42_method_3_code 6 = .ok (.invokespecial 27, 3) := by decide +kernel
theorem pd_0 : parseMethodDescriptor "([CIILjava/lang/Void;)V" = some ⟨[(.array .char), .int, .int, (.object "java/lang/Void")], none⟩ := by decide +kernel
theorem d2_9 : decode jdk_42_method_3_code 9 = .ok (.return_, 1) := by decide +kernel
theorem ef_rm_e1 (m : MethodId) (x0 : Addr) (x1 : Addr) : entryFrame m #[(.ref x0), (.ref x1)] 2 = mkF m 0 #[.val (.ref x0), .val (.ref x1)] [] := by first | (simp [entryFrame, mkF, argsToLocals, Value.category]; done) | rfl
def Q_rm_e1 (Z : State) (x : Addr) (b : Addr) (kC : ClassId) (h0 : Heap) (n0 : Nat) (v : Option Value) (h : Heap) (L : List Loc) : Prop := v = none ∧ Fr n0 L ∧ Keep h0 h [x] ∧ Exa Z h x "java/lang/String" ∧ Fld Z h x "java/lang/String" "coder" "B" (.int 0) ∧ ∃ (t : Addr) (kb : ClassId), Fld Z h x "java/lang/String" "value" "[B" (.ref t) ∧ Arv Z h t kb .byte (0 : Int32) [] (.int 0)
set_option maxRecDepth 65536 in
set_option maxHeartbeats 40000000 in
theorem rm_e1 (l : Launch) (Z : State) (a0 : Array Value) (hw : ∀ d ∈ tables_1, d.before a0 Z = true) (ws : List Jvm.Cond) (x : Addr) (b : Addr) (kC : ClassId) (h0 : Heap) (n0 : Nat) (Z0 : n0 ≤ h0.size) (Ex : Exa Z h0 x "java/lang/String") (Vx : Fld Z h0 x "java/lang/String" "value" "[B" .null) (Cx : Fld Z h0 x "java/lang/String" "coder" "B" (.int (0 : Int32))) (gx : n0 ≤ x) (Vb : Arv Z h0 b kC .char (0 : Int32) [] (.int (0 : Int32))) :
    MetFree l (⟨"java/lang/String", "<init>", "([C)V"⟩ : MethodName) (head1 (Jvm.Cond.code (⟨"java/lang/String", "<init>", "([C)V"⟩ : MethodName) jdk_42_method_3_code 2 none :: ws) ({ frames := 2, cells := 4, slots := 8, locals := 29 } : Room)) (fun aa_ U => aa_ = #[(.ref x), (.ref b)] ∧ Z.Warmed39 U.vm ∧ U.heap = h0 ∧ CHv Z consts_1 U.vm h0) (fun _ _ _ _ _ => True) (fun _ U o U' => ∃ v L, o = .returned v ∧ Q_rm_e1 Z x b kC h0 n0 v U'.heap L ∧ CHr Z consts_1 U.vm U.heap U'.vm U'.heap ∧ ReturnedEndW U o U' L ({ frames := 2, cells := 4, slots := 8, locals := 29 } : Room).cells ({ frames := 2, cells := 4, slots := 8, locals := 29 } : Room).slots) := by
  refine MetFree.of_bodySF (plainFor_of_name pn_0) hisR ?_
  intro p e s m args below meth c s₁ Bd hml0 hP hK
  obtain ⟨rfl, hZ, hh, CH0⟩ := hP
  have hx := Bd.exec
  have hby := Bd.bytes
  have hml : c.maxLocals = 2 := hml0
  have hown : s.vm.findClass "java/lang/String" = some m.cls := findClass_of_methodNamed Bd.named
  have hnm := (name_of_methodNamed Bd.named Bd.method).1
  have X0 : Stand p l e ({ frames := 2, cells := 4, slots := 8, locals := 29 } : Room) (s.setVm s.vm) m #[(.ref x), (.ref b)] below meth c s₁ [] 0 0 := Stand.of_body Bd
  have e0 : s₁.heap = h0 := by rw [← hh, Bd.state]; rfl
  have N0 := Fr.nil n0
  have hS0 : s.Since s.vm 0 := own_since s
  have hk0 : 0 ≤ h0.size := Nat.zero_le _
  have CR0 := CHr.refl CH0
  have hEL := own_EW hw
  have wS := own_wS hw
  have hZo := hZ
  refine Ends.cast (P := EndW s ({ frames := 2, cells := 4, slots := 8, locals := 29 } : Room) Z consts_1 (Q_rm_e1 Z x b kC h0 n0)) (ef_rm_e1 m x b) ?_
  refine Ends.pre (T' := s₁.setTop (mkF m 1 #[.val (.ref x), .val (.ref b)] [(.ref x)])) (fun t k => XS.aloadN X0.here hx rfl (hb hby d2_0) rfl rfl k) ?_
  refine Ends.pre (T' := s₁.setTop (mkF m 2 #[.val (.ref x), .val (.ref b)] [(.ref b), (.ref x)])) (fun t k => XS.aloadN X0.here hx rfl (hb hby d2_1) rfl rfl k) ?_
  refine Ends.pre (T' := s₁.setTop (mkF m 3 #[.val (.ref x), .val (.ref b)] [(.int (0 : Int32)), (.ref b), (.ref x)])) (fun t k => XS.iconst X0.here hx rfl (hb hby d2_2) k) ?_
  refine Ends.pre (T' := s₁.setTop (mkF m 4 #[.val (.ref x), .val (.ref b)] [(.ref b), (.int (0 : Int32)), (.ref b), (.ref x)])) (fun t k => XS.aloadN X0.here hx rfl (hb hby d2_3) rfl rfl k) ?_
  obtain ⟨cl1, Ar1, q1, S1, N1', H1, G1⟩ := id Vb
  refine Ends.pre (T' := s₁.setTop (mkF m 5 #[.val (.ref x), .val (.ref b)] [(.int (0 : Int32)), (.int (0 : Int32)), (.ref b), (.ref x)])) (fun t k => X0.arraylength hx (by rw [e0]; exact Ar1.1) (State.isArrayOf_alike hZ.alike Ar1.2.1) (g := (mkF m 4 #[.val (.ref x), .val (.ref b)] [(.ref b), (.int (0 : Int32)), (.ref b), (.ref x)])) rfl rfl (hb hby d2_4) _ (by rw [len_of S1 N1']; exact k)) ?_
  refine Ends.pre (T' := s₁.setTop (mkF m 6 #[.val (.ref x), .val (.ref b)] [.null, (.int (0 : Int32)), (.int (0 : Int32)), (.ref b), (.ref x)])) (fun t k => XS.aconstNull X0.here hx rfl (hb hby d2_5) k) ?_
  obtain ⟨_, _, ⟨T2, L2, k2, n2⟩, -, Xa2, hSa2, ga2, ⟨Lc2, hQ2, l2, y2, z2, CRc2⟩, st2⟩ := X0.specialBackS hx (y := (⟨"java/lang/String", "<init>", "([CIILjava/lang/Void;)V"⟩ : MethodName)) rfl hown (mvT hZ (hw _ (List.mem_of_getElem? (i := 12) rfl))) (mvT hZ (hw _ (List.mem_of_getElem? (i := 13) rfl))) (mvT hZ (hw _ (List.mem_of_getElem? (i := 15) rfl))) (by decide) (backOfSH (W := 0) (rm_e4 l Z a0 hw [] x b h0 n0 Z0 Ex Vx Cx gx) hZ (hw _ (List.mem_of_getElem? (i := 15) rfl)) (hw _ (List.mem_of_getElem? (i := 8) rfl)) (by decide) (by decide) hEL CH0) (g := (mkF m 6 #[.val (.ref x), .val (.ref b)] [.null, (.int (0 : Int32)), (.int (0 : Int32)), (.ref b), (.ref x)])) rfl (by rw [hml]; rfl) (Steps.refl _) (a := x) (argsL := [(.ref b), (.int (0 : Int32)), (.int (0 : Int32)), .null]) (rest := []) (lenOf pd_0 rfl) rfl (by show 2 * 0 + _ ≤ _; exact Nat.le_of_eq rfl) (hb hby d2_6) (fun _ _ => ⟨rfl, e0, (by decide : 0 + 4 ≤ _), (by decide : 0 + 8 ≤ _)⟩)
  dsimp only [Pt.U, Pt.locs, Pt.cells, Pt.slots] at Xa2 hSa2 ga2 l2 y2 z2 st2 hQ2 CRc2
  subst l2 y2 z2
  obtain ⟨X2, hS2, hZ2, hown2⟩ := rebS hS0 (n1 := s₁.heap.size) (by rw [e0]; exact hk0) Xa2 hSa2 ga2 hZ hown
  obtain ⟨rfl, N2q, Kc2, Es2, Cs2, t2, kb2, Vs2, As2⟩ := hQ2
  have N2 := Fr.app N0 N2q
  have K2 : Keep h0 T2.heap [x] := (Keep.refl h0 [x]).trans Kc2 (allS (Or.inl (List.mem_of_getElem? (i := 0) rfl)) all0)
  have CR2 := CHr.trans CR0 CRc2
  refine Ends.pre (T' := T2.setTop (mkF m 9 #[.val (.ref x), .val (.ref b)] [])) (fun t k => st2.trans k) ?_
  exact Ends.ret0W X2 hx Bd.notSynchronized Bd.returns (hb hby d2_9) rfl hZ2 hEL hS2 (Nat.le_refl _) hh CR2 ⟨rfl, N2, K2, Es2, Cs2, t2, kb2, Vs2, As2⟩ (by decide) (by decide)
theorem d1_0 : decode method_2_code 0 = .ok (.iload_n 0, 1) := by decide +kernel
theorem d1_1 : decode method_2_code 1 = .ok (.bipush 10, 2) := by decide +kernel
theorem d1_3 : decode method_2_code 3 = .ok (.if_icmp .ge 9, 3) := by decide +kernel
theorem d1_6 : decode method_2_code 6 = .ok (.bipush 48, 2) := by decide +kernel
theorem d1_8 : decode method_2_code 8 = .ok (.iload_n 0, 1) := by decide +kernel
theorem d1_9 : decode method_2_code 9 = .ok (.iadd, 1) := by decide +kernel
theorem d1_10 : decode method_2_code 10 = .ok (.i2c, 1) := by decide +kernel
theorem d1_11 : decode method_2_code 11 = .ok (.ireturn, 1) := by decide +kernel
theorem d1_12 : decode method_2_code 12 = .ok (.iload_n 1, 1) := by decide +kernel
theorem d1_13 : decode method_2_code 13 = .ok (.ifCond .eq 12, 3) := by decide +kernel
theorem d1_25 : decode method_2_code 25 = .ok (.bipush 97, 2) := by decide +kernel
theorem d1_27 : decode method_2_code 27 = .ok (.iload_n 0, 1) := by decide +kernel
theorem d1_28 : decode method_2_code 28 = .ok (.bipush 10, 2) := by decide +kernel
theorem d1_30 : decode method_2_code 30 = .ok (.isub, 1) := by decide +kernel
theorem d1_31 : decode method_2_code 31 = .ok (.iadd, 1) := by decide +kernel
theorem d1_32 : decode method_2_code 32 = .ok (.i2c, 1) := by decide +kernel
theorem d1_33 : decode method_2_code 33 = .ok (.ireturn, 1) := by decide +kernel
theorem d1_16 : decode method_2_code 16 = .ok (.bipush 65, 2) := by decide +kernel
theorem d1_18 : decode method_2_code 18 = .ok (.iload_n 0, 1) := by decide +kernel
theorem d1_19 : decode method_2_code 19 = .ok (.bipush 10, 2) := by decide +kernel
theorem d1_21 : decode method_2_code 21 = .ok (.isub, 1) := by decide +kernel
theorem d1_22 : decode method_2_code 22 = .ok (.iadd, 1) := by decide +kernel
theorem d1_23 : decode method_2_code 23 = .ok (.i2c, 1) := by decide +kernel
theorem d1_24 : decode method_2_code 24 = .ok (.ireturn, 1) := by decide +kernel
theorem pn_1 : plainName "com/example/wireform/wireform/HexParsePinLaw" = true := by first | (simp [plainName, overriddenIn]; done) | decide +kernel
theorem ef_rm1 (m : MethodId) (x0 : Int32) (x1 : Int32) : entryFrame m #[(.int x0), (.int x1)] 2 = mkF m 0 #[.val (.int x0), .val (.int x1)] [] := by first | (simp [entryFrame, mkF, argsToLocals, Value.category]; done) | rfl
def Q_rm1 (Z : State) (v0 : Int32) (cb : Int32) (h0 : Heap) (n0 : Nat) (v : Option Value) (h : Heap) (L : List Loc) : Prop := ∃ c, v = some (.int c) ∧ HexC c v0 ∧ Fr n0 L ∧ h = h0
set_option maxRecDepth 65536 in
set_option maxHeartbeats 40000000 in
theorem rm1 (l : Launch) (Z : State) (a0 : Array Value) (hw : ∀ d ∈ tables_1, d.before a0 Z = true) (ws : List Jvm.Cond) (v0 : Int32) (cb : Int32) (h0 : Heap) (n0 : Nat) (Z0 : n0 ≤ h0.size) (hv : ¬ v0 < 0 ∧ ¬ (15 : Int32) < v0) :
    MetFree l (⟨"com/example/wireform/wireform/HexParsePinLaw", "hexChar", "(II)C"⟩ : MethodName) (head1 (Jvm.Cond.code (⟨"com/example/wireform/wireform/HexParsePinLaw", "hexChar", "(II)C"⟩ : MethodName) method_2_code 2 (some .char) :: ws) ({ frames := 0, cells := 0, slots := 0, locals := 0 } : Room)) (fun aa_ U => aa_ = #[(.int v0), (.int cb)] ∧ Z.Warmed39 U.vm ∧ U.heap = h0) (fun _ _ _ _ _ => True) (fun _ U o U' => ∃ v L, o = .returned v ∧ Q_rm1 Z v0 cb h0 n0 v U'.heap L ∧ FrameEnd U o U' L ({ frames := 0, cells := 0, slots := 0, locals := 0 } : Room).cells ({ frames := 0, cells := 0, slots := 0, locals := 0 } : Room).slots) := by
  refine MetFree.of_bodySF (plainFor_of_name pn_1) hisR ?_
  intro p e s m args below meth c s₁ Bd hml0 hP hK
  obtain ⟨rfl, hZ, hh⟩ := hP
  have hx := Bd.exec
  have hby := Bd.bytes
  have hml : c.maxLocals = 2 := hml0
  have hown : s.vm.findClass "com/example/wireform/wireform/HexParsePinLaw" = some m.cls := findClass_of_methodNamed Bd.named
  have hnm := (name_of_methodNamed Bd.named Bd.method).1
  have X0 : Stand p l e ({ frames := 0, cells := 0, slots := 0, locals := 0 } : Room) s m #[(.int v0), (.int cb)] below meth c s₁ [] 0 0 := Stand.of_body Bd
  have e0 : s₁.heap = h0 := by rw [← hh, Bd.state]; rfl
  have N0 := Fr.nil n0
  refine Ends.cast (P := EndN s ({ frames := 0, cells := 0, slots := 0, locals := 0 } : Room) (Q_rm1 Z v0 cb h0 n0)) (ef_rm1 m v0 cb) ?_
  refine Ends.pre (T' := s₁.setTop (mkF m 1 #[.val (.int v0), .val (.int cb)] [(.int v0)])) (fun t k => XS.iloadN X0.here hx rfl (hb hby d1_0) rfl k) ?_
  refine Ends.pre (T' := s₁.setTop (mkF m 3 #[.val (.int v0), .val (.int cb)] [(.int (10 : Int32)), (.int v0)])) (fun t k => XS.bipush X0.here hx rfl (hb hby d1_1) k) ?_
  by_cases hc3_1 : v0 < (10 : Int32)
  · refine Ends.pre (T' := s₁.setTop (mkF m 6 #[.val (.int v0), .val (.int cb)] [])) (fun t k => XS.icmpNo X0.here hx rfl (hb hby d1_3) rfl (Jvm.Free.XT.ii_ge_f hc3_1) k) ?_
    refine Ends.pre (T' := s₁.setTop (mkF m 8 #[.val (.int v0), .val (.int cb)] [(.int (48 : Int32))])) (fun t k => XS.bipush X0.here hx rfl (hb hby d1_6) k) ?_
    refine Ends.pre (T' := s₁.setTop (mkF m 9 #[.val (.int v0), .val (.int cb)] [(.int v0), (.int (48 : Int32))])) (fun t k => XS.iloadN X0.here hx rfl (hb hby d1_8) rfl k) ?_
    refine Ends.pre (T' := s₁.setTop (mkF m 10 #[.val (.int v0), .val (.int cb)] [(.int ((48 : Int32) + v0))])) (fun t k => XS.iadd X0.here hx rfl (hb hby d1_9) rfl k) ?_
    refine Ends.pre (T' := s₁.setTop (mkF m 11 #[.val (.int v0), .val (.int cb)] [(.int (((48 : Int32) + v0).toUInt32.toUInt16.toUInt32.toInt32))])) (fun t k => XS.i2c X0.here hx rfl (hb hby d1_10) rfl k) ?_
    exact Ends.ret (w := (.int (((48 : Int32) + v0).toUInt32.toUInt16.toUInt32.toInt32))) X0 hx Bd.notSynchronized Bd.returns (Jvm.Free.XT.narrow_c _) (Or.inl ⟨rfl, Or.inr (Or.inr (Or.inr (Or.inl rfl))), _, rfl⟩) (hb hby d1_11) e0 ⟨_, rfl, own_c10 hv hc3_1, N0, rfl⟩ (by decide) (by decide)
  · refine Ends.pre (T' := s₁.setTop (mkF m 12 #[.val (.int v0), .val (.int cb)] [])) (fun t k => XS.icmpYes X0.here hx rfl (pc0 := 3) (pc' := 12) rfl (hb hby d1_3) rfl (Jvm.Free.XT.ii_ge_t hc3_1) (by decide) (by decide) k) ?_
    refine Ends.pre (T' := s₁.setTop (mkF m 13 #[.val (.int v0), .val (.int cb)] [(.int cb)])) (fun t k => XS.iloadN X0.here hx rfl (hb hby d1_12) rfl k) ?_
    by_cases hc13_2 : cb = 0
    · refine Ends.pre (T' := s₁.setTop (mkF m 25 #[.val (.int v0), .val (.int cb)] [])) (fun t k => XS.ifYes X0.here hx rfl (pc0 := 13) (pc' := 25) rfl (hb hby d1_13) rfl (Jvm.Free.XT.i0_eq_t hc13_2) (by decide) (by decide) k) ?_
      refine Ends.pre (T' := s₁.setTop (mkF m 27 #[.val (.int v0), .val (.int cb)] [(.int (97 : Int32))])) (fun t k => XS.bipush X0.here hx rfl (hb hby d1_25) k) ?_
      refine Ends.pre (T' := s₁.setTop (mkF m 28 #[.val (.int v0), .val (.int cb)] [(.int v0), (.int (97 : Int32))])) (fun t k => XS.iloadN X0.here hx rfl (hb hby d1_27) rfl k) ?_
      refine Ends.pre (T' := s₁.setTop (mkF m 30 #[.val (.int v0), .val (.int cb)] [(.int (10 : Int32)), (.int v0), (.int (97 : Int32))])) (fun t k => XS.bipush X0.here hx rfl (hb hby d1_28) k) ?_
      refine Ends.pre (T' := s₁.setTop (mkF m 31 #[.val (.int v0), .val (.int cb)] [(.int (v0 - (10 : Int32))), (.int (97 : Int32))])) (fun t k => XS.isub X0.here hx rfl (hb hby d1_30) rfl k) ?_
      refine Ends.pre (T' := s₁.setTop (mkF m 32 #[.val (.int v0), .val (.int cb)] [(.int ((97 : Int32) + (v0 - (10 : Int32))))])) (fun t k => XS.iadd X0.here hx rfl (hb hby d1_31) rfl k) ?_
      refine Ends.pre (T' := s₁.setTop (mkF m 33 #[.val (.int v0), .val (.int cb)] [(.int (((97 : Int32) + (v0 - (10 : Int32))).toUInt32.toUInt16.toUInt32.toInt32))])) (fun t k => XS.i2c X0.here hx rfl (hb hby d1_32) rfl k) ?_
      exact Ends.ret (w := (.int (((97 : Int32) + (v0 - (10 : Int32))).toUInt32.toUInt16.toUInt32.toInt32))) X0 hx Bd.notSynchronized Bd.returns (Jvm.Free.XT.narrow_c _) (Or.inl ⟨rfl, Or.inr (Or.inr (Or.inr (Or.inl rfl))), _, rfl⟩) (hb hby d1_33) e0 ⟨_, rfl, own_cA (97 : Int32) 97 (by decide) (by decide) hv hc3_1, N0, rfl⟩ (by decide) (by decide)
    · refine Ends.pre (T' := s₁.setTop (mkF m 16 #[.val (.int v0), .val (.int cb)] [])) (fun t k => XS.ifNo X0.here hx rfl (hb hby d1_13) rfl (Jvm.Free.XT.i0_eq_f hc13_2) k) ?_
      refine Ends.pre (T' := s₁.setTop (mkF m 18 #[.val (.int v0), .val (.int cb)] [(.int (65 : Int32))])) (fun t k => XS.bipush X0.here hx rfl (hb hby d1_16) k) ?_
      refine Ends.pre (T' := s₁.setTop (mkF m 19 #[.val (.int v0), .val (.int cb)] [(.int v0), (.int (65 : Int32))])) (fun t k => XS.iloadN X0.here hx rfl (hb hby d1_18) rfl k) ?_
      refine Ends.pre (T' := s₁.setTop (mkF m 21 #[.val (.int v0), .val (.int cb)] [(.int (10 : Int32)), (.int v0), (.int (65 : Int32))])) (fun t k => XS.bipush X0.here hx rfl (hb hby d1_19) k) ?_
      refine Ends.pre (T' := s₁.setTop (mkF m 22 #[.val (.int v0), .val (.int cb)] [(.int (v0 - (10 : Int32))), (.int (65 : Int32))])) (fun t k => XS.isub X0.here hx rfl (hb hby d1_21) rfl k) ?_
      refine Ends.pre (T' := s₁.setTop (mkF m 23 #[.val (.int v0), .val (.int cb)] [(.int ((65 : Int32) + (v0 - (10 : Int32))))])) (fun t k => XS.iadd X0.here hx rfl (hb hby d1_22) rfl k) ?_
      refine Ends.pre (T' := s₁.setTop (mkF m 24 #[.val (.int v0), .val (.int cb)] [(.int (((65 : Int32) + (v0 - (10 : Int32))).toUInt32.toUInt16.toUInt32.toInt32))])) (fun t k => XS.i2c X0.here hx rfl (hb hby d1_23) rfl k) ?_
      exact Ends.ret (w := (.int (((65 : Int32) + (v0 - (10 : Int32))).toUInt32.toUInt16.toUInt32.toInt32))) X0 hx Bd.notSynchronized Bd.returns (Jvm.Free.XT.narrow_c _) (Or.inl ⟨rfl, Or.inr (Or.inr (Or.inr (Or.inl rfl))), _, rfl⟩) (hb hby d1_24) e0 ⟨_, rfl, own_cA (65 : Int32) 65 (by decide) (by decide) hv hc3_1, N0, rfl⟩ (by decide) (by decide)
theorem d11_0 : decode prog_2_method_4_code 0 = .ok (.aload_n 0, 1) := by decide +kernel
theorem d11_1 : decode prog_2_method_4_code 1 = .ok (.iload_n 1, 1) := by decide +kernel
theorem d11_2 : decode prog_2_method_4_code 2 = .ok (.invokevirtual 35, 3) := by decide +kernel
theorem pd_1 : parseMethodDescriptor "(I)C" = some ⟨[.int], some .char⟩ := by decide +kernel
theorem d11_5 : decode prog_2_method_4_code 5 = .ok (.istore_n 2, 1) := by decide +kernel
theorem d11_6 : decode prog_2_method_4_code 6 = .ok (.iload_n 2, 1) := by decide +kernel
theorem d11_7 : decode prog_2_method_4_code 7 = .ok (.bipush 48, 2) := by decide +kernel
theorem d11_9 : decode prog_2_method_4_code 9 = .ok (.if_icmp .lt 17, 3) := by decide +kernel
theorem d11_26 : decode prog_2_method_4_code 26 = .ok (.iload_n 2, 1) := by decide +kernel
theorem d11_27 : decode prog_2_method_4_code 27 = .ok (.bipush 97, 2) := by decide +kernel
theorem d11_29 : decode prog_2_method_4_code 29 = .ok (.if_icmp .lt 20, 3) := by decide +kernel
theorem d11_49 : decode prog_2_method_4_code 49 = .ok (.iload_n 2, 1) := by decide +kernel
theorem d11_50 : decode prog_2_method_4_code 50 = .ok (.bipush 65, 2) := by decide +kernel
theorem d11_52 : decode prog_2_method_4_code 52 = .ok (.if_icmp .lt 20, 3) := by decide +kernel
theorem d11_55 : decode prog_2_method_4_code 55 = .ok (.iload_n 2, 1) := by decide +kernel
theorem d11_56 : decode prog_2_method_4_code 56 = .ok (.bipush 70, 2) := by decide +kernel
theorem d11_58 : decode prog_2_method_4_code 58 = .ok (.if_icmp .gt 14, 3) := by decide +kernel
theorem d11_61 : decode prog_2_method_4_code 61 = .ok (.iload_n 2, 1) := by decide +kernel
theorem d11_62 : decode prog_2_method_4_code 62 = .ok (.bipush 65, 2) := by decide +kernel
theorem d11_64 : decode prog_2_method_4_code 64 = .ok (.isub, 1) := by decide +kernel
theorem d11_65 : decode prog_2_method_4_code 65 = .ok (.bipush 10, 2) := by decide +kernel
theorem d11_67 : decode prog_2_method_4_code 67 = .ok (.iadd, 1) := by decide +kernel
theorem d11_68 : decode prog_2_method_4_code 68 = .ok (.istore_n 3, 1) := by decide +kernel
theorem d11_69 : decode prog_2_method_4_code 69 = .ok (.goto 18, 3) := by decide +kernel
theorem d11_87 : decode prog_2_method_4_code 87 = .ok (.iload_n 3, 1) := by decide +kernel
theorem d11_88 : decode prog_2_method_4_code 88 = .ok (.ireturn, 1) := by decide +kernel
theorem d11_32 : decode prog_2_method_4_code 32 = .ok (.iload_n 2, 1) := by decide +kernel
theorem d11_33 : decode prog_2_method_4_code 33 = .ok (.bipush 102, 2) := by decide +kernel
theorem d11_35 : decode prog_2_method_4_code 35 = .ok (.if_icmp .gt 14, 3) := by decide +kernel
theorem d11_38 : decode prog_2_method_4_code 38 = .ok (.iload_n 2, 1) := by decide +kernel
theorem d11_39 : decode prog_2_method_4_code 39 = .ok (.bipush 97, 2) := by decide +kernel
theorem d11_41 : decode prog_2_method_4_code 41 = .ok (.isub, 1) := by decide +kernel
theorem d11_42 : decode prog_2_method_4_code 42 = .ok (.bipush 10, 2) := by decide +kernel
theorem d11_44 : decode prog_2_method_4_code 44 = .ok (.iadd, 1) := by decide +kernel
theorem d11_45 : decode prog_2_method_4_code 45 = .ok (.istore_n 3, 1) := by decide +kernel
theorem d11_46 : decode prog_2_method_4_code 46 = .ok (.goto 41, 3) := by decide +kernel
theorem d11_12 : decode prog_2_method_4_code 12 = .ok (.iload_n 2, 1) := by decide +kernel
theorem d11_13 : decode prog_2_method_4_code 13 = .ok (.bipush 57, 2) := by decide +kernel
theorem d11_15 : decode prog_2_method_4_code 15 = .ok (.if_icmp .gt 11, 3) := by decide +kernel
theorem d11_18 : decode prog_2_method_4_code 18 = .ok (.iload_n 2, 1) := by decide +kernel
theorem d11_19 : decode prog_2_method_4_code 19 = .ok (.bipush 48, 2) := by decide +kernel
theorem d11_21 : decode prog_2_method_4_code 21 = .ok (.isub, 1) := by decide +kernel
theorem d11_22 : decode prog_2_method_4_code 22 = .ok (.istore_n 3, 1) := by decide +kernel
theorem d11_23 : decode prog_2_method_4_code 23 = .ok (.goto 64, 3) := by decide +kernel
theorem pn_2 : plainName "com/example/wireform/wireform/Hex" = true := by first | (simp [plainName, overriddenIn]; done) | decide +kernel
theorem ef_rm11 (m : MethodId) (x0 : Addr) (x1 : Int32) : entryFrame m #[(.ref x0), (.int x1)] 4 = mkF m 0 #[.val (.ref x0), .val (.int x1), .unset, .unset] [] := by first | (simp [entryFrame, mkF, argsToLocals, Value.category]; done) | rfl
def Q_rm11 (Z : State) (a : Addr) (ta : Addr) (ka : ClassId) (cs_a : List Int32) (n_a : Int32) (vs_a : List Value) (j : Int32) (i : Nat) (cc : Int32) (vc : Int32) (cz : Int32) (fm : Value) (h0 : Heap) (n0 : Nat) (v : Option Value) (h : Heap) (L : List Loc) : Prop := v = some (.int vc) ∧ Fr n0 L ∧ h = h0
set_option maxRecDepth 65536 in
set_option maxHeartbeats 40000000 in
theorem rm11 (l : Launch) (Z : State) (a0 : Array Value) (hw : ∀ d ∈ tables_1, d.before a0 Z = true) (ws : List Jvm.Cond) (a : Addr) (ta : Addr) (ka : ClassId) (cs_a : List Int32) (n_a : Int32) (vs_a : List Value) (j : Int32) (i : Nat) (cc : Int32) (vc : Int32) (cz : Int32) (fm : Value) (h0 : Heap) (n0 : Nat) (Z0 : n0 ≤ h0.size) (Ea : Exa Z h0 a "java/lang/String") (Ca : Fld Z h0 a "java/lang/String" "coder" "B" (.int 0)) (Va : Fld Z h0 a "java/lang/String" "value" "[B" (.ref ta)) (Aa : Arv Z h0 ta ka .byte n_a vs_a (.int 0)) (hcd_a : StrChars.Road.CodA cs_a 0 n_a vs_a) (hbd_a : ∀ c ∈ cs_a, ¬ c < 0 ∧ ¬ (65535 : Int32) < c) (hl_a : cs_a.length ≤ 4000) (hi : i < cs_a.length) (hj : j = Int32.ofNat i) (hc : cs_a.getD i 0 = cc) (Hc : HexC cc vc) (SCS : Sta Z h0 "java/lang/String" "COMPACT_STRINGS" "Z" (.int cz)) (hcz : ¬ cz = 0) (SFM : Sta Z h0 "jdk/internal/util/Preconditions" "SIOOBE_FORMATTER" "Ljava/util/function/BiFunction;" fm) (hfm : fm.isRef = true) :
    MetFree l (⟨"com/example/wireform/wireform/Hex", "digit", "(Ljava/lang/String;I)I"⟩ : MethodName) (head1 (Jvm.Cond.code (⟨"com/example/wireform/wireform/Hex", "digit", "(Ljava/lang/String;I)I"⟩ : MethodName) prog_2_method_4_code 4 (some .int) :: ws) ({ frames := 4, cells := 0, slots := 0, locals := 53 } : Room)) (fun aa_ U => aa_ = #[(.ref a), (.int j)] ∧ Z.Warmed39 U.vm ∧ U.heap = h0) (fun _ _ _ _ _ => True) (fun _ U o U' => ∃ v L, o = .returned v ∧ Q_rm11 Z a ta ka cs_a n_a vs_a j i cc vc cz fm h0 n0 v U'.heap L ∧ FrameEnd U o U' L ({ frames := 4, cells := 0, slots := 0, locals := 53 } : Room).cells ({ frames := 4, cells := 0, slots := 0, locals := 53 } : Room).slots) := by
  refine MetFree.of_bodySF (plainFor_of_name pn_2) hisR ?_
  intro p e s m args below meth c s₁ Bd hml0 hP hK
  obtain ⟨rfl, hZ, hh⟩ := hP
  have hx := Bd.exec
  have hby := Bd.bytes
  have hml : c.maxLocals = 4 := hml0
  have hown : s.vm.findClass "com/example/wireform/wireform/Hex" = some m.cls := findClass_of_methodNamed Bd.named
  have hnm := (name_of_methodNamed Bd.named Bd.method).1
  have X0 : Stand p l e ({ frames := 4, cells := 0, slots := 0, locals := 53 } : Room) s m #[(.ref a), (.int j)] below meth c s₁ [] 0 0 := Stand.of_body Bd
  have e0 : s₁.heap = h0 := by rw [← hh, Bd.state]; rfl
  have N0 := Fr.nil n0
  refine Ends.cast (P := EndN s ({ frames := 4, cells := 0, slots := 0, locals := 53 } : Room) (Q_rm11 Z a ta ka cs_a n_a vs_a j i cc vc cz fm h0 n0)) (ef_rm11 m a j) ?_
  refine Ends.pre (T' := s₁.setTop (mkF m 1 #[.val (.ref a), .val (.int j), .unset, .unset] [(.ref a)])) (fun t k => XS.aloadN X0.here hx rfl (hb hby d11_0) rfl rfl k) ?_
  refine Ends.pre (T' := s₁.setTop (mkF m 2 #[.val (.ref a), .val (.int j), .unset, .unset] [(.int j), (.ref a)])) (fun t k => XS.iloadN X0.here hx rfl (hb hby d11_1) rfl k) ?_
  obtain ⟨cq1, kq1, q1a, q1b, q1c⟩ := isOf hZ e0 Ea
  obtain ⟨_, _, ⟨T1, L1, k1, n1⟩, -, X1, ⟨Lc1, hQ1, l1, y1, z1⟩, st1⟩ := X0.virtualBack hx (y := (⟨"java/lang/String", "charAt", "(I)C"⟩ : MethodName)) (z := (⟨"java/lang/String", "charAt", "(I)C"⟩ : MethodName)) hown (mvT hZ (hw _ (List.mem_of_getElem? (i := 55) rfl))) (mvT hZ (hw _ (List.mem_of_getElem? (i := 56) rfl))) (notFace_of_selects (args := #[]) (mvT hZ (hw _ (List.mem_of_getElem? (i := 58) rfl)))) (mvT hZ (hw _ (List.mem_of_getElem? (i := 58) rfl))) (mvT hZ (hw _ (List.mem_of_getElem? (i := 57) rfl))) (by decide) (StrChars.Road.chN (W := 0) hZ (own_hch hw) (kI := 4) (hw _ (List.mem_of_getElem? (i := 7) rfl)) Ea Va Ca Aa hcd_a hbd_a SCS hcz SFM hfm hl_a (i := i) hi (j := j) hj (by decide) (by decide)) q1a q1c (g := (mkF m 2 #[.val (.ref a), .val (.int j), .unset, .unset] [(.int j), (.ref a)])) rfl (by rw [hml]; rfl) (Steps.refl _) (argsL := [(.int j)]) (rest := []) (lenOf pd_1 rfl) rfl (by show 2 * 0 + _ ≤ _; exact Nat.le_of_eq rfl) (hb hby d11_2) (fun _ _ => ⟨rfl, e0, (by decide : 0 + 0 ≤ _), (by decide : 0 + 0 ≤ _)⟩)
  dsimp only [Pt.U, Pt.locs, Pt.cells, Pt.slots] at X1 l1 y1 z1 st1 hQ1
  subst l1 y1 z1
  obtain ⟨rfl, rfl, eh1⟩ := hQ1
  have N1 := Fr.app N0 (Fr.nil n0)
  rw [hc] at st1
  refine Ends.pre (T' := T1.setTop (mkF m 5 #[.val (.ref a), .val (.int j), .unset, .unset] [(.int cc)])) (fun t k => st1.trans k) ?_
  refine Ends.pre (T' := T1.setTop (mkF m 6 #[.val (.ref a), .val (.int j), .val (.int cc), .unset] [])) (fun t k => XS.istoreN X1.here hx rfl (hb hby d11_5) rfl (l' := #[.val (.ref a), .val (.int j), .val (.int cc), .unset]) rfl k) ?_
  refine Ends.pre (T' := T1.setTop (mkF m 7 #[.val (.ref a), .val (.int j), .val (.int cc), .unset] [(.int cc)])) (fun t k => XS.iloadN X1.here hx rfl (hb hby d11_6) rfl k) ?_
  refine Ends.pre (T' := T1.setTop (mkF m 9 #[.val (.ref a), .val (.int j), .val (.int cc), .unset] [(.int (48 : Int32)), (.int cc)])) (fun t k => XS.bipush X1.here hx rfl (hb hby d11_7) k) ?_
  by_cases hc9_2 : cc < (48 : Int32)
  · refine Ends.pre (T' := T1.setTop (mkF m 26 #[.val (.ref a), .val (.int j), .val (.int cc), .unset] [])) (fun t k => XS.icmpYes X1.here hx rfl (pc0 := 9) (pc' := 26) rfl (hb hby d11_9) rfl (Jvm.Free.XT.ii_lt_t hc9_2) (by decide) (by decide) k) ?_
    refine Ends.pre (T' := T1.setTop (mkF m 27 #[.val (.ref a), .val (.int j), .val (.int cc), .unset] [(.int cc)])) (fun t k => XS.iloadN X1.here hx rfl (hb hby d11_26) rfl k) ?_
    refine Ends.pre (T' := T1.setTop (mkF m 29 #[.val (.ref a), .val (.int j), .val (.int cc), .unset] [(.int (97 : Int32)), (.int cc)])) (fun t k => XS.bipush X1.here hx rfl (hb hby d11_27) k) ?_
    by_cases hc29_3 : cc < (97 : Int32)
    · refine Ends.pre (T' := T1.setTop (mkF m 49 #[.val (.ref a), .val (.int j), .val (.int cc), .unset] [])) (fun t k => XS.icmpYes X1.here hx rfl (pc0 := 29) (pc' := 49) rfl (hb hby d11_29) rfl (Jvm.Free.XT.ii_lt_t hc29_3) (by decide) (by decide) k) ?_
      refine Ends.pre (T' := T1.setTop (mkF m 50 #[.val (.ref a), .val (.int j), .val (.int cc), .unset] [(.int cc)])) (fun t k => XS.iloadN X1.here hx rfl (hb hby d11_49) rfl k) ?_
      refine Ends.pre (T' := T1.setTop (mkF m 52 #[.val (.ref a), .val (.int j), .val (.int cc), .unset] [(.int (65 : Int32)), (.int cc)])) (fun t k => XS.bipush X1.here hx rfl (hb hby d11_50) k) ?_
      by_cases hc52_4 : cc < (65 : Int32)
      · exfalso
        have q_hc9_2 := hc9_2
        have q_hc29_3 := hc29_3
        have q_hc52_4 := hc52_4
        have HH := Hc
        unfold HexC at HH
        simp only [Int32.lt_iff_toInt_lt] at q_hc9_2 q_hc29_3 q_hc52_4
        have e48 : (48 : Int32).toInt = 48 := rfl
        have e57 : (57 : Int32).toInt = 57 := rfl
        have e97 : (97 : Int32).toInt = 97 := rfl
        have e102 : (102 : Int32).toInt = 102 := rfl
        have e65 : (65 : Int32).toInt = 65 := rfl
        have e70 : (70 : Int32).toInt = 70 := rfl
        omega
      · refine Ends.pre (T' := T1.setTop (mkF m 55 #[.val (.ref a), .val (.int j), .val (.int cc), .unset] [])) (fun t k => XS.icmpNo X1.here hx rfl (hb hby d11_52) rfl (Jvm.Free.XT.ii_lt_f hc52_4) k) ?_
        refine Ends.pre (T' := T1.setTop (mkF m 56 #[.val (.ref a), .val (.int j), .val (.int cc), .unset] [(.int cc)])) (fun t k => XS.iloadN X1.here hx rfl (hb hby d11_55) rfl k) ?_
        refine Ends.pre (T' := T1.setTop (mkF m 58 #[.val (.ref a), .val (.int j), .val (.int cc), .unset] [(.int (70 : Int32)), (.int cc)])) (fun t k => XS.bipush X1.here hx rfl (hb hby d11_56) k) ?_
        by_cases hc58_5 : (70 : Int32) < cc
        · exfalso
          have q_hc9_2 := hc9_2
          have q_hc29_3 := hc29_3
          have q_hc52_4 := hc52_4
          have q_hc58_5 := hc58_5
          have HH := Hc
          unfold HexC at HH
          simp only [Int32.lt_iff_toInt_lt] at q_hc9_2 q_hc29_3 q_hc52_4 q_hc58_5
          have e48 : (48 : Int32).toInt = 48 := rfl
          have e57 : (57 : Int32).toInt = 57 := rfl
          have e97 : (97 : Int32).toInt = 97 := rfl
          have e102 : (102 : Int32).toInt = 102 := rfl
          have e65 : (65 : Int32).toInt = 65 := rfl
          have e70 : (70 : Int32).toInt = 70 := rfl
          omega
        · refine Ends.pre (T' := T1.setTop (mkF m 61 #[.val (.ref a), .val (.int j), .val (.int cc), .unset] [])) (fun t k => XS.icmpNo X1.here hx rfl (hb hby d11_58) rfl (Jvm.Free.XT.ii_gt_f hc58_5) k) ?_
          refine Ends.pre (T' := T1.setTop (mkF m 62 #[.val (.ref a), .val (.int j), .val (.int cc), .unset] [(.int cc)])) (fun t k => XS.iloadN X1.here hx rfl (hb hby d11_61) rfl k) ?_
          refine Ends.pre (T' := T1.setTop (mkF m 64 #[.val (.ref a), .val (.int j), .val (.int cc), .unset] [(.int (65 : Int32)), (.int cc)])) (fun t k => XS.bipush X1.here hx rfl (hb hby d11_62) k) ?_
          refine Ends.pre (T' := T1.setTop (mkF m 65 #[.val (.ref a), .val (.int j), .val (.int cc), .unset] [(.int (cc - (65 : Int32)))])) (fun t k => XS.isub X1.here hx rfl (hb hby d11_64) rfl k) ?_
          refine Ends.pre (T' := T1.setTop (mkF m 67 #[.val (.ref a), .val (.int j), .val (.int cc), .unset] [(.int (10 : Int32)), (.int (cc - (65 : Int32)))])) (fun t k => XS.bipush X1.here hx rfl (hb hby d11_65) k) ?_
          refine Ends.pre (T' := T1.setTop (mkF m 68 #[.val (.ref a), .val (.int j), .val (.int cc), .unset] [(.int ((cc - (65 : Int32)) + (10 : Int32)))])) (fun t k => XS.iadd X1.here hx rfl (hb hby d11_67) rfl k) ?_
          refine Ends.pre (T' := T1.setTop (mkF m 69 #[.val (.ref a), .val (.int j), .val (.int cc), .val (.int ((cc - (65 : Int32)) + (10 : Int32)))] [])) (fun t k => XS.istoreN X1.here hx rfl (hb hby d11_68) rfl (l' := #[.val (.ref a), .val (.int j), .val (.int cc), .val (.int ((cc - (65 : Int32)) + (10 : Int32)))]) rfl k) ?_
          refine Ends.pre (T' := T1.setTop (mkF m 87 #[.val (.ref a), .val (.int j), .val (.int cc), .val (.int ((cc - (65 : Int32)) + (10 : Int32)))] [])) (fun t k => XS.goto X1.here hx rfl (pc0 := 69) (pc' := 87) rfl (hb hby d11_69) (by decide) (by decide) k) ?_
          refine Ends.pre (T' := T1.setTop (mkF m 88 #[.val (.ref a), .val (.int j), .val (.int cc), .val (.int ((cc - (65 : Int32)) + (10 : Int32)))] [(.int ((cc - (65 : Int32)) + (10 : Int32)))])) (fun t k => XS.iloadN X1.here hx rfl (hb hby d11_87) rfl k) ?_
          have hr : (((cc - (65 : Int32)) + (10 : Int32)) : Int32) = vc := by
            have q_hc9_2 := hc9_2
            simp only [Int32.lt_iff_toInt_lt] at q_hc9_2
            have q_hc29_3 := hc29_3
            simp only [Int32.lt_iff_toInt_lt] at q_hc29_3
            have q_hc52_4 := hc52_4
            simp only [Int32.lt_iff_toInt_lt] at q_hc52_4
            have q_hc58_5 := hc58_5
            simp only [Int32.lt_iff_toInt_lt] at q_hc58_5
            have HH := Hc
            unfold HexC at HH
            have a1 := c_isub cc (65 : Int32)
            have r1 := rng32 (cc - (65 : Int32))
            have r0 := rng32 cc
            have a2 := c_iadd (cc - (65 : Int32)) (10 : Int32)
            have r2 := rng32 (cc - (65 : Int32) + (10 : Int32))
            have e48 : (48 : Int32).toInt = 48 := rfl
            have e57 : (57 : Int32).toInt = 57 := rfl
            have e97 : (97 : Int32).toInt = 97 := rfl
            have e102 : (102 : Int32).toInt = 102 := rfl
            have e65 : (65 : Int32).toInt = 65 := rfl
            have e70 : (70 : Int32).toInt = 70 := rfl
            have e10 : (10 : Int32).toInt = 10 := rfl
            apply Int32.toInt_inj.mp
            omega
          exact Ends.ret (w := (.int ((cc - (65 : Int32)) + (10 : Int32)))) X1 hx Bd.notSynchronized Bd.returns rfl (Or.inl ⟨rfl, Or.inl rfl, _, rfl⟩) (hb hby d11_88) eh1 ⟨by rw [hr], N1, rfl⟩ (by decide) (by decide)
    · refine Ends.pre (T' := T1.setTop (mkF m 32 #[.val (.ref a), .val (.int j), .val (.int cc), .unset] [])) (fun t k => XS.icmpNo X1.here hx rfl (hb hby d11_29) rfl (Jvm.Free.XT.ii_lt_f hc29_3) k) ?_
      refine Ends.pre (T' := T1.setTop (mkF m 33 #[.val (.ref a), .val (.int j), .val (.int cc), .unset] [(.int cc)])) (fun t k => XS.iloadN X1.here hx rfl (hb hby d11_32) rfl k) ?_
      refine Ends.pre (T' := T1.setTop (mkF m 35 #[.val (.ref a), .val (.int j), .val (.int cc), .unset] [(.int (102 : Int32)), (.int cc)])) (fun t k => XS.bipush X1.here hx rfl (hb hby d11_33) k) ?_
      by_cases hc35_6 : (102 : Int32) < cc
      · refine Ends.pre (T' := T1.setTop (mkF m 49 #[.val (.ref a), .val (.int j), .val (.int cc), .unset] [])) (fun t k => XS.icmpYes X1.here hx rfl (pc0 := 35) (pc' := 49) rfl (hb hby d11_35) rfl (Jvm.Free.XT.ii_gt_t hc35_6) (by decide) (by decide) k) ?_
        refine Ends.pre (T' := T1.setTop (mkF m 50 #[.val (.ref a), .val (.int j), .val (.int cc), .unset] [(.int cc)])) (fun t k => XS.iloadN X1.here hx rfl (hb hby d11_49) rfl k) ?_
        refine Ends.pre (T' := T1.setTop (mkF m 52 #[.val (.ref a), .val (.int j), .val (.int cc), .unset] [(.int (65 : Int32)), (.int cc)])) (fun t k => XS.bipush X1.here hx rfl (hb hby d11_50) k) ?_
        by_cases hc52_7 : cc < (65 : Int32)
        · exfalso
          have q_hc9_2 := hc9_2
          have q_hc29_3 := hc29_3
          have q_hc35_6 := hc35_6
          have q_hc52_7 := hc52_7
          have HH := Hc
          unfold HexC at HH
          simp only [Int32.lt_iff_toInt_lt] at q_hc9_2 q_hc29_3 q_hc35_6 q_hc52_7
          have e48 : (48 : Int32).toInt = 48 := rfl
          have e57 : (57 : Int32).toInt = 57 := rfl
          have e97 : (97 : Int32).toInt = 97 := rfl
          have e102 : (102 : Int32).toInt = 102 := rfl
          have e65 : (65 : Int32).toInt = 65 := rfl
          have e70 : (70 : Int32).toInt = 70 := rfl
          omega
        · refine Ends.pre (T' := T1.setTop (mkF m 55 #[.val (.ref a), .val (.int j), .val (.int cc), .unset] [])) (fun t k => XS.icmpNo X1.here hx rfl (hb hby d11_52) rfl (Jvm.Free.XT.ii_lt_f hc52_7) k) ?_
          refine Ends.pre (T' := T1.setTop (mkF m 56 #[.val (.ref a), .val (.int j), .val (.int cc), .unset] [(.int cc)])) (fun t k => XS.iloadN X1.here hx rfl (hb hby d11_55) rfl k) ?_
          refine Ends.pre (T' := T1.setTop (mkF m 58 #[.val (.ref a), .val (.int j), .val (.int cc), .unset] [(.int (70 : Int32)), (.int cc)])) (fun t k => XS.bipush X1.here hx rfl (hb hby d11_56) k) ?_
          by_cases hc58_8 : (70 : Int32) < cc
          · exfalso
            have q_hc9_2 := hc9_2
            have q_hc29_3 := hc29_3
            have q_hc35_6 := hc35_6
            have q_hc52_7 := hc52_7
            have q_hc58_8 := hc58_8
            have HH := Hc
            unfold HexC at HH
            simp only [Int32.lt_iff_toInt_lt] at q_hc9_2 q_hc29_3 q_hc35_6 q_hc52_7 q_hc58_8
            have e48 : (48 : Int32).toInt = 48 := rfl
            have e57 : (57 : Int32).toInt = 57 := rfl
            have e97 : (97 : Int32).toInt = 97 := rfl
            have e102 : (102 : Int32).toInt = 102 := rfl
            have e65 : (65 : Int32).toInt = 65 := rfl
            have e70 : (70 : Int32).toInt = 70 := rfl
            omega
          · refine Ends.pre (T' := T1.setTop (mkF m 61 #[.val (.ref a), .val (.int j), .val (.int cc), .unset] [])) (fun t k => XS.icmpNo X1.here hx rfl (hb hby d11_58) rfl (Jvm.Free.XT.ii_gt_f hc58_8) k) ?_
            refine Ends.pre (T' := T1.setTop (mkF m 62 #[.val (.ref a), .val (.int j), .val (.int cc), .unset] [(.int cc)])) (fun t k => XS.iloadN X1.here hx rfl (hb hby d11_61) rfl k) ?_
            refine Ends.pre (T' := T1.setTop (mkF m 64 #[.val (.ref a), .val (.int j), .val (.int cc), .unset] [(.int (65 : Int32)), (.int cc)])) (fun t k => XS.bipush X1.here hx rfl (hb hby d11_62) k) ?_
            refine Ends.pre (T' := T1.setTop (mkF m 65 #[.val (.ref a), .val (.int j), .val (.int cc), .unset] [(.int (cc - (65 : Int32)))])) (fun t k => XS.isub X1.here hx rfl (hb hby d11_64) rfl k) ?_
            refine Ends.pre (T' := T1.setTop (mkF m 67 #[.val (.ref a), .val (.int j), .val (.int cc), .unset] [(.int (10 : Int32)), (.int (cc - (65 : Int32)))])) (fun t k => XS.bipush X1.here hx rfl (hb hby d11_65) k) ?_
            refine Ends.pre (T' := T1.setTop (mkF m 68 #[.val (.ref a), .val (.int j), .val (.int cc), .unset] [(.int ((cc - (65 : Int32)) + (10 : Int32)))])) (fun t k => XS.iadd X1.here hx rfl (hb hby d11_67) rfl k) ?_
            refine Ends.pre (T' := T1.setTop (mkF m 69 #[.val (.ref a), .val (.int j), .val (.int cc), .val (.int ((cc - (65 : Int32)) + (10 : Int32)))] [])) (fun t k => XS.istoreN X1.here hx rfl (hb hby d11_68) rfl (l' := #[.val (.ref a), .val (.int j), .val (.int cc), .val (.int ((cc - (65 : Int32)) + (10 : Int32)))]) rfl k) ?_
            refine Ends.pre (T' := T1.setTop (mkF m 87 #[.val (.ref a), .val (.int j), .val (.int cc), .val (.int ((cc - (65 : Int32)) + (10 : Int32)))] [])) (fun t k => XS.goto X1.here hx rfl (pc0 := 69) (pc' := 87) rfl (hb hby d11_69) (by decide) (by decide) k) ?_
            refine Ends.pre (T' := T1.setTop (mkF m 88 #[.val (.ref a), .val (.int j), .val (.int cc), .val (.int ((cc - (65 : Int32)) + (10 : Int32)))] [(.int ((cc - (65 : Int32)) + (10 : Int32)))])) (fun t k => XS.iloadN X1.here hx rfl (hb hby d11_87) rfl k) ?_
            have hr : (((cc - (65 : Int32)) + (10 : Int32)) : Int32) = vc := by
              have q_hc9_2 := hc9_2
              simp only [Int32.lt_iff_toInt_lt] at q_hc9_2
              have q_hc29_3 := hc29_3
              simp only [Int32.lt_iff_toInt_lt] at q_hc29_3
              have q_hc35_6 := hc35_6
              simp only [Int32.lt_iff_toInt_lt] at q_hc35_6
              have q_hc52_7 := hc52_7
              simp only [Int32.lt_iff_toInt_lt] at q_hc52_7
              have q_hc58_8 := hc58_8
              simp only [Int32.lt_iff_toInt_lt] at q_hc58_8
              have HH := Hc
              unfold HexC at HH
              have a1 := c_isub cc (65 : Int32)
              have r1 := rng32 (cc - (65 : Int32))
              have r0 := rng32 cc
              have a2 := c_iadd (cc - (65 : Int32)) (10 : Int32)
              have r2 := rng32 (cc - (65 : Int32) + (10 : Int32))
              have e48 : (48 : Int32).toInt = 48 := rfl
              have e57 : (57 : Int32).toInt = 57 := rfl
              have e97 : (97 : Int32).toInt = 97 := rfl
              have e102 : (102 : Int32).toInt = 102 := rfl
              have e65 : (65 : Int32).toInt = 65 := rfl
              have e70 : (70 : Int32).toInt = 70 := rfl
              have e10 : (10 : Int32).toInt = 10 := rfl
              apply Int32.toInt_inj.mp
              omega
            exact Ends.ret (w := (.int ((cc - (65 : Int32)) + (10 : Int32)))) X1 hx Bd.notSynchronized Bd.returns rfl (Or.inl ⟨rfl, Or.inl rfl, _, rfl⟩) (hb hby d11_88) eh1 ⟨by rw [hr], N1, rfl⟩ (by decide) (by decide)
      · refine Ends.pre (T' := T1.setTop (mkF m 38 #[.val (.ref a), .val (.int j), .val (.int cc), .unset] [])) (fun t k => XS.icmpNo X1.here hx rfl (hb hby d11_35) rfl (Jvm.Free.XT.ii_gt_f hc35_6) k) ?_
        refine Ends.pre (T' := T1.setTop (mkF m 39 #[.val (.ref a), .val (.int j), .val (.int cc), .unset] [(.int cc)])) (fun t k => XS.iloadN X1.here hx rfl (hb hby d11_38) rfl k) ?_
        refine Ends.pre (T' := T1.setTop (mkF m 41 #[.val (.ref a), .val (.int j), .val (.int cc), .unset] [(.int (97 : Int32)), (.int cc)])) (fun t k => XS.bipush X1.here hx rfl (hb hby d11_39) k) ?_
        refine Ends.pre (T' := T1.setTop (mkF m 42 #[.val (.ref a), .val (.int j), .val (.int cc), .unset] [(.int (cc - (97 : Int32)))])) (fun t k => XS.isub X1.here hx rfl (hb hby d11_41) rfl k) ?_
        refine Ends.pre (T' := T1.setTop (mkF m 44 #[.val (.ref a), .val (.int j), .val (.int cc), .unset] [(.int (10 : Int32)), (.int (cc - (97 : Int32)))])) (fun t k => XS.bipush X1.here hx rfl (hb hby d11_42) k) ?_
        refine Ends.pre (T' := T1.setTop (mkF m 45 #[.val (.ref a), .val (.int j), .val (.int cc), .unset] [(.int ((cc - (97 : Int32)) + (10 : Int32)))])) (fun t k => XS.iadd X1.here hx rfl (hb hby d11_44) rfl k) ?_
        refine Ends.pre (T' := T1.setTop (mkF m 46 #[.val (.ref a), .val (.int j), .val (.int cc), .val (.int ((cc - (97 : Int32)) + (10 : Int32)))] [])) (fun t k => XS.istoreN X1.here hx rfl (hb hby d11_45) rfl (l' := #[.val (.ref a), .val (.int j), .val (.int cc), .val (.int ((cc - (97 : Int32)) + (10 : Int32)))]) rfl k) ?_
        refine Ends.pre (T' := T1.setTop (mkF m 87 #[.val (.ref a), .val (.int j), .val (.int cc), .val (.int ((cc - (97 : Int32)) + (10 : Int32)))] [])) (fun t k => XS.goto X1.here hx rfl (pc0 := 46) (pc' := 87) rfl (hb hby d11_46) (by decide) (by decide) k) ?_
        refine Ends.pre (T' := T1.setTop (mkF m 88 #[.val (.ref a), .val (.int j), .val (.int cc), .val (.int ((cc - (97 : Int32)) + (10 : Int32)))] [(.int ((cc - (97 : Int32)) + (10 : Int32)))])) (fun t k => XS.iloadN X1.here hx rfl (hb hby d11_87) rfl k) ?_
        have hr : (((cc - (97 : Int32)) + (10 : Int32)) : Int32) = vc := by
          have q_hc9_2 := hc9_2
          simp only [Int32.lt_iff_toInt_lt] at q_hc9_2
          have q_hc29_3 := hc29_3
          simp only [Int32.lt_iff_toInt_lt] at q_hc29_3
          have q_hc35_6 := hc35_6
          simp only [Int32.lt_iff_toInt_lt] at q_hc35_6
          have HH := Hc
          unfold HexC at HH
          have a1 := c_isub cc (97 : Int32)
          have r1 := rng32 (cc - (97 : Int32))
          have r0 := rng32 cc
          have a2 := c_iadd (cc - (97 : Int32)) (10 : Int32)
          have r2 := rng32 (cc - (97 : Int32) + (10 : Int32))
          have e48 : (48 : Int32).toInt = 48 := rfl
          have e57 : (57 : Int32).toInt = 57 := rfl
          have e97 : (97 : Int32).toInt = 97 := rfl
          have e102 : (102 : Int32).toInt = 102 := rfl
          have e65 : (65 : Int32).toInt = 65 := rfl
          have e70 : (70 : Int32).toInt = 70 := rfl
          have e10 : (10 : Int32).toInt = 10 := rfl
          apply Int32.toInt_inj.mp
          omega
        exact Ends.ret (w := (.int ((cc - (97 : Int32)) + (10 : Int32)))) X1 hx Bd.notSynchronized Bd.returns rfl (Or.inl ⟨rfl, Or.inl rfl, _, rfl⟩) (hb hby d11_88) eh1 ⟨by rw [hr], N1, rfl⟩ (by decide) (by decide)
  · refine Ends.pre (T' := T1.setTop (mkF m 12 #[.val (.ref a), .val (.int j), .val (.int cc), .unset] [])) (fun t k => XS.icmpNo X1.here hx rfl (hb hby d11_9) rfl (Jvm.Free.XT.ii_lt_f hc9_2) k) ?_
    refine Ends.pre (T' := T1.setTop (mkF m 13 #[.val (.ref a), .val (.int j), .val (.int cc), .unset] [(.int cc)])) (fun t k => XS.iloadN X1.here hx rfl (hb hby d11_12) rfl k) ?_
    refine Ends.pre (T' := T1.setTop (mkF m 15 #[.val (.ref a), .val (.int j), .val (.int cc), .unset] [(.int (57 : Int32)), (.int cc)])) (fun t k => XS.bipush X1.here hx rfl (hb hby d11_13) k) ?_
    by_cases hc15_9 : (57 : Int32) < cc
    · refine Ends.pre (T' := T1.setTop (mkF m 26 #[.val (.ref a), .val (.int j), .val (.int cc), .unset] [])) (fun t k => XS.icmpYes X1.here hx rfl (pc0 := 15) (pc' := 26) rfl (hb hby d11_15) rfl (Jvm.Free.XT.ii_gt_t hc15_9) (by decide) (by decide) k) ?_
      refine Ends.pre (T' := T1.setTop (mkF m 27 #[.val (.ref a), .val (.int j), .val (.int cc), .unset] [(.int cc)])) (fun t k => XS.iloadN X1.here hx rfl (hb hby d11_26) rfl k) ?_
      refine Ends.pre (T' := T1.setTop (mkF m 29 #[.val (.ref a), .val (.int j), .val (.int cc), .unset] [(.int (97 : Int32)), (.int cc)])) (fun t k => XS.bipush X1.here hx rfl (hb hby d11_27) k) ?_
      by_cases hc29_10 : cc < (97 : Int32)
      · refine Ends.pre (T' := T1.setTop (mkF m 49 #[.val (.ref a), .val (.int j), .val (.int cc), .unset] [])) (fun t k => XS.icmpYes X1.here hx rfl (pc0 := 29) (pc' := 49) rfl (hb hby d11_29) rfl (Jvm.Free.XT.ii_lt_t hc29_10) (by decide) (by decide) k) ?_
        refine Ends.pre (T' := T1.setTop (mkF m 50 #[.val (.ref a), .val (.int j), .val (.int cc), .unset] [(.int cc)])) (fun t k => XS.iloadN X1.here hx rfl (hb hby d11_49) rfl k) ?_
        refine Ends.pre (T' := T1.setTop (mkF m 52 #[.val (.ref a), .val (.int j), .val (.int cc), .unset] [(.int (65 : Int32)), (.int cc)])) (fun t k => XS.bipush X1.here hx rfl (hb hby d11_50) k) ?_
        by_cases hc52_11 : cc < (65 : Int32)
        · exfalso
          have q_hc9_2 := hc9_2
          have q_hc15_9 := hc15_9
          have q_hc29_10 := hc29_10
          have q_hc52_11 := hc52_11
          have HH := Hc
          unfold HexC at HH
          simp only [Int32.lt_iff_toInt_lt] at q_hc9_2 q_hc15_9 q_hc29_10 q_hc52_11
          have e48 : (48 : Int32).toInt = 48 := rfl
          have e57 : (57 : Int32).toInt = 57 := rfl
          have e97 : (97 : Int32).toInt = 97 := rfl
          have e102 : (102 : Int32).toInt = 102 := rfl
          have e65 : (65 : Int32).toInt = 65 := rfl
          have e70 : (70 : Int32).toInt = 70 := rfl
          omega
        · refine Ends.pre (T' := T1.setTop (mkF m 55 #[.val (.ref a), .val (.int j), .val (.int cc), .unset] [])) (fun t k => XS.icmpNo X1.here hx rfl (hb hby d11_52) rfl (Jvm.Free.XT.ii_lt_f hc52_11) k) ?_
          refine Ends.pre (T' := T1.setTop (mkF m 56 #[.val (.ref a), .val (.int j), .val (.int cc), .unset] [(.int cc)])) (fun t k => XS.iloadN X1.here hx rfl (hb hby d11_55) rfl k) ?_
          refine Ends.pre (T' := T1.setTop (mkF m 58 #[.val (.ref a), .val (.int j), .val (.int cc), .unset] [(.int (70 : Int32)), (.int cc)])) (fun t k => XS.bipush X1.here hx rfl (hb hby d11_56) k) ?_
          by_cases hc58_12 : (70 : Int32) < cc
          · exfalso
            have q_hc9_2 := hc9_2
            have q_hc15_9 := hc15_9
            have q_hc29_10 := hc29_10
            have q_hc52_11 := hc52_11
            have q_hc58_12 := hc58_12
            have HH := Hc
            unfold HexC at HH
            simp only [Int32.lt_iff_toInt_lt] at q_hc9_2 q_hc15_9 q_hc29_10 q_hc52_11 q_hc58_12
            have e48 : (48 : Int32).toInt = 48 := rfl
            have e57 : (57 : Int32).toInt = 57 := rfl
            have e97 : (97 : Int32).toInt = 97 := rfl
            have e102 : (102 : Int32).toInt = 102 := rfl
            have e65 : (65 : Int32).toInt = 65 := rfl
            have e70 : (70 : Int32).toInt = 70 := rfl
            omega
          · refine Ends.pre (T' := T1.setTop (mkF m 61 #[.val (.ref a), .val (.int j), .val (.int cc), .unset] [])) (fun t k => XS.icmpNo X1.here hx rfl (hb hby d11_58) rfl (Jvm.Free.XT.ii_gt_f hc58_12) k) ?_
            refine Ends.pre (T' := T1.setTop (mkF m 62 #[.val (.ref a), .val (.int j), .val (.int cc), .unset] [(.int cc)])) (fun t k => XS.iloadN X1.here hx rfl (hb hby d11_61) rfl k) ?_
            refine Ends.pre (T' := T1.setTop (mkF m 64 #[.val (.ref a), .val (.int j), .val (.int cc), .unset] [(.int (65 : Int32)), (.int cc)])) (fun t k => XS.bipush X1.here hx rfl (hb hby d11_62) k) ?_
            refine Ends.pre (T' := T1.setTop (mkF m 65 #[.val (.ref a), .val (.int j), .val (.int cc), .unset] [(.int (cc - (65 : Int32)))])) (fun t k => XS.isub X1.here hx rfl (hb hby d11_64) rfl k) ?_
            refine Ends.pre (T' := T1.setTop (mkF m 67 #[.val (.ref a), .val (.int j), .val (.int cc), .unset] [(.int (10 : Int32)), (.int (cc - (65 : Int32)))])) (fun t k => XS.bipush X1.here hx rfl (hb hby d11_65) k) ?_
            refine Ends.pre (T' := T1.setTop (mkF m 68 #[.val (.ref a), .val (.int j), .val (.int cc), .unset] [(.int ((cc - (65 : Int32)) + (10 : Int32)))])) (fun t k => XS.iadd X1.here hx rfl (hb hby d11_67) rfl k) ?_
            refine Ends.pre (T' := T1.setTop (mkF m 69 #[.val (.ref a), .val (.int j), .val (.int cc), .val (.int ((cc - (65 : Int32)) + (10 : Int32)))] [])) (fun t k => XS.istoreN X1.here hx rfl (hb hby d11_68) rfl (l' := #[.val (.ref a), .val (.int j), .val (.int cc), .val (.int ((cc - (65 : Int32)) + (10 : Int32)))]) rfl k) ?_
            refine Ends.pre (T' := T1.setTop (mkF m 87 #[.val (.ref a), .val (.int j), .val (.int cc), .val (.int ((cc - (65 : Int32)) + (10 : Int32)))] [])) (fun t k => XS.goto X1.here hx rfl (pc0 := 69) (pc' := 87) rfl (hb hby d11_69) (by decide) (by decide) k) ?_
            refine Ends.pre (T' := T1.setTop (mkF m 88 #[.val (.ref a), .val (.int j), .val (.int cc), .val (.int ((cc - (65 : Int32)) + (10 : Int32)))] [(.int ((cc - (65 : Int32)) + (10 : Int32)))])) (fun t k => XS.iloadN X1.here hx rfl (hb hby d11_87) rfl k) ?_
            have hr : (((cc - (65 : Int32)) + (10 : Int32)) : Int32) = vc := by
              have q_hc9_2 := hc9_2
              simp only [Int32.lt_iff_toInt_lt] at q_hc9_2
              have q_hc15_9 := hc15_9
              simp only [Int32.lt_iff_toInt_lt] at q_hc15_9
              have q_hc29_10 := hc29_10
              simp only [Int32.lt_iff_toInt_lt] at q_hc29_10
              have q_hc52_11 := hc52_11
              simp only [Int32.lt_iff_toInt_lt] at q_hc52_11
              have q_hc58_12 := hc58_12
              simp only [Int32.lt_iff_toInt_lt] at q_hc58_12
              have HH := Hc
              unfold HexC at HH
              have a1 := c_isub cc (65 : Int32)
              have r1 := rng32 (cc - (65 : Int32))
              have r0 := rng32 cc
              have a2 := c_iadd (cc - (65 : Int32)) (10 : Int32)
              have r2 := rng32 (cc - (65 : Int32) + (10 : Int32))
              have e48 : (48 : Int32).toInt = 48 := rfl
              have e57 : (57 : Int32).toInt = 57 := rfl
              have e97 : (97 : Int32).toInt = 97 := rfl
              have e102 : (102 : Int32).toInt = 102 := rfl
              have e65 : (65 : Int32).toInt = 65 := rfl
              have e70 : (70 : Int32).toInt = 70 := rfl
              have e10 : (10 : Int32).toInt = 10 := rfl
              apply Int32.toInt_inj.mp
              omega
            exact Ends.ret (w := (.int ((cc - (65 : Int32)) + (10 : Int32)))) X1 hx Bd.notSynchronized Bd.returns rfl (Or.inl ⟨rfl, Or.inl rfl, _, rfl⟩) (hb hby d11_88) eh1 ⟨by rw [hr], N1, rfl⟩ (by decide) (by decide)
      · refine Ends.pre (T' := T1.setTop (mkF m 32 #[.val (.ref a), .val (.int j), .val (.int cc), .unset] [])) (fun t k => XS.icmpNo X1.here hx rfl (hb hby d11_29) rfl (Jvm.Free.XT.ii_lt_f hc29_10) k) ?_
        refine Ends.pre (T' := T1.setTop (mkF m 33 #[.val (.ref a), .val (.int j), .val (.int cc), .unset] [(.int cc)])) (fun t k => XS.iloadN X1.here hx rfl (hb hby d11_32) rfl k) ?_
        refine Ends.pre (T' := T1.setTop (mkF m 35 #[.val (.ref a), .val (.int j), .val (.int cc), .unset] [(.int (102 : Int32)), (.int cc)])) (fun t k => XS.bipush X1.here hx rfl (hb hby d11_33) k) ?_
        by_cases hc35_13 : (102 : Int32) < cc
        · refine Ends.pre (T' := T1.setTop (mkF m 49 #[.val (.ref a), .val (.int j), .val (.int cc), .unset] [])) (fun t k => XS.icmpYes X1.here hx rfl (pc0 := 35) (pc' := 49) rfl (hb hby d11_35) rfl (Jvm.Free.XT.ii_gt_t hc35_13) (by decide) (by decide) k) ?_
          refine Ends.pre (T' := T1.setTop (mkF m 50 #[.val (.ref a), .val (.int j), .val (.int cc), .unset] [(.int cc)])) (fun t k => XS.iloadN X1.here hx rfl (hb hby d11_49) rfl k) ?_
          refine Ends.pre (T' := T1.setTop (mkF m 52 #[.val (.ref a), .val (.int j), .val (.int cc), .unset] [(.int (65 : Int32)), (.int cc)])) (fun t k => XS.bipush X1.here hx rfl (hb hby d11_50) k) ?_
          by_cases hc52_14 : cc < (65 : Int32)
          · exfalso
            have q_hc9_2 := hc9_2
            have q_hc15_9 := hc15_9
            have q_hc29_10 := hc29_10
            have q_hc35_13 := hc35_13
            have q_hc52_14 := hc52_14
            have HH := Hc
            unfold HexC at HH
            simp only [Int32.lt_iff_toInt_lt] at q_hc9_2 q_hc15_9 q_hc29_10 q_hc35_13 q_hc52_14
            have e48 : (48 : Int32).toInt = 48 := rfl
            have e57 : (57 : Int32).toInt = 57 := rfl
            have e97 : (97 : Int32).toInt = 97 := rfl
            have e102 : (102 : Int32).toInt = 102 := rfl
            have e65 : (65 : Int32).toInt = 65 := rfl
            have e70 : (70 : Int32).toInt = 70 := rfl
            omega
          · refine Ends.pre (T' := T1.setTop (mkF m 55 #[.val (.ref a), .val (.int j), .val (.int cc), .unset] [])) (fun t k => XS.icmpNo X1.here hx rfl (hb hby d11_52) rfl (Jvm.Free.XT.ii_lt_f hc52_14) k) ?_
            refine Ends.pre (T' := T1.setTop (mkF m 56 #[.val (.ref a), .val (.int j), .val (.int cc), .unset] [(.int cc)])) (fun t k => XS.iloadN X1.here hx rfl (hb hby d11_55) rfl k) ?_
            refine Ends.pre (T' := T1.setTop (mkF m 58 #[.val (.ref a), .val (.int j), .val (.int cc), .unset] [(.int (70 : Int32)), (.int cc)])) (fun t k => XS.bipush X1.here hx rfl (hb hby d11_56) k) ?_
            by_cases hc58_15 : (70 : Int32) < cc
            · exfalso
              have q_hc9_2 := hc9_2
              have q_hc15_9 := hc15_9
              have q_hc29_10 := hc29_10
              have q_hc35_13 := hc35_13
              have q_hc52_14 := hc52_14
              have q_hc58_15 := hc58_15
              have HH := Hc
              unfold HexC at HH
              simp only [Int32.lt_iff_toInt_lt] at q_hc9_2 q_hc15_9 q_hc29_10 q_hc35_13 q_hc52_14 q_hc58_15
              have e48 : (48 : Int32).toInt = 48 := rfl
              have e57 : (57 : Int32).toInt = 57 := rfl
              have e97 : (97 : Int32).toInt = 97 := rfl
              have e102 : (102 : Int32).toInt = 102 := rfl
              have e65 : (65 : Int32).toInt = 65 := rfl
              have e70 : (70 : Int32).toInt = 70 := rfl
              omega
            · refine Ends.pre (T' := T1.setTop (mkF m 61 #[.val (.ref a), .val (.int j), .val (.int cc), .unset] [])) (fun t k => XS.icmpNo X1.here hx rfl (hb hby d11_58) rfl (Jvm.Free.XT.ii_gt_f hc58_15) k) ?_
              refine Ends.pre (T' := T1.setTop (mkF m 62 #[.val (.ref a), .val (.int j), .val (.int cc), .unset] [(.int cc)])) (fun t k => XS.iloadN X1.here hx rfl (hb hby d11_61) rfl k) ?_
              refine Ends.pre (T' := T1.setTop (mkF m 64 #[.val (.ref a), .val (.int j), .val (.int cc), .unset] [(.int (65 : Int32)), (.int cc)])) (fun t k => XS.bipush X1.here hx rfl (hb hby d11_62) k) ?_
              refine Ends.pre (T' := T1.setTop (mkF m 65 #[.val (.ref a), .val (.int j), .val (.int cc), .unset] [(.int (cc - (65 : Int32)))])) (fun t k => XS.isub X1.here hx rfl (hb hby d11_64) rfl k) ?_
              refine Ends.pre (T' := T1.setTop (mkF m 67 #[.val (.ref a), .val (.int j), .val (.int cc), .unset] [(.int (10 : Int32)), (.int (cc - (65 : Int32)))])) (fun t k => XS.bipush X1.here hx rfl (hb hby d11_65) k) ?_
              refine Ends.pre (T' := T1.setTop (mkF m 68 #[.val (.ref a), .val (.int j), .val (.int cc), .unset] [(.int ((cc - (65 : Int32)) + (10 : Int32)))])) (fun t k => XS.iadd X1.here hx rfl (hb hby d11_67) rfl k) ?_
              refine Ends.pre (T' := T1.setTop (mkF m 69 #[.val (.ref a), .val (.int j), .val (.int cc), .val (.int ((cc - (65 : Int32)) + (10 : Int32)))] [])) (fun t k => XS.istoreN X1.here hx rfl (hb hby d11_68) rfl (l' := #[.val (.ref a), .val (.int j), .val (.int cc), .val (.int ((cc - (65 : Int32)) + (10 : Int32)))]) rfl k) ?_
              refine Ends.pre (T' := T1.setTop (mkF m 87 #[.val (.ref a), .val (.int j), .val (.int cc), .val (.int ((cc - (65 : Int32)) + (10 : Int32)))] [])) (fun t k => XS.goto X1.here hx rfl (pc0 := 69) (pc' := 87) rfl (hb hby d11_69) (by decide) (by decide) k) ?_
              refine Ends.pre (T' := T1.setTop (mkF m 88 #[.val (.ref a), .val (.int j), .val (.int cc), .val (.int ((cc - (65 : Int32)) + (10 : Int32)))] [(.int ((cc - (65 : Int32)) + (10 : Int32)))])) (fun t k => XS.iloadN X1.here hx rfl (hb hby d11_87) rfl k) ?_
              have hr : (((cc - (65 : Int32)) + (10 : Int32)) : Int32) = vc := by
                have q_hc9_2 := hc9_2
                simp only [Int32.lt_iff_toInt_lt] at q_hc9_2
                have q_hc15_9 := hc15_9
                simp only [Int32.lt_iff_toInt_lt] at q_hc15_9
                have q_hc29_10 := hc29_10
                simp only [Int32.lt_iff_toInt_lt] at q_hc29_10
                have q_hc35_13 := hc35_13
                simp only [Int32.lt_iff_toInt_lt] at q_hc35_13
                have q_hc52_14 := hc52_14
                simp only [Int32.lt_iff_toInt_lt] at q_hc52_14
                have q_hc58_15 := hc58_15
                simp only [Int32.lt_iff_toInt_lt] at q_hc58_15
                have HH := Hc
                unfold HexC at HH
                have a1 := c_isub cc (65 : Int32)
                have r1 := rng32 (cc - (65 : Int32))
                have r0 := rng32 cc
                have a2 := c_iadd (cc - (65 : Int32)) (10 : Int32)
                have r2 := rng32 (cc - (65 : Int32) + (10 : Int32))
                have e48 : (48 : Int32).toInt = 48 := rfl
                have e57 : (57 : Int32).toInt = 57 := rfl
                have e97 : (97 : Int32).toInt = 97 := rfl
                have e102 : (102 : Int32).toInt = 102 := rfl
                have e65 : (65 : Int32).toInt = 65 := rfl
                have e70 : (70 : Int32).toInt = 70 := rfl
                have e10 : (10 : Int32).toInt = 10 := rfl
                apply Int32.toInt_inj.mp
                omega
              exact Ends.ret (w := (.int ((cc - (65 : Int32)) + (10 : Int32)))) X1 hx Bd.notSynchronized Bd.returns rfl (Or.inl ⟨rfl, Or.inl rfl, _, rfl⟩) (hb hby d11_88) eh1 ⟨by rw [hr], N1, rfl⟩ (by decide) (by decide)
        · refine Ends.pre (T' := T1.setTop (mkF m 38 #[.val (.ref a), .val (.int j), .val (.int cc), .unset] [])) (fun t k => XS.icmpNo X1.here hx rfl (hb hby d11_35) rfl (Jvm.Free.XT.ii_gt_f hc35_13) k) ?_
          refine Ends.pre (T' := T1.setTop (mkF m 39 #[.val (.ref a), .val (.int j), .val (.int cc), .unset] [(.int cc)])) (fun t k => XS.iloadN X1.here hx rfl (hb hby d11_38) rfl k) ?_
          refine Ends.pre (T' := T1.setTop (mkF m 41 #[.val (.ref a), .val (.int j), .val (.int cc), .unset] [(.int (97 : Int32)), (.int cc)])) (fun t k => XS.bipush X1.here hx rfl (hb hby d11_39) k) ?_
          refine Ends.pre (T' := T1.setTop (mkF m 42 #[.val (.ref a), .val (.int j), .val (.int cc), .unset] [(.int (cc - (97 : Int32)))])) (fun t k => XS.isub X1.here hx rfl (hb hby d11_41) rfl k) ?_
          refine Ends.pre (T' := T1.setTop (mkF m 44 #[.val (.ref a), .val (.int j), .val (.int cc), .unset] [(.int (10 : Int32)), (.int (cc - (97 : Int32)))])) (fun t k => XS.bipush X1.here hx rfl (hb hby d11_42) k) ?_
          refine Ends.pre (T' := T1.setTop (mkF m 45 #[.val (.ref a), .val (.int j), .val (.int cc), .unset] [(.int ((cc - (97 : Int32)) + (10 : Int32)))])) (fun t k => XS.iadd X1.here hx rfl (hb hby d11_44) rfl k) ?_
          refine Ends.pre (T' := T1.setTop (mkF m 46 #[.val (.ref a), .val (.int j), .val (.int cc), .val (.int ((cc - (97 : Int32)) + (10 : Int32)))] [])) (fun t k => XS.istoreN X1.here hx rfl (hb hby d11_45) rfl (l' := #[.val (.ref a), .val (.int j), .val (.int cc), .val (.int ((cc - (97 : Int32)) + (10 : Int32)))]) rfl k) ?_
          refine Ends.pre (T' := T1.setTop (mkF m 87 #[.val (.ref a), .val (.int j), .val (.int cc), .val (.int ((cc - (97 : Int32)) + (10 : Int32)))] [])) (fun t k => XS.goto X1.here hx rfl (pc0 := 46) (pc' := 87) rfl (hb hby d11_46) (by decide) (by decide) k) ?_
          refine Ends.pre (T' := T1.setTop (mkF m 88 #[.val (.ref a), .val (.int j), .val (.int cc), .val (.int ((cc - (97 : Int32)) + (10 : Int32)))] [(.int ((cc - (97 : Int32)) + (10 : Int32)))])) (fun t k => XS.iloadN X1.here hx rfl (hb hby d11_87) rfl k) ?_
          have hr : (((cc - (97 : Int32)) + (10 : Int32)) : Int32) = vc := by
            have q_hc9_2 := hc9_2
            simp only [Int32.lt_iff_toInt_lt] at q_hc9_2
            have q_hc15_9 := hc15_9
            simp only [Int32.lt_iff_toInt_lt] at q_hc15_9
            have q_hc29_10 := hc29_10
            simp only [Int32.lt_iff_toInt_lt] at q_hc29_10
            have q_hc35_13 := hc35_13
            simp only [Int32.lt_iff_toInt_lt] at q_hc35_13
            have HH := Hc
            unfold HexC at HH
            have a1 := c_isub cc (97 : Int32)
            have r1 := rng32 (cc - (97 : Int32))
            have r0 := rng32 cc
            have a2 := c_iadd (cc - (97 : Int32)) (10 : Int32)
            have r2 := rng32 (cc - (97 : Int32) + (10 : Int32))
            have e48 : (48 : Int32).toInt = 48 := rfl
            have e57 : (57 : Int32).toInt = 57 := rfl
            have e97 : (97 : Int32).toInt = 97 := rfl
            have e102 : (102 : Int32).toInt = 102 := rfl
            have e65 : (65 : Int32).toInt = 65 := rfl
            have e70 : (70 : Int32).toInt = 70 := rfl
            have e10 : (10 : Int32).toInt = 10 := rfl
            apply Int32.toInt_inj.mp
            omega
          exact Ends.ret (w := (.int ((cc - (97 : Int32)) + (10 : Int32)))) X1 hx Bd.notSynchronized Bd.returns rfl (Or.inl ⟨rfl, Or.inl rfl, _, rfl⟩) (hb hby d11_88) eh1 ⟨by rw [hr], N1, rfl⟩ (by decide) (by decide)
    · refine Ends.pre (T' := T1.setTop (mkF m 18 #[.val (.ref a), .val (.int j), .val (.int cc), .unset] [])) (fun t k => XS.icmpNo X1.here hx rfl (hb hby d11_15) rfl (Jvm.Free.XT.ii_gt_f hc15_9) k) ?_
      refine Ends.pre (T' := T1.setTop (mkF m 19 #[.val (.ref a), .val (.int j), .val (.int cc), .unset] [(.int cc)])) (fun t k => XS.iloadN X1.here hx rfl (hb hby d11_18) rfl k) ?_
      refine Ends.pre (T' := T1.setTop (mkF m 21 #[.val (.ref a), .val (.int j), .val (.int cc), .unset] [(.int (48 : Int32)), (.int cc)])) (fun t k => XS.bipush X1.here hx rfl (hb hby d11_19) k) ?_
      refine Ends.pre (T' := T1.setTop (mkF m 22 #[.val (.ref a), .val (.int j), .val (.int cc), .unset] [(.int (cc - (48 : Int32)))])) (fun t k => XS.isub X1.here hx rfl (hb hby d11_21) rfl k) ?_
      refine Ends.pre (T' := T1.setTop (mkF m 23 #[.val (.ref a), .val (.int j), .val (.int cc), .val (.int (cc - (48 : Int32)))] [])) (fun t k => XS.istoreN X1.here hx rfl (hb hby d11_22) rfl (l' := #[.val (.ref a), .val (.int j), .val (.int cc), .val (.int (cc - (48 : Int32)))]) rfl k) ?_
      refine Ends.pre (T' := T1.setTop (mkF m 87 #[.val (.ref a), .val (.int j), .val (.int cc), .val (.int (cc - (48 : Int32)))] [])) (fun t k => XS.goto X1.here hx rfl (pc0 := 23) (pc' := 87) rfl (hb hby d11_23) (by decide) (by decide) k) ?_
      refine Ends.pre (T' := T1.setTop (mkF m 88 #[.val (.ref a), .val (.int j), .val (.int cc), .val (.int (cc - (48 : Int32)))] [(.int (cc - (48 : Int32)))])) (fun t k => XS.iloadN X1.here hx rfl (hb hby d11_87) rfl k) ?_
      have hr : ((cc - (48 : Int32)) : Int32) = vc := by
        have q_hc9_2 := hc9_2
        simp only [Int32.lt_iff_toInt_lt] at q_hc9_2
        have q_hc15_9 := hc15_9
        simp only [Int32.lt_iff_toInt_lt] at q_hc15_9
        have HH := Hc
        unfold HexC at HH
        have a1 := c_isub cc (48 : Int32)
        have r1 := rng32 (cc - (48 : Int32))
        have r0 := rng32 cc
        have e48 : (48 : Int32).toInt = 48 := rfl
        have e57 : (57 : Int32).toInt = 57 := rfl
        have e97 : (97 : Int32).toInt = 97 := rfl
        have e102 : (102 : Int32).toInt = 102 := rfl
        have e65 : (65 : Int32).toInt = 65 := rfl
        have e70 : (70 : Int32).toInt = 70 := rfl
        have e10 : (10 : Int32).toInt = 10 := rfl
        apply Int32.toInt_inj.mp
        omega
      exact Ends.ret (w := (.int (cc - (48 : Int32)))) X1 hx Bd.notSynchronized Bd.returns rfl (Or.inl ⟨rfl, Or.inl rfl, _, rfl⟩) (hb hby d11_88) eh1 ⟨by rw [hr], N1, rfl⟩ (by decide) (by decide)
theorem d5_0 : decode prog_2_method_3_code 0 = .ok (.aload_n 0, 1) := by decide +kernel
theorem d5_1 : decode prog_2_method_3_code 1 = .ok (.invokevirtual 18, 3) := by decide +kernel
theorem pd_2 : parseMethodDescriptor "()I" = some ⟨[], some .int⟩ := by decide +kernel
theorem d5_4 : decode prog_2_method_3_code 4 = .ok (.iconst 2, 1) := by decide +kernel
theorem d5_5 : decode prog_2_method_3_code 5 = .ok (.irem, 1) := by decide +kernel
theorem d5_6 : decode prog_2_method_3_code 6 = .ok (.ifCond .eq 20, 3) := by decide +kernel
theorem d5_26 : decode prog_2_method_3_code 26 = .ok (.aload_n 0, 1) := by decide +kernel
theorem d5_27 : decode prog_2_method_3_code 27 = .ok (.invokevirtual 18, 3) := by decide +kernel
theorem d5_30 : decode prog_2_method_3_code 30 = .ok (.iconst 2, 1) := by decide +kernel
theorem d5_31 : decode prog_2_method_3_code 31 = .ok (.idiv, 1) := by decide +kernel
theorem d5_32 : decode prog_2_method_3_code 32 = .ok (.newarray .byte, 2) := by decide +kernel
theorem d5_34 : decode prog_2_method_3_code 34 = .ok (.astore_n 1, 1) := by decide +kernel
theorem d5_35 : decode prog_2_method_3_code 35 = .ok (.iconst 0, 1) := by decide +kernel
theorem d5_36 : decode prog_2_method_3_code 36 = .ok (.istore_n 2, 1) := by decide +kernel
theorem d5_37 : decode prog_2_method_3_code 37 = .ok (.iload_n 2, 1) := by decide +kernel
theorem d5_38 : decode prog_2_method_3_code 38 = .ok (.aload_n 1, 1) := by decide +kernel
theorem d5_39 : decode prog_2_method_3_code 39 = .ok (.arraylength, 1) := by decide +kernel
theorem d5_40 : decode prog_2_method_3_code 40 = .ok (.if_icmp .ge 32, 3) := by decide +kernel
theorem d5_72 : decode prog_2_method_3_code 72 = .ok (.aload_n 1, 1) := by decide +kernel
theorem d5_73 : decode prog_2_method_3_code 73 = .ok (.areturn, 1) := by decide +kernel
theorem ef_rm5_0 (m : MethodId) (x0 : Addr) : entryFrame m #[(.ref x0)] 3 = mkF m 0 #[.val (.ref x0), .unset, .unset] [] := by first | (simp [entryFrame, mkF, argsToLocals, Value.category]; done) | rfl
def Q_rm5_0 (Z : State) (a : Addr) (ta : Addr) (ka : ClassId) (cz : Int32) (fm : Value) (h0 : Heap) (n0 : Nat) (v : Option Value) (h : Heap) (L : List Loc) : Prop := ∃ r kb, v = some (.ref r) ∧ Fr n0 L ∧ Keep h0 h [] ∧ Arv Z h r kb .byte (0 : Int32) [] (.int (0 : Int32))
set_option maxRecDepth 65536 in
set_option maxHeartbeats 40000000 in
theorem rm5_0 (l : Launch) (Z : State) (a0 : Array Value) (hw : ∀ d ∈ tables_1, d.before a0 Z = true) (ws : List Jvm.Cond) (a : Addr) (ta : Addr) (ka : ClassId) (cz : Int32) (fm : Value) (h0 : Heap) (n0 : Nat) (Z0 : n0 ≤ h0.size) (Ea : Exa Z h0 a "java/lang/String") (Ca : Fld Z h0 a "java/lang/String" "coder" "B" (.int 0)) (Va : Fld Z h0 a "java/lang/String" "value" "[B" (.ref ta)) (Aa : Arv Z h0 ta ka .byte (0 : Int32) [] (.int 0)) (SCS : Sta Z h0 "java/lang/String" "COMPACT_STRINGS" "Z" (.int cz)) (hcz : ¬ cz = 0) (SFM : Sta Z h0 "jdk/internal/util/Preconditions" "SIOOBE_FORMATTER" "Ljava/util/function/BiFunction;" fm) (hfm : fm.isRef = true) :
    MetFree l (⟨"com/example/wireform/wireform/Hex", "parse", "(Ljava/lang/String;)[B"⟩ : MethodName) (head1 (Jvm.Cond.code (⟨"com/example/wireform/wireform/Hex", "parse", "(Ljava/lang/String;)[B"⟩ : MethodName) prog_2_method_3_code 3 (some (.array .byte)) :: ws) ({ frames := 2, cells := 1, slots := 0, locals := 25 } : Room)) (fun aa_ U => aa_ = #[(.ref a)] ∧ Z.Warmed39 U.vm ∧ U.heap = h0) (fun _ _ _ _ _ => True) (fun _ U o U' => ∃ v L, o = .returned v ∧ Q_rm5_0 Z a ta ka cz fm h0 n0 v U'.heap L ∧ FrameEnd U o U' L ({ frames := 2, cells := 1, slots := 0, locals := 25 } : Room).cells ({ frames := 2, cells := 1, slots := 0, locals := 25 } : Room).slots) := by
  refine MetFree.of_bodySF (plainFor_of_name pn_2) hisR ?_
  intro p e s m args below meth c s₁ Bd hml0 hP hK
  obtain ⟨rfl, hZ, hh⟩ := hP
  have hx := Bd.exec
  have hby := Bd.bytes
  have hml : c.maxLocals = 3 := hml0
  have hown : s.vm.findClass "com/example/wireform/wireform/Hex" = some m.cls := findClass_of_methodNamed Bd.named
  have hnm := (name_of_methodNamed Bd.named Bd.method).1
  have X0 : Stand p l e ({ frames := 2, cells := 1, slots := 0, locals := 25 } : Room) s m #[(.ref a)] below meth c s₁ [] 0 0 := Stand.of_body Bd
  have e0 : s₁.heap = h0 := by rw [← hh, Bd.state]; rfl
  have N0 := Fr.nil n0
  refine Ends.cast (P := EndN s ({ frames := 2, cells := 1, slots := 0, locals := 25 } : Room) (Q_rm5_0 Z a ta ka cz fm h0 n0)) (ef_rm5_0 m a) ?_
  have hcd_a : StrChars.Road.CodA ([] : List Int32) 0 (0 : Int32) [] := own_lit rfl rfl own_al0
  have hbd_a : ∀ c ∈ ([] : List Int32), ¬ c < 0 ∧ ¬ (65535 : Int32) < c := own_al0
  refine Ends.pre (T' := s₁.setTop (mkF m 1 #[.val (.ref a), .unset, .unset] [(.ref a)])) (fun t k => XS.aloadN X0.here hx rfl (hb hby d5_0) rfl rfl k) ?_
  obtain ⟨cq1, kq1, q1a, q1b, q1c⟩ := isOf hZ e0 Ea
  obtain ⟨_, _, ⟨T1, L1, k1, n1⟩, -, X1, ⟨Lc1, hQ1, l1, y1, z1⟩, st1⟩ := X0.virtualBack hx (y := (⟨"java/lang/String", "length", "()I"⟩ : MethodName)) (z := (⟨"java/lang/String", "length", "()I"⟩ : MethodName)) hown (mvT hZ (hw _ (List.mem_of_getElem? (i := 31) rfl))) (mvT hZ (hw _ (List.mem_of_getElem? (i := 32) rfl))) (notFace_of_selects (args := #[]) (mvT hZ (hw _ (List.mem_of_getElem? (i := 34) rfl)))) (mvT hZ (hw _ (List.mem_of_getElem? (i := 34) rfl))) (mvT hZ (hw _ (List.mem_of_getElem? (i := 33) rfl))) (by decide) (StrChars.Road.lenW (W := 0) hZ (own_hln hw) (kI := 4) (hw _ (List.mem_of_getElem? (i := 7) rfl)) Ea Va Ca Aa hcd_a hbd_a SCS hcz (Nat.le_of_ble_eq_true rfl) (by decide) (by decide)) q1a q1c (g := (mkF m 1 #[.val (.ref a), .unset, .unset] [(.ref a)])) rfl (by rw [hml]; rfl) (Steps.refl _) (argsL := []) (rest := []) (lenOf pd_2 rfl) rfl (by show 2 * 0 + _ ≤ _; exact Nat.le_of_eq rfl) (hb hby d5_1) (fun _ _ => ⟨rfl, e0, (by decide : 0 + 0 ≤ _), (by decide : 0 + 0 ≤ _)⟩)
  dsimp only [Pt.U, Pt.locs, Pt.cells, Pt.slots] at X1 l1 y1 z1 st1 hQ1
  subst l1 y1 z1
  obtain ⟨rfl, rfl, eh1⟩ := hQ1
  have N1 := Fr.app N0 (Fr.nil n0)
  refine Ends.pre (T' := T1.setTop (mkF m 4 #[.val (.ref a), .unset, .unset] [(.int (0 : Int32))])) (fun t k => st1.trans k) ?_
  refine Ends.pre (T' := T1.setTop (mkF m 5 #[.val (.ref a), .unset, .unset] [(.int (2 : Int32)), (.int (0 : Int32))])) (fun t k => XS.iconst X1.here hx rfl (hb hby d5_4) k) ?_
  refine Ends.pre (T' := T1.setTop (mkF m 6 #[.val (.ref a), .unset, .unset] [(.int (0 : Int32))])) (fun t k => iremM X1 hx rfl (hb hby d5_5) rfl (by decide) k) ?_
  refine Ends.pre (T' := T1.setTop (mkF m 26 #[.val (.ref a), .unset, .unset] [])) (fun t k => XS.ifYes X1.here hx rfl (pc0 := 6) (pc' := 26) rfl (hb hby d5_6) rfl (by decide) (by decide) (by decide) k) ?_
  refine Ends.pre (T' := T1.setTop (mkF m 27 #[.val (.ref a), .unset, .unset] [(.ref a)])) (fun t k => XS.aloadN X1.here hx rfl (hb hby d5_26) rfl rfl k) ?_
  obtain ⟨cq2, kq2, q2a, q2b, q2c⟩ := isOf hZ eh1 Ea
  obtain ⟨_, _, ⟨T2, L2, k2, n2⟩, -, X2, ⟨Lc2, hQ2, l2, y2, z2⟩, st2⟩ := X1.virtualBack hx (y := (⟨"java/lang/String", "length", "()I"⟩ : MethodName)) (z := (⟨"java/lang/String", "length", "()I"⟩ : MethodName)) hown (mvT hZ (hw _ (List.mem_of_getElem? (i := 31) rfl))) (mvT hZ (hw _ (List.mem_of_getElem? (i := 32) rfl))) (notFace_of_selects (args := #[]) (mvT hZ (hw _ (List.mem_of_getElem? (i := 34) rfl)))) (mvT hZ (hw _ (List.mem_of_getElem? (i := 34) rfl))) (mvT hZ (hw _ (List.mem_of_getElem? (i := 33) rfl))) (by decide) (StrChars.Road.lenW (W := 0) hZ (own_hln hw) (kI := 4) (hw _ (List.mem_of_getElem? (i := 7) rfl)) Ea Va Ca Aa hcd_a hbd_a SCS hcz (Nat.le_of_ble_eq_true rfl) (by decide) (by decide)) q2a q2c (g := (mkF m 27 #[.val (.ref a), .unset, .unset] [(.ref a)])) rfl (by rw [hml]; rfl) (Steps.refl _) (argsL := []) (rest := []) (lenOf pd_2 rfl) rfl (by show 2 * 0 + _ ≤ _; exact Nat.le_of_eq rfl) (hb hby d5_27) (fun _ _ => ⟨rfl, eh1, (by decide : 0 + 0 ≤ _), (by decide : 0 + 0 ≤ _)⟩)
  dsimp only [Pt.U, Pt.locs, Pt.cells, Pt.slots] at X2 l2 y2 z2 st2 hQ2
  subst l2 y2 z2
  obtain ⟨rfl, rfl, eh2⟩ := hQ2
  have N2 := Fr.app N1 (Fr.nil n0)
  refine Ends.pre (T' := T2.setTop (mkF m 30 #[.val (.ref a), .unset, .unset] [(.int (0 : Int32))])) (fun t k => st2.trans k) ?_
  refine Ends.pre (T' := T2.setTop (mkF m 31 #[.val (.ref a), .unset, .unset] [(.int (2 : Int32)), (.int (0 : Int32))])) (fun t k => XS.iconst X2.here hx rfl (hb hby d5_30) k) ?_
  refine Ends.pre (T' := T2.setTop (mkF m 32 #[.val (.ref a), .unset, .unset] [(.int (0 : Int32))])) (fun t k => XS.idiv X2.here hx rfl (hb hby d5_31) rfl (by decide) k) ?_
  obtain ⟨T3, h3, k3, X3, e3, E3, A3, st3⟩ := newP X2 hx hZ (hw _ (List.mem_of_getElem? (i := 20) rfl)) eh2 (g := (mkF m 32 #[.val (.ref a), .unset, .unset] [(.int (0 : Int32))])) rfl (hb hby d5_32) rfl (by decide) (cap := 0) (by decide) (by decide) (by decide) (by decide)
  obtain ⟨b3, g3⟩ : ∃ z, z = h0.size := ⟨_, rfl⟩
  rw [← g3] at A3 st3
  have ge_b3 : n0 ≤ b3 := Nat.le_trans Z0 (Nat.le_of_eq g3.symm)
  have sz_b3 : h0.size ≤ b3 := Nat.le_trans (Keep.refl h0 []).1 (Nat.le_of_eq g3.symm)
  have K3 : Keep h0 h3 [] := (Keep.refl h0 []).ext E3
  have V3 : Arv Z h3 b3 k3 .byte (0 : Int32) [] (.int (0 : Int32)) := (Arv.new A3 (by decide))
  refine Ends.pre (T' := T3.setTop (mkF m 34 #[.val (.ref a), .unset, .unset] [(.ref b3)])) (fun t k => st3 _ k) ?_
  refine Ends.pre (T' := T3.setTop (mkF m 35 #[.val (.ref a), .val (.ref b3), .unset] [])) (fun t k => XS.astoreN X3.here hx rfl (hb hby d5_34) rfl rfl (l' := #[.val (.ref a), .val (.ref b3), .unset]) rfl k) ?_
  refine Ends.pre (T' := T3.setTop (mkF m 36 #[.val (.ref a), .val (.ref b3), .unset] [(.int (0 : Int32))])) (fun t k => XS.iconst X3.here hx rfl (hb hby d5_35) k) ?_
  refine Ends.pre (T' := T3.setTop (mkF m 37 #[.val (.ref a), .val (.ref b3), .val (.int (0 : Int32))] [])) (fun t k => XS.istoreN X3.here hx rfl (hb hby d5_36) rfl (l' := #[.val (.ref a), .val (.ref b3), .val (.int (0 : Int32))]) rfl k) ?_
  refine Ends.pre (T' := T3.setTop (mkF m 38 #[.val (.ref a), .val (.ref b3), .val (.int (0 : Int32))] [(.int (0 : Int32))])) (fun t k => XS.iloadN X3.here hx rfl (hb hby d5_37) rfl k) ?_
  refine Ends.pre (T' := T3.setTop (mkF m 39 #[.val (.ref a), .val (.ref b3), .val (.int (0 : Int32))] [(.ref b3), (.int (0 : Int32))])) (fun t k => XS.aloadN X3.here hx rfl (hb hby d5_38) rfl rfl k) ?_
  obtain ⟨cl4, Ar4, q4, S4, N4', H4, G4⟩ := id V3
  refine Ends.pre (T' := T3.setTop (mkF m 40 #[.val (.ref a), .val (.ref b3), .val (.int (0 : Int32))] [(.int (0 : Int32)), (.int (0 : Int32))])) (fun t k => X3.arraylength hx (by rw [e3]; exact Ar4.1) (State.isArrayOf_alike hZ.alike Ar4.2.1) (g := (mkF m 39 #[.val (.ref a), .val (.ref b3), .val (.int (0 : Int32))] [(.ref b3), (.int (0 : Int32))])) rfl rfl (hb hby d5_39) _ (by rw [len_of S4 N4']; exact k)) ?_
  refine Ends.pre (T' := T3.setTop (mkF m 72 #[.val (.ref a), .val (.ref b3), .val (.int (0 : Int32))] [])) (fun t k => XS.icmpYes X3.here hx rfl (pc0 := 40) (pc' := 72) rfl (hb hby d5_40) rfl (by decide) (by decide) (by decide) k) ?_
  refine Ends.pre (T' := T3.setTop (mkF m 73 #[.val (.ref a), .val (.ref b3), .val (.int (0 : Int32))] [(.ref b3)])) (fun t k => XS.aloadN X3.here hx rfl (hb hby d5_72) rfl rfl k) ?_
  exact Ends.ret (w := (.ref b3)) X3 hx Bd.notSynchronized Bd.returns rfl (Or.inr (Or.inr (Or.inr (Or.inr ⟨rfl, rfl, rfl⟩)))) (hb hby d5_73) e3 ⟨_, _, rfl, N2, K3, V3⟩ (by decide) (by decide)
theorem d5_43 : decode prog_2_method_3_code 43 = .ok (.aload_n 1, 1) := by decide +kernel
theorem d5_44 : decode prog_2_method_3_code 44 = .ok (.iload_n 2, 1) := by decide +kernel
theorem d5_45 : decode prog_2_method_3_code 45 = .ok (.aload_n 0, 1) := by decide +kernel
theorem d5_46 : decode prog_2_method_3_code 46 = .ok (.iconst 2, 1) := by decide +kernel
theorem d5_47 : decode prog_2_method_3_code 47 = .ok (.iload_n 2, 1) := by decide +kernel
theorem d5_48 : decode prog_2_method_3_code 48 = .ok (.imul, 1) := by decide +kernel
theorem d5_49 : decode prog_2_method_3_code 49 = .ok (.invokestatic 31, 3) := by decide +kernel
theorem pd_3 : parseMethodDescriptor "(Ljava/lang/String;I)I" = some ⟨[(.object "java/lang/String"), .int], some .int⟩ := by decide +kernel
theorem d5_52 : decode prog_2_method_3_code 52 = .ok (.iconst 4, 1) := by decide +kernel
theorem d5_53 : decode prog_2_method_3_code 53 = .ok (.ishl, 1) := by decide +kernel
theorem d5_54 : decode prog_2_method_3_code 54 = .ok (.aload_n 0, 1) := by decide +kernel
theorem d5_55 : decode prog_2_method_3_code 55 = .ok (.iconst 2, 1) := by decide +kernel
theorem d5_56 : decode prog_2_method_3_code 56 = .ok (.iload_n 2, 1) := by decide +kernel
theorem d5_57 : decode prog_2_method_3_code 57 = .ok (.imul, 1) := by decide +kernel
theorem d5_58 : decode prog_2_method_3_code 58 = .ok (.iconst 1, 1) := by decide +kernel
theorem d5_59 : decode prog_2_method_3_code 59 = .ok (.iadd, 1) := by decide +kernel
theorem d5_60 : decode prog_2_method_3_code 60 = .ok (.invokestatic 31, 3) := by decide +kernel
theorem d5_63 : decode prog_2_method_3_code 63 = .ok (.ior, 1) := by decide +kernel
theorem d5_64 : decode prog_2_method_3_code 64 = .ok (.i2b, 1) := by decide +kernel
theorem d5_65 : decode prog_2_method_3_code 65 = .ok (.bastore, 1) := by decide +kernel
theorem d5_66 : decode prog_2_method_3_code 66 = .ok (.iinc 2 1, 3) := by decide +kernel
theorem d5_69 : decode prog_2_method_3_code 69 = .ok (.goto (-32), 3) := by decide +kernel
theorem ef_rm5_2 (m : MethodId) (x0 : Addr) : entryFrame m #[(.ref x0)] 3 = mkF m 0 #[.val (.ref x0), .unset, .unset] [] := by first | (simp [entryFrame, mkF, argsToLocals, Value.category]; done) | rfl
def Q_rm5_2 (Z : State) (a : Addr) (ta : Addr) (ka : ClassId) (c0 : Int32) (vc0 : Int32) (c1 : Int32) (vc1 : Int32) (cz : Int32) (fm : Value) (h0 : Heap) (n0 : Nat) (v : Option Value) (h : Heap) (L : List Loc) : Prop := ∃ r kb, v = some (.ref r) ∧ Fr n0 L ∧ Keep h0 h [] ∧ Arv Z h r kb .byte (1 : Int32) [(.int (nar .byte (((vc0 <<< ((4 : Int32) &&& 31)) ||| vc1).toInt8.toInt32)))] (.int (0 : Int32))
set_option maxRecDepth 65536 in
set_option maxHeartbeats 40000000 in
theorem rm5_2 (l : Launch) (Z : State) (a0 : Array Value) (hw : ∀ d ∈ tables_1, d.before a0 Z = true) (ws : List Jvm.Cond) (a : Addr) (ta : Addr) (ka : ClassId) (c0 : Int32) (vc0 : Int32) (c1 : Int32) (vc1 : Int32) (cz : Int32) (fm : Value) (h0 : Heap) (n0 : Nat) (Z0 : n0 ≤ h0.size) (Ea : Exa Z h0 a "java/lang/String") (Ca : Fld Z h0 a "java/lang/String" "coder" "B" (.int 0)) (Va : Fld Z h0 a "java/lang/String" "value" "[B" (.ref ta)) (Aa : Arv Z h0 ta ka .byte (2 : Int32) ((([c0, c1] : List Int32).map (fun c => c.toInt8.toInt32)).map Value.int) (.int 0)) (Hc0 : HexC c0 vc0) (Hc1 : HexC c1 vc1) (SCS : Sta Z h0 "java/lang/String" "COMPACT_STRINGS" "Z" (.int cz)) (hcz : ¬ cz = 0) (SFM : Sta Z h0 "jdk/internal/util/Preconditions" "SIOOBE_FORMATTER" "Ljava/util/function/BiFunction;" fm) (hfm : fm.isRef = true) :
    MetFree l (⟨"com/example/wireform/wireform/Hex", "parse", "(Ljava/lang/String;)[B"⟩ : MethodName) (head1 (Jvm.Cond.code (⟨"com/example/wireform/wireform/Hex", "parse", "(Ljava/lang/String;)[B"⟩ : MethodName) prog_2_method_3_code 3 (some (.array .byte)) :: ws) ({ frames := 5, cells := 1, slots := 1, locals := 71 } : Room)) (fun aa_ U => aa_ = #[(.ref a)] ∧ Z.Warmed39 U.vm ∧ U.heap = h0) (fun _ _ _ _ _ => True) (fun _ U o U' => ∃ v L, o = .returned v ∧ Q_rm5_2 Z a ta ka c0 vc0 c1 vc1 cz fm h0 n0 v U'.heap L ∧ FrameEnd U o U' L ({ frames := 5, cells := 1, slots := 1, locals := 71 } : Room).cells ({ frames := 5, cells := 1, slots := 1, locals := 71 } : Room).slots) := by
  refine MetFree.of_bodySF (plainFor_of_name pn_2) hisR ?_
  intro p e s m args below meth c s₁ Bd hml0 hP hK
  obtain ⟨rfl, hZ, hh⟩ := hP
  have hx := Bd.exec
  have hby := Bd.bytes
  have hml : c.maxLocals = 3 := hml0
  have hown : s.vm.findClass "com/example/wireform/wireform/Hex" = some m.cls := findClass_of_methodNamed Bd.named
  have hnm := (name_of_methodNamed Bd.named Bd.method).1
  have X0 : Stand p l e ({ frames := 5, cells := 1, slots := 1, locals := 71 } : Room) s m #[(.ref a)] below meth c s₁ [] 0 0 := Stand.of_body Bd
  have e0 : s₁.heap = h0 := by rw [← hh, Bd.state]; rfl
  have N0 := Fr.nil n0
  refine Ends.cast (P := EndN s ({ frames := 5, cells := 1, slots := 1, locals := 71 } : Room) (Q_rm5_2 Z a ta ka c0 vc0 c1 vc1 cz fm h0 n0)) (ef_rm5_2 m a) ?_
  have hp_a : ∀ c ∈ ([c0, c1] : List Int32), ¬ c < 0 ∧ ¬ (255 : Int32) < c := (own_alS (own_hexc Hc0) (own_alS (own_hexc Hc1) own_al0))
  have hcd_a : StrChars.Road.CodA ([c0, c1] : List Int32) 0 (2 : Int32) ((([c0, c1] : List Int32).map (fun c => c.toInt8.toInt32)).map Value.int) := StrChars.Road.codOf (n := 2) rfl (fun c hc => (hp_a c hc).2)
  have hbd_a := own_up _ hp_a
  refine Ends.pre (T' := s₁.setTop (mkF m 1 #[.val (.ref a), .unset, .unset] [(.ref a)])) (fun t k => XS.aloadN X0.here hx rfl (hb hby d5_0) rfl rfl k) ?_
  obtain ⟨cq1, kq1, q1a, q1b, q1c⟩ := isOf hZ e0 Ea
  obtain ⟨_, _, ⟨T1, L1, k1, n1⟩, -, X1, ⟨Lc1, hQ1, l1, y1, z1⟩, st1⟩ := X0.virtualBack hx (y := (⟨"java/lang/String", "length", "()I"⟩ : MethodName)) (z := (⟨"java/lang/String", "length", "()I"⟩ : MethodName)) hown (mvT hZ (hw _ (List.mem_of_getElem? (i := 31) rfl))) (mvT hZ (hw _ (List.mem_of_getElem? (i := 32) rfl))) (notFace_of_selects (args := #[]) (mvT hZ (hw _ (List.mem_of_getElem? (i := 34) rfl)))) (mvT hZ (hw _ (List.mem_of_getElem? (i := 34) rfl))) (mvT hZ (hw _ (List.mem_of_getElem? (i := 33) rfl))) (by decide) (StrChars.Road.lenW (W := 0) hZ (own_hln hw) (kI := 4) (hw _ (List.mem_of_getElem? (i := 7) rfl)) Ea Va Ca Aa hcd_a hbd_a SCS hcz (Nat.le_of_ble_eq_true rfl) (by decide) (by decide)) q1a q1c (g := (mkF m 1 #[.val (.ref a), .unset, .unset] [(.ref a)])) rfl (by rw [hml]; rfl) (Steps.refl _) (argsL := []) (rest := []) (lenOf pd_2 rfl) rfl (by show 2 * 0 + _ ≤ _; exact Nat.le_of_eq rfl) (hb hby d5_1) (fun _ _ => ⟨rfl, e0, (by decide : 0 + 0 ≤ _), (by decide : 0 + 0 ≤ _)⟩)
  dsimp only [Pt.U, Pt.locs, Pt.cells, Pt.slots] at X1 l1 y1 z1 st1 hQ1
  subst l1 y1 z1
  obtain ⟨rfl, rfl, eh1⟩ := hQ1
  have N1 := Fr.app N0 (Fr.nil n0)
  refine Ends.pre (T' := T1.setTop (mkF m 4 #[.val (.ref a), .unset, .unset] [(.int (2 : Int32))])) (fun t k => st1.trans k) ?_
  refine Ends.pre (T' := T1.setTop (mkF m 5 #[.val (.ref a), .unset, .unset] [(.int (2 : Int32)), (.int (2 : Int32))])) (fun t k => XS.iconst X1.here hx rfl (hb hby d5_4) k) ?_
  refine Ends.pre (T' := T1.setTop (mkF m 6 #[.val (.ref a), .unset, .unset] [(.int (0 : Int32))])) (fun t k => iremM X1 hx rfl (hb hby d5_5) rfl (by decide) k) ?_
  refine Ends.pre (T' := T1.setTop (mkF m 26 #[.val (.ref a), .unset, .unset] [])) (fun t k => XS.ifYes X1.here hx rfl (pc0 := 6) (pc' := 26) rfl (hb hby d5_6) rfl (by decide) (by decide) (by decide) k) ?_
  refine Ends.pre (T' := T1.setTop (mkF m 27 #[.val (.ref a), .unset, .unset] [(.ref a)])) (fun t k => XS.aloadN X1.here hx rfl (hb hby d5_26) rfl rfl k) ?_
  obtain ⟨cq2, kq2, q2a, q2b, q2c⟩ := isOf hZ eh1 Ea
  obtain ⟨_, _, ⟨T2, L2, k2, n2⟩, -, X2, ⟨Lc2, hQ2, l2, y2, z2⟩, st2⟩ := X1.virtualBack hx (y := (⟨"java/lang/String", "length", "()I"⟩ : MethodName)) (z := (⟨"java/lang/String", "length", "()I"⟩ : MethodName)) hown (mvT hZ (hw _ (List.mem_of_getElem? (i := 31) rfl))) (mvT hZ (hw _ (List.mem_of_getElem? (i := 32) rfl))) (notFace_of_selects (args := #[]) (mvT hZ (hw _ (List.mem_of_getElem? (i := 34) rfl)))) (mvT hZ (hw _ (List.mem_of_getElem? (i := 34) rfl))) (mvT hZ (hw _ (List.mem_of_getElem? (i := 33) rfl))) (by decide) (StrChars.Road.lenW (W := 0) hZ (own_hln hw) (kI := 4) (hw _ (List.mem_of_getElem? (i := 7) rfl)) Ea Va Ca Aa hcd_a hbd_a SCS hcz (Nat.le_of_ble_eq_true rfl) (by decide) (by decide)) q2a q2c (g := (mkF m 27 #[.val (.ref a), .unset, .unset] [(.ref a)])) rfl (by rw [hml]; rfl) (Steps.refl _) (argsL := []) (rest := []) (lenOf pd_2 rfl) rfl (by show 2 * 0 + _ ≤ _; exact Nat.le_of_eq rfl) (hb hby d5_27) (fun _ _ => ⟨rfl, eh1, (by decide : 0 + 0 ≤ _), (by decide : 0 + 0 ≤ _)⟩)
  dsimp only [Pt.U, Pt.locs, Pt.cells, Pt.slots] at X2 l2 y2 z2 st2 hQ2
  subst l2 y2 z2
  obtain ⟨rfl, rfl, eh2⟩ := hQ2
  have N2 := Fr.app N1 (Fr.nil n0)
  refine Ends.pre (T' := T2.setTop (mkF m 30 #[.val (.ref a), .unset, .unset] [(.int (2 : Int32))])) (fun t k => st2.trans k) ?_
  refine Ends.pre (T' := T2.setTop (mkF m 31 #[.val (.ref a), .unset, .unset] [(.int (2 : Int32)), (.int (2 : Int32))])) (fun t k => XS.iconst X2.here hx rfl (hb hby d5_30) k) ?_
  refine Ends.pre (T' := T2.setTop (mkF m 32 #[.val (.ref a), .unset, .unset] [(.int (1 : Int32))])) (fun t k => XS.idiv X2.here hx rfl (hb hby d5_31) rfl (by decide) k) ?_
  obtain ⟨T3, h3, k3, X3, e3, E3, A3, st3⟩ := newP X2 hx hZ (hw _ (List.mem_of_getElem? (i := 20) rfl)) eh2 (g := (mkF m 32 #[.val (.ref a), .unset, .unset] [(.int (1 : Int32))])) rfl (hb hby d5_32) rfl (by decide) (cap := 1) (by decide) (by decide) (by decide) (by decide)
  obtain ⟨b3, g3⟩ : ∃ z, z = h0.size := ⟨_, rfl⟩
  rw [← g3] at A3 st3
  have ge_b3 : n0 ≤ b3 := Nat.le_trans Z0 (Nat.le_of_eq g3.symm)
  have sz_b3 : h0.size ≤ b3 := Nat.le_trans (Keep.refl h0 []).1 (Nat.le_of_eq g3.symm)
  have K3 : Keep h0 h3 [] := (Keep.refl h0 []).ext E3
  have V3 : Arv Z h3 b3 k3 .byte (1 : Int32) [(.int (0 : Int32))] (.int (0 : Int32)) := (Arv.new A3 (by decide)).pad (pad_rep [] (.int (0 : Int32)) 1)
  refine Ends.pre (T' := T3.setTop (mkF m 34 #[.val (.ref a), .unset, .unset] [(.ref b3)])) (fun t k => st3 _ k) ?_
  refine Ends.pre (T' := T3.setTop (mkF m 35 #[.val (.ref a), .val (.ref b3), .unset] [])) (fun t k => XS.astoreN X3.here hx rfl (hb hby d5_34) rfl rfl (l' := #[.val (.ref a), .val (.ref b3), .unset]) rfl k) ?_
  refine Ends.pre (T' := T3.setTop (mkF m 36 #[.val (.ref a), .val (.ref b3), .unset] [(.int (0 : Int32))])) (fun t k => XS.iconst X3.here hx rfl (hb hby d5_35) k) ?_
  refine Ends.pre (T' := T3.setTop (mkF m 37 #[.val (.ref a), .val (.ref b3), .val (.int (0 : Int32))] [])) (fun t k => XS.istoreN X3.here hx rfl (hb hby d5_36) rfl (l' := #[.val (.ref a), .val (.ref b3), .val (.int (0 : Int32))]) rfl k) ?_
  refine Ends.pre (T' := T3.setTop (mkF m 38 #[.val (.ref a), .val (.ref b3), .val (.int (0 : Int32))] [(.int (0 : Int32))])) (fun t k => XS.iloadN X3.here hx rfl (hb hby d5_37) rfl k) ?_
  refine Ends.pre (T' := T3.setTop (mkF m 39 #[.val (.ref a), .val (.ref b3), .val (.int (0 : Int32))] [(.ref b3), (.int (0 : Int32))])) (fun t k => XS.aloadN X3.here hx rfl (hb hby d5_38) rfl rfl k) ?_
  obtain ⟨cl4, Ar4, q4, S4, N4', H4, G4⟩ := id V3
  refine Ends.pre (T' := T3.setTop (mkF m 40 #[.val (.ref a), .val (.ref b3), .val (.int (0 : Int32))] [(.int (1 : Int32)), (.int (0 : Int32))])) (fun t k => X3.arraylength hx (by rw [e3]; exact Ar4.1) (State.isArrayOf_alike hZ.alike Ar4.2.1) (g := (mkF m 39 #[.val (.ref a), .val (.ref b3), .val (.int (0 : Int32))] [(.ref b3), (.int (0 : Int32))])) rfl rfl (hb hby d5_39) _ (by rw [len_of S4 N4']; exact k)) ?_
  refine Ends.pre (T' := T3.setTop (mkF m 43 #[.val (.ref a), .val (.ref b3), .val (.int (0 : Int32))] [])) (fun t k => XS.icmpNo X3.here hx rfl (hb hby d5_40) rfl (by decide) k) ?_
  refine Ends.pre (T' := T3.setTop (mkF m 44 #[.val (.ref a), .val (.ref b3), .val (.int (0 : Int32))] [(.ref b3)])) (fun t k => XS.aloadN X3.here hx rfl (hb hby d5_43) rfl rfl k) ?_
  refine Ends.pre (T' := T3.setTop (mkF m 45 #[.val (.ref a), .val (.ref b3), .val (.int (0 : Int32))] [(.int (0 : Int32)), (.ref b3)])) (fun t k => XS.iloadN X3.here hx rfl (hb hby d5_44) rfl k) ?_
  refine Ends.pre (T' := T3.setTop (mkF m 46 #[.val (.ref a), .val (.ref b3), .val (.int (0 : Int32))] [(.ref a), (.int (0 : Int32)), (.ref b3)])) (fun t k => XS.aloadN X3.here hx rfl (hb hby d5_45) rfl rfl k) ?_
  refine Ends.pre (T' := T3.setTop (mkF m 47 #[.val (.ref a), .val (.ref b3), .val (.int (0 : Int32))] [(.int (2 : Int32)), (.ref a), (.int (0 : Int32)), (.ref b3)])) (fun t k => XS.iconst X3.here hx rfl (hb hby d5_46) k) ?_
  refine Ends.pre (T' := T3.setTop (mkF m 48 #[.val (.ref a), .val (.ref b3), .val (.int (0 : Int32))] [(.int (0 : Int32)), (.int (2 : Int32)), (.ref a), (.int (0 : Int32)), (.ref b3)])) (fun t k => XS.iloadN X3.here hx rfl (hb hby d5_47) rfl k) ?_
  refine Ends.pre (T' := T3.setTop (mkF m 49 #[.val (.ref a), .val (.ref b3), .val (.int (0 : Int32))] [(.int (0 : Int32)), (.ref a), (.int (0 : Int32)), (.ref b3)])) (fun t k => XS.imul X3.here hx rfl (hb hby d5_48) rfl k) ?_
  have F5 : Exa Z h3 a "java/lang/String" := (Ea.keep K3)
  have F6 : Fld Z h3 a "java/lang/String" "value" "[B" (.ref ta) := (Va.keep K3 nin0)
  have F7 : Fld Z h3 a "java/lang/String" "coder" "B" (.int 0) := (Ca.keep K3 nin0)
  have F8 : Arv Z h3 ta ka .byte (2 : Int32) ((([c0, c1] : List Int32).map (fun c => c.toInt8.toInt32)).map Value.int) (.int 0) := (Aa.keep K3 nin0)
  have F9 : Sta Z h3 "java/lang/String" "COMPACT_STRINGS" "Z" (.int cz) := (Sta_keep0 SCS K3)
  have F10 : Sta Z h3 "jdk/internal/util/Preconditions" "SIOOBE_FORMATTER" "Ljava/util/function/BiFunction;" fm := (Sta_keep0 SFM K3)
  obtain ⟨_, _, ⟨T11, L11, k11, n11⟩, -, X11, ⟨Lc11, hQ11, l11, y11, z11⟩, st11⟩ := Jvm.LawKit.callS X3 hx (y := (⟨"com/example/wireform/wireform/Hex", "digit", "(Ljava/lang/String;I)I"⟩ : MethodName)) hown (mvT hZ (hw _ (List.mem_of_getElem? (i := 52) rfl))) (mvT hZ (hw _ (List.mem_of_getElem? (i := 53) rfl))) (mvT hZ (hw _ (List.mem_of_getElem? (i := 29) rfl))) (mvT hZ (hw _ (List.mem_of_getElem? (i := 54) rfl))) (by decide) (backOf (W := 2) (rm11 l Z a0 hw [] a ta ka ([c0, c1] : List Int32) (2 : Int32) _ (0 : Int32) 0 c0 vc0 cz fm h3 n0 (Nat.le_trans Z0 E3.1) F5 F7 F6 F8 hcd_a hbd_a (Nat.le_of_ble_eq_true rfl) (Nat.le_of_ble_eq_true rfl) rfl rfl Hc0 F9 hcz F10 hfm) hZ (hw _ (List.mem_of_getElem? (i := 54) rfl)) (hw _ (List.mem_of_getElem? (i := 29) rfl)) (by decide) (by decide)) (g := (mkF m 49 #[.val (.ref a), .val (.ref b3), .val (.int (0 : Int32))] [(.int (0 : Int32)), (.ref a), (.int (0 : Int32)), (.ref b3)])) rfl (by rw [hml]; rfl) (argsL := [(.ref a), (.int (0 : Int32))]) (rest := [(.int (0 : Int32)), (.ref b3)]) (lenOf pd_3 rfl) rfl (by show 2 * 0 + _ ≤ _; exact Nat.le_of_eq rfl) (hb hby d5_49) (fun _ _ => ⟨rfl, e3, (by decide : 1 + 0 ≤ _), (by decide : 1 + 0 ≤ _)⟩)
  dsimp only [Pt.U, Pt.locs, Pt.cells, Pt.slots] at X11 l11 y11 z11 st11 hQ11
  subst l11 y11 z11
  obtain ⟨rfl, N11q, eh11⟩ := hQ11
  have N11 := Fr.app N2 N11q
  refine Ends.pre (T' := T11.setTop (mkF m 52 #[.val (.ref a), .val (.ref b3), .val (.int (0 : Int32))] [(.int vc0), (.int (0 : Int32)), (.ref b3)])) (fun t k => st11 _ k) ?_
  refine Ends.pre (T' := T11.setTop (mkF m 53 #[.val (.ref a), .val (.ref b3), .val (.int (0 : Int32))] [(.int (4 : Int32)), (.int vc0), (.int (0 : Int32)), (.ref b3)])) (fun t k => XS.iconst X11.here hx rfl (hb hby d5_52) k) ?_
  refine Ends.pre (T' := T11.setTop (mkF m 54 #[.val (.ref a), .val (.ref b3), .val (.int (0 : Int32))] [(.int (vc0 <<< ((4 : Int32) &&& 31))), (.int (0 : Int32)), (.ref b3)])) (fun t k => XS.ishl X11.here hx rfl (hb hby d5_53) rfl k) ?_
  refine Ends.pre (T' := T11.setTop (mkF m 55 #[.val (.ref a), .val (.ref b3), .val (.int (0 : Int32))] [(.ref a), (.int (vc0 <<< ((4 : Int32) &&& 31))), (.int (0 : Int32)), (.ref b3)])) (fun t k => XS.aloadN X11.here hx rfl (hb hby d5_54) rfl rfl k) ?_
  refine Ends.pre (T' := T11.setTop (mkF m 56 #[.val (.ref a), .val (.ref b3), .val (.int (0 : Int32))] [(.int (2 : Int32)), (.ref a), (.int (vc0 <<< ((4 : Int32) &&& 31))), (.int (0 : Int32)), (.ref b3)])) (fun t k => XS.iconst X11.here hx rfl (hb hby d5_55) k) ?_
  refine Ends.pre (T' := T11.setTop (mkF m 57 #[.val (.ref a), .val (.ref b3), .val (.int (0 : Int32))] [(.int (0 : Int32)), (.int (2 : Int32)), (.ref a), (.int (vc0 <<< ((4 : Int32) &&& 31))), (.int (0 : Int32)), (.ref b3)])) (fun t k => XS.iloadN X11.here hx rfl (hb hby d5_56) rfl k) ?_
  refine Ends.pre (T' := T11.setTop (mkF m 58 #[.val (.ref a), .val (.ref b3), .val (.int (0 : Int32))] [(.int (0 : Int32)), (.ref a), (.int (vc0 <<< ((4 : Int32) &&& 31))), (.int (0 : Int32)), (.ref b3)])) (fun t k => XS.imul X11.here hx rfl (hb hby d5_57) rfl k) ?_
  refine Ends.pre (T' := T11.setTop (mkF m 59 #[.val (.ref a), .val (.ref b3), .val (.int (0 : Int32))] [(.int (1 : Int32)), (.int (0 : Int32)), (.ref a), (.int (vc0 <<< ((4 : Int32) &&& 31))), (.int (0 : Int32)), (.ref b3)])) (fun t k => XS.iconst X11.here hx rfl (hb hby d5_58) k) ?_
  refine Ends.pre (T' := T11.setTop (mkF m 60 #[.val (.ref a), .val (.ref b3), .val (.int (0 : Int32))] [(.int (1 : Int32)), (.ref a), (.int (vc0 <<< ((4 : Int32) &&& 31))), (.int (0 : Int32)), (.ref b3)])) (fun t k => XS.iadd X11.here hx rfl (hb hby d5_59) rfl k) ?_
  obtain ⟨_, _, ⟨T12, L12, k12, n12⟩, -, X12, ⟨Lc12, hQ12, l12, y12, z12⟩, st12⟩ := Jvm.LawKit.callS X11 hx (y := (⟨"com/example/wireform/wireform/Hex", "digit", "(Ljava/lang/String;I)I"⟩ : MethodName)) hown (mvT hZ (hw _ (List.mem_of_getElem? (i := 52) rfl))) (mvT hZ (hw _ (List.mem_of_getElem? (i := 53) rfl))) (mvT hZ (hw _ (List.mem_of_getElem? (i := 29) rfl))) (mvT hZ (hw _ (List.mem_of_getElem? (i := 54) rfl))) (by decide) (backOf (W := 3) (rm11 l Z a0 hw [] a ta ka ([c0, c1] : List Int32) (2 : Int32) _ (1 : Int32) 1 c1 vc1 cz fm h3 n0 (Nat.le_trans Z0 E3.1) F5 F7 F6 F8 hcd_a hbd_a (Nat.le_of_ble_eq_true rfl) (Nat.le_of_ble_eq_true rfl) rfl rfl Hc1 F9 hcz F10 hfm) hZ (hw _ (List.mem_of_getElem? (i := 54) rfl)) (hw _ (List.mem_of_getElem? (i := 29) rfl)) (by decide) (by decide)) (g := (mkF m 60 #[.val (.ref a), .val (.ref b3), .val (.int (0 : Int32))] [(.int (1 : Int32)), (.ref a), (.int (vc0 <<< ((4 : Int32) &&& 31))), (.int (0 : Int32)), (.ref b3)])) rfl (by rw [hml]; rfl) (argsL := [(.ref a), (.int (1 : Int32))]) (rest := [(.int (vc0 <<< ((4 : Int32) &&& 31))), (.int (0 : Int32)), (.ref b3)]) (lenOf pd_3 rfl) rfl (by show 2 * 0 + _ ≤ _; exact Nat.le_of_eq rfl) (hb hby d5_60) (fun _ _ => ⟨rfl, eh11, (by decide : 1 + 0 ≤ _), (by decide : 1 + 0 ≤ _)⟩)
  dsimp only [Pt.U, Pt.locs, Pt.cells, Pt.slots] at X12 l12 y12 z12 st12 hQ12
  subst l12 y12 z12
  obtain ⟨rfl, N12q, eh12⟩ := hQ12
  have N12 := Fr.app N11 N12q
  refine Ends.pre (T' := T12.setTop (mkF m 63 #[.val (.ref a), .val (.ref b3), .val (.int (0 : Int32))] [(.int vc1), (.int (vc0 <<< ((4 : Int32) &&& 31))), (.int (0 : Int32)), (.ref b3)])) (fun t k => st12 _ k) ?_
  refine Ends.pre (T' := T12.setTop (mkF m 64 #[.val (.ref a), .val (.ref b3), .val (.int (0 : Int32))] [(.int ((vc0 <<< ((4 : Int32) &&& 31)) ||| vc1)), (.int (0 : Int32)), (.ref b3)])) (fun t k => XS.ior X12.here hx rfl (hb hby d5_63) rfl k) ?_
  refine Ends.pre (T' := T12.setTop (mkF m 65 #[.val (.ref a), .val (.ref b3), .val (.int (0 : Int32))] [(.int (((vc0 <<< ((4 : Int32) &&& 31)) ||| vc1).toInt8.toInt32)), (.int (0 : Int32)), (.ref b3)])) (fun t k => XS.i2b X12.here hx rfl (hb hby d5_64) rfl k) ?_
  obtain ⟨cl13, Ar13, q13, S13, N13', H13, G13⟩ := id V3
  have hin13 : ¬ ((0 : Int32) < 0 ∨ cl13.slots.size ≤ ((0 : Int32)).toNatClampNeg) := inb_of S13 ⟨by decide, by decide⟩
  obtain ⟨T13, h13, X13, e13, W13, st13⟩ := stB X12 hx hZ eh12 Ar13 (j := (0 : Int32)) hin13 (g := (mkF m 65 #[.val (.ref a), .val (.ref b3), .val (.int (0 : Int32))] [(.int (((vc0 <<< ((4 : Int32) &&& 31)) ||| vc1).toInt8.toInt32)), (.int (0 : Int32)), (.ref b3)])) rfl rfl (hb hby d5_65)
  have V13 : Arv Z h13 b3 k3 .byte (1 : Int32) [(.int (nar .byte (((vc0 <<< ((4 : Int32) &&& 31)) ||| vc1).toInt8.toInt32)))] (.int (0 : Int32)) := Arv.set Ar13 q13 S13 N13' H13 G13 (fits_nar_byte _) W13 0 rfl (Nat.le_of_ble_eq_true rfl)
  have N13 := Fr.snoc X13 N12 ge_b3
  refine Ends.pre (T' := T13.setTop (mkF m 66 #[.val (.ref a), .val (.ref b3), .val (.int (0 : Int32))] [])) (fun t k => st13 _ k) ?_
  have K13 : Keep h0 h13 [] := K3.wr W13 (Or.inr sz_b3)
  refine Ends.pre (T' := T13.setTop (mkF m 69 #[.val (.ref a), .val (.ref b3), .val (.int (1 : Int32))] [])) (fun t k => XS.iinc X13.here hx rfl (hb hby d5_66) rfl (l' := #[.val (.ref a), .val (.ref b3), .val (.int (1 : Int32))]) rfl k) ?_
  refine Ends.pre (T' := T13.setTop (mkF m 37 #[.val (.ref a), .val (.ref b3), .val (.int (1 : Int32))] [])) (fun t k => XS.goto X13.here hx rfl (pc0 := 69) (pc' := 37) rfl (hb hby d5_69) (by decide) (by decide) k) ?_
  refine Ends.pre (T' := T13.setTop (mkF m 38 #[.val (.ref a), .val (.ref b3), .val (.int (1 : Int32))] [(.int (1 : Int32))])) (fun t k => XS.iloadN X13.here hx rfl (hb hby d5_37) rfl k) ?_
  refine Ends.pre (T' := T13.setTop (mkF m 39 #[.val (.ref a), .val (.ref b3), .val (.int (1 : Int32))] [(.ref b3), (.int (1 : Int32))])) (fun t k => XS.aloadN X13.here hx rfl (hb hby d5_38) rfl rfl k) ?_
  obtain ⟨cl14, Ar14, q14, S14, N14', H14, G14⟩ := id V13
  refine Ends.pre (T' := T13.setTop (mkF m 40 #[.val (.ref a), .val (.ref b3), .val (.int (1 : Int32))] [(.int (1 : Int32)), (.int (1 : Int32))])) (fun t k => X13.arraylength hx (by rw [e13]; exact Ar14.1) (State.isArrayOf_alike hZ.alike Ar14.2.1) (g := (mkF m 39 #[.val (.ref a), .val (.ref b3), .val (.int (1 : Int32))] [(.ref b3), (.int (1 : Int32))])) rfl rfl (hb hby d5_39) _ (by rw [len_of S14 N14']; exact k)) ?_
  refine Ends.pre (T' := T13.setTop (mkF m 72 #[.val (.ref a), .val (.ref b3), .val (.int (1 : Int32))] [])) (fun t k => XS.icmpYes X13.here hx rfl (pc0 := 40) (pc' := 72) rfl (hb hby d5_40) rfl (by decide) (by decide) (by decide) k) ?_
  refine Ends.pre (T' := T13.setTop (mkF m 73 #[.val (.ref a), .val (.ref b3), .val (.int (1 : Int32))] [(.ref b3)])) (fun t k => XS.aloadN X13.here hx rfl (hb hby d5_72) rfl rfl k) ?_
  exact Ends.ret (w := (.ref b3)) X13 hx Bd.notSynchronized Bd.returns rfl (Or.inr (Or.inr (Or.inr (Or.inr ⟨rfl, rfl, rfl⟩)))) (hb hby d5_73) e13 ⟨_, _, rfl, N13, K13, V13⟩ (by decide) (by decide)
theorem ef_rm5_4 (m : MethodId) (x0 : Addr) : entryFrame m #[(.ref x0)] 3 = mkF m 0 #[.val (.ref x0), .unset, .unset] [] := by first | (simp [entryFrame, mkF, argsToLocals, Value.category]; done) | rfl
def Q_rm5_4 (Z : State) (a : Addr) (ta : Addr) (ka : ClassId) (c0 : Int32) (vc0 : Int32) (c1 : Int32) (vc1 : Int32) (c2 : Int32) (vc2 : Int32) (c3 : Int32) (vc3 : Int32) (cz : Int32) (fm : Value) (h0 : Heap) (n0 : Nat) (v : Option Value) (h : Heap) (L : List Loc) : Prop := ∃ r kb, v = some (.ref r) ∧ Fr n0 L ∧ Keep h0 h [] ∧ Arv Z h r kb .byte (2 : Int32) [(.int (nar .byte (((vc0 <<< ((4 : Int32) &&& 31)) ||| vc1).toInt8.toInt32))), (.int (nar .byte (((vc2 <<< ((4 : Int32) &&& 31)) ||| vc3).toInt8.toInt32)))] (.int (0 : Int32))
set_option maxRecDepth 65536 in
set_option maxHeartbeats 40000000 in
theorem rm5_4 (l : Launch) (Z : State) (a0 : Array Value) (hw : ∀ d ∈ tables_1, d.before a0 Z = true) (ws : List Jvm.Cond) (a : Addr) (ta : Addr) (ka : ClassId) (c0 : Int32) (vc0 : Int32) (c1 : Int32) (vc1 : Int32) (c2 : Int32) (vc2 : Int32) (c3 : Int32) (vc3 : Int32) (cz : Int32) (fm : Value) (h0 : Heap) (n0 : Nat) (Z0 : n0 ≤ h0.size) (Ea : Exa Z h0 a "java/lang/String") (Ca : Fld Z h0 a "java/lang/String" "coder" "B" (.int 0)) (Va : Fld Z h0 a "java/lang/String" "value" "[B" (.ref ta)) (Aa : Arv Z h0 ta ka .byte (4 : Int32) ((([c0, c1, c2, c3] : List Int32).map (fun c => c.toInt8.toInt32)).map Value.int) (.int 0)) (Hc0 : HexC c0 vc0) (Hc1 : HexC c1 vc1) (Hc2 : HexC c2 vc2) (Hc3 : HexC c3 vc3) (SCS : Sta Z h0 "java/lang/String" "COMPACT_STRINGS" "Z" (.int cz)) (hcz : ¬ cz = 0) (SFM : Sta Z h0 "jdk/internal/util/Preconditions" "SIOOBE_FORMATTER" "Ljava/util/function/BiFunction;" fm) (hfm : fm.isRef = true) :
    MetFree l (⟨"com/example/wireform/wireform/Hex", "parse", "(Ljava/lang/String;)[B"⟩ : MethodName) (head1 (Jvm.Cond.code (⟨"com/example/wireform/wireform/Hex", "parse", "(Ljava/lang/String;)[B"⟩ : MethodName) prog_2_method_3_code 3 (some (.array .byte)) :: ws) ({ frames := 5, cells := 1, slots := 2, locals := 71 } : Room)) (fun aa_ U => aa_ = #[(.ref a)] ∧ Z.Warmed39 U.vm ∧ U.heap = h0) (fun _ _ _ _ _ => True) (fun _ U o U' => ∃ v L, o = .returned v ∧ Q_rm5_4 Z a ta ka c0 vc0 c1 vc1 c2 vc2 c3 vc3 cz fm h0 n0 v U'.heap L ∧ FrameEnd U o U' L ({ frames := 5, cells := 1, slots := 2, locals := 71 } : Room).cells ({ frames := 5, cells := 1, slots := 2, locals := 71 } : Room).slots) := by
  refine MetFree.of_bodySF (plainFor_of_name pn_2) hisR ?_
  intro p e s m args below meth c s₁ Bd hml0 hP hK
  obtain ⟨rfl, hZ, hh⟩ := hP
  have hx := Bd.exec
  have hby := Bd.bytes
  have hml : c.maxLocals = 3 := hml0
  have hown : s.vm.findClass "com/example/wireform/wireform/Hex" = some m.cls := findClass_of_methodNamed Bd.named
  have hnm := (name_of_methodNamed Bd.named Bd.method).1
  have X0 : Stand p l e ({ frames := 5, cells := 1, slots := 2, locals := 71 } : Room) s m #[(.ref a)] below meth c s₁ [] 0 0 := Stand.of_body Bd
  have e0 : s₁.heap = h0 := by rw [← hh, Bd.state]; rfl
  have N0 := Fr.nil n0
  refine Ends.cast (P := EndN s ({ frames := 5, cells := 1, slots := 2, locals := 71 } : Room) (Q_rm5_4 Z a ta ka c0 vc0 c1 vc1 c2 vc2 c3 vc3 cz fm h0 n0)) (ef_rm5_4 m a) ?_
  have hp_a : ∀ c ∈ ([c0, c1, c2, c3] : List Int32), ¬ c < 0 ∧ ¬ (255 : Int32) < c := (own_alS (own_hexc Hc0) (own_alS (own_hexc Hc1) (own_alS (own_hexc Hc2) (own_alS (own_hexc Hc3) own_al0))))
  have hcd_a : StrChars.Road.CodA ([c0, c1, c2, c3] : List Int32) 0 (4 : Int32) ((([c0, c1, c2, c3] : List Int32).map (fun c => c.toInt8.toInt32)).map Value.int) := StrChars.Road.codOf (n := 4) rfl (fun c hc => (hp_a c hc).2)
  have hbd_a := own_up _ hp_a
  refine Ends.pre (T' := s₁.setTop (mkF m 1 #[.val (.ref a), .unset, .unset] [(.ref a)])) (fun t k => XS.aloadN X0.here hx rfl (hb hby d5_0) rfl rfl k) ?_
  obtain ⟨cq1, kq1, q1a, q1b, q1c⟩ := isOf hZ e0 Ea
  obtain ⟨_, _, ⟨T1, L1, k1, n1⟩, -, X1, ⟨Lc1, hQ1, l1, y1, z1⟩, st1⟩ := X0.virtualBack hx (y := (⟨"java/lang/String", "length", "()I"⟩ : MethodName)) (z := (⟨"java/lang/String", "length", "()I"⟩ : MethodName)) hown (mvT hZ (hw _ (List.mem_of_getElem? (i := 31) rfl))) (mvT hZ (hw _ (List.mem_of_getElem? (i := 32) rfl))) (notFace_of_selects (args := #[]) (mvT hZ (hw _ (List.mem_of_getElem? (i := 34) rfl)))) (mvT hZ (hw _ (List.mem_of_getElem? (i := 34) rfl))) (mvT hZ (hw _ (List.mem_of_getElem? (i := 33) rfl))) (by decide) (StrChars.Road.lenW (W := 0) hZ (own_hln hw) (kI := 4) (hw _ (List.mem_of_getElem? (i := 7) rfl)) Ea Va Ca Aa hcd_a hbd_a SCS hcz (Nat.le_of_ble_eq_true rfl) (by decide) (by decide)) q1a q1c (g := (mkF m 1 #[.val (.ref a), .unset, .unset] [(.ref a)])) rfl (by rw [hml]; rfl) (Steps.refl _) (argsL := []) (rest := []) (lenOf pd_2 rfl) rfl (by show 2 * 0 + _ ≤ _; exact Nat.le_of_eq rfl) (hb hby d5_1) (fun _ _ => ⟨rfl, e0, (by decide : 0 + 0 ≤ _), (by decide : 0 + 0 ≤ _)⟩)
  dsimp only [Pt.U, Pt.locs, Pt.cells, Pt.slots] at X1 l1 y1 z1 st1 hQ1
  subst l1 y1 z1
  obtain ⟨rfl, rfl, eh1⟩ := hQ1
  have N1 := Fr.app N0 (Fr.nil n0)
  refine Ends.pre (T' := T1.setTop (mkF m 4 #[.val (.ref a), .unset, .unset] [(.int (4 : Int32))])) (fun t k => st1.trans k) ?_
  refine Ends.pre (T' := T1.setTop (mkF m 5 #[.val (.ref a), .unset, .unset] [(.int (2 : Int32)), (.int (4 : Int32))])) (fun t k => XS.iconst X1.here hx rfl (hb hby d5_4) k) ?_
  refine Ends.pre (T' := T1.setTop (mkF m 6 #[.val (.ref a), .unset, .unset] [(.int (0 : Int32))])) (fun t k => iremM X1 hx rfl (hb hby d5_5) rfl (by decide) k) ?_
  refine Ends.pre (T' := T1.setTop (mkF m 26 #[.val (.ref a), .unset, .unset] [])) (fun t k => XS.ifYes X1.here hx rfl (pc0 := 6) (pc' := 26) rfl (hb hby d5_6) rfl (by decide) (by decide) (by decide) k) ?_
  refine Ends.pre (T' := T1.setTop (mkF m 27 #[.val (.ref a), .unset, .unset] [(.ref a)])) (fun t k => XS.aloadN X1.here hx rfl (hb hby d5_26) rfl rfl k) ?_
  obtain ⟨cq2, kq2, q2a, q2b, q2c⟩ := isOf hZ eh1 Ea
  obtain ⟨_, _, ⟨T2, L2, k2, n2⟩, -, X2, ⟨Lc2, hQ2, l2, y2, z2⟩, st2⟩ := X1.virtualBack hx (y := (⟨"java/lang/String", "length", "()I"⟩ : MethodName)) (z := (⟨"java/lang/String", "length", "()I"⟩ : MethodName)) hown (mvT hZ (hw _ (List.mem_of_getElem? (i := 31) rfl))) (mvT hZ (hw _ (List.mem_of_getElem? (i := 32) rfl))) (notFace_of_selects (args := #[]) (mvT hZ (hw _ (List.mem_of_getElem? (i := 34) rfl)))) (mvT hZ (hw _ (List.mem_of_getElem? (i := 34) rfl))) (mvT hZ (hw _ (List.mem_of_getElem? (i := 33) rfl))) (by decide) (StrChars.Road.lenW (W := 0) hZ (own_hln hw) (kI := 4) (hw _ (List.mem_of_getElem? (i := 7) rfl)) Ea Va Ca Aa hcd_a hbd_a SCS hcz (Nat.le_of_ble_eq_true rfl) (by decide) (by decide)) q2a q2c (g := (mkF m 27 #[.val (.ref a), .unset, .unset] [(.ref a)])) rfl (by rw [hml]; rfl) (Steps.refl _) (argsL := []) (rest := []) (lenOf pd_2 rfl) rfl (by show 2 * 0 + _ ≤ _; exact Nat.le_of_eq rfl) (hb hby d5_27) (fun _ _ => ⟨rfl, eh1, (by decide : 0 + 0 ≤ _), (by decide : 0 + 0 ≤ _)⟩)
  dsimp only [Pt.U, Pt.locs, Pt.cells, Pt.slots] at X2 l2 y2 z2 st2 hQ2
  subst l2 y2 z2
  obtain ⟨rfl, rfl, eh2⟩ := hQ2
  have N2 := Fr.app N1 (Fr.nil n0)
  refine Ends.pre (T' := T2.setTop (mkF m 30 #[.val (.ref a), .unset, .unset] [(.int (4 : Int32))])) (fun t k => st2.trans k) ?_
  refine Ends.pre (T' := T2.setTop (mkF m 31 #[.val (.ref a), .unset, .unset] [(.int (2 : Int32)), (.int (4 : Int32))])) (fun t k => XS.iconst X2.here hx rfl (hb hby d5_30) k) ?_
  refine Ends.pre (T' := T2.setTop (mkF m 32 #[.val (.ref a), .unset, .unset] [(.int (2 : Int32))])) (fun t k => XS.idiv X2.here hx rfl (hb hby d5_31) rfl (by decide) k) ?_
  obtain ⟨T3, h3, k3, X3, e3, E3, A3, st3⟩ := newP X2 hx hZ (hw _ (List.mem_of_getElem? (i := 20) rfl)) eh2 (g := (mkF m 32 #[.val (.ref a), .unset, .unset] [(.int (2 : Int32))])) rfl (hb hby d5_32) rfl (by decide) (cap := 2) (by decide) (by decide) (by decide) (by decide)
  obtain ⟨b3, g3⟩ : ∃ z, z = h0.size := ⟨_, rfl⟩
  rw [← g3] at A3 st3
  have ge_b3 : n0 ≤ b3 := Nat.le_trans Z0 (Nat.le_of_eq g3.symm)
  have sz_b3 : h0.size ≤ b3 := Nat.le_trans (Keep.refl h0 []).1 (Nat.le_of_eq g3.symm)
  have K3 : Keep h0 h3 [] := (Keep.refl h0 []).ext E3
  have V3 : Arv Z h3 b3 k3 .byte (2 : Int32) [(.int (0 : Int32)), (.int (0 : Int32))] (.int (0 : Int32)) := (Arv.new A3 (by decide)).pad (pad_rep [] (.int (0 : Int32)) 2)
  refine Ends.pre (T' := T3.setTop (mkF m 34 #[.val (.ref a), .unset, .unset] [(.ref b3)])) (fun t k => st3 _ k) ?_
  refine Ends.pre (T' := T3.setTop (mkF m 35 #[.val (.ref a), .val (.ref b3), .unset] [])) (fun t k => XS.astoreN X3.here hx rfl (hb hby d5_34) rfl rfl (l' := #[.val (.ref a), .val (.ref b3), .unset]) rfl k) ?_
  refine Ends.pre (T' := T3.setTop (mkF m 36 #[.val (.ref a), .val (.ref b3), .unset] [(.int (0 : Int32))])) (fun t k => XS.iconst X3.here hx rfl (hb hby d5_35) k) ?_
  refine Ends.pre (T' := T3.setTop (mkF m 37 #[.val (.ref a), .val (.ref b3), .val (.int (0 : Int32))] [])) (fun t k => XS.istoreN X3.here hx rfl (hb hby d5_36) rfl (l' := #[.val (.ref a), .val (.ref b3), .val (.int (0 : Int32))]) rfl k) ?_
  refine Ends.pre (T' := T3.setTop (mkF m 38 #[.val (.ref a), .val (.ref b3), .val (.int (0 : Int32))] [(.int (0 : Int32))])) (fun t k => XS.iloadN X3.here hx rfl (hb hby d5_37) rfl k) ?_
  refine Ends.pre (T' := T3.setTop (mkF m 39 #[.val (.ref a), .val (.ref b3), .val (.int (0 : Int32))] [(.ref b3), (.int (0 : Int32))])) (fun t k => XS.aloadN X3.here hx rfl (hb hby d5_38) rfl rfl k) ?_
  obtain ⟨cl4, Ar4, q4, S4, N4', H4, G4⟩ := id V3
  refine Ends.pre (T' := T3.setTop (mkF m 40 #[.val (.ref a), .val (.ref b3), .val (.int (0 : Int32))] [(.int (2 : Int32)), (.int (0 : Int32))])) (fun t k => X3.arraylength hx (by rw [e3]; exact Ar4.1) (State.isArrayOf_alike hZ.alike Ar4.2.1) (g := (mkF m 39 #[.val (.ref a), .val (.ref b3), .val (.int (0 : Int32))] [(.ref b3), (.int (0 : Int32))])) rfl rfl (hb hby d5_39) _ (by rw [len_of S4 N4']; exact k)) ?_
  refine Ends.pre (T' := T3.setTop (mkF m 43 #[.val (.ref a), .val (.ref b3), .val (.int (0 : Int32))] [])) (fun t k => XS.icmpNo X3.here hx rfl (hb hby d5_40) rfl (by decide) k) ?_
  refine Ends.pre (T' := T3.setTop (mkF m 44 #[.val (.ref a), .val (.ref b3), .val (.int (0 : Int32))] [(.ref b3)])) (fun t k => XS.aloadN X3.here hx rfl (hb hby d5_43) rfl rfl k) ?_
  refine Ends.pre (T' := T3.setTop (mkF m 45 #[.val (.ref a), .val (.ref b3), .val (.int (0 : Int32))] [(.int (0 : Int32)), (.ref b3)])) (fun t k => XS.iloadN X3.here hx rfl (hb hby d5_44) rfl k) ?_
  refine Ends.pre (T' := T3.setTop (mkF m 46 #[.val (.ref a), .val (.ref b3), .val (.int (0 : Int32))] [(.ref a), (.int (0 : Int32)), (.ref b3)])) (fun t k => XS.aloadN X3.here hx rfl (hb hby d5_45) rfl rfl k) ?_
  refine Ends.pre (T' := T3.setTop (mkF m 47 #[.val (.ref a), .val (.ref b3), .val (.int (0 : Int32))] [(.int (2 : Int32)), (.ref a), (.int (0 : Int32)), (.ref b3)])) (fun t k => XS.iconst X3.here hx rfl (hb hby d5_46) k) ?_
  refine Ends.pre (T' := T3.setTop (mkF m 48 #[.val (.ref a), .val (.ref b3), .val (.int (0 : Int32))] [(.int (0 : Int32)), (.int (2 : Int32)), (.ref a), (.int (0 : Int32)), (.ref b3)])) (fun t k => XS.iloadN X3.here hx rfl (hb hby d5_47) rfl k) ?_
  refine Ends.pre (T' := T3.setTop (mkF m 49 #[.val (.ref a), .val (.ref b3), .val (.int (0 : Int32))] [(.int (0 : Int32)), (.ref a), (.int (0 : Int32)), (.ref b3)])) (fun t k => XS.imul X3.here hx rfl (hb hby d5_48) rfl k) ?_
  have F5 : Exa Z h3 a "java/lang/String" := (Ea.keep K3)
  have F6 : Fld Z h3 a "java/lang/String" "value" "[B" (.ref ta) := (Va.keep K3 nin0)
  have F7 : Fld Z h3 a "java/lang/String" "coder" "B" (.int 0) := (Ca.keep K3 nin0)
  have F8 : Arv Z h3 ta ka .byte (4 : Int32) ((([c0, c1, c2, c3] : List Int32).map (fun c => c.toInt8.toInt32)).map Value.int) (.int 0) := (Aa.keep K3 nin0)
  have F9 : Sta Z h3 "java/lang/String" "COMPACT_STRINGS" "Z" (.int cz) := (Sta_keep0 SCS K3)
  have F10 : Sta Z h3 "jdk/internal/util/Preconditions" "SIOOBE_FORMATTER" "Ljava/util/function/BiFunction;" fm := (Sta_keep0 SFM K3)
  obtain ⟨_, _, ⟨T11, L11, k11, n11⟩, -, X11, ⟨Lc11, hQ11, l11, y11, z11⟩, st11⟩ := Jvm.LawKit.callS X3 hx (y := (⟨"com/example/wireform/wireform/Hex", "digit", "(Ljava/lang/String;I)I"⟩ : MethodName)) hown (mvT hZ (hw _ (List.mem_of_getElem? (i := 52) rfl))) (mvT hZ (hw _ (List.mem_of_getElem? (i := 53) rfl))) (mvT hZ (hw _ (List.mem_of_getElem? (i := 29) rfl))) (mvT hZ (hw _ (List.mem_of_getElem? (i := 54) rfl))) (by decide) (backOf (W := 2) (rm11 l Z a0 hw [] a ta ka ([c0, c1, c2, c3] : List Int32) (4 : Int32) _ (0 : Int32) 0 c0 vc0 cz fm h3 n0 (Nat.le_trans Z0 E3.1) F5 F7 F6 F8 hcd_a hbd_a (Nat.le_of_ble_eq_true rfl) (Nat.le_of_ble_eq_true rfl) rfl rfl Hc0 F9 hcz F10 hfm) hZ (hw _ (List.mem_of_getElem? (i := 54) rfl)) (hw _ (List.mem_of_getElem? (i := 29) rfl)) (by decide) (by decide)) (g := (mkF m 49 #[.val (.ref a), .val (.ref b3), .val (.int (0 : Int32))] [(.int (0 : Int32)), (.ref a), (.int (0 : Int32)), (.ref b3)])) rfl (by rw [hml]; rfl) (argsL := [(.ref a), (.int (0 : Int32))]) (rest := [(.int (0 : Int32)), (.ref b3)]) (lenOf pd_3 rfl) rfl (by show 2 * 0 + _ ≤ _; exact Nat.le_of_eq rfl) (hb hby d5_49) (fun _ _ => ⟨rfl, e3, (by decide : 1 + 0 ≤ _), (by decide : 2 + 0 ≤ _)⟩)
  dsimp only [Pt.U, Pt.locs, Pt.cells, Pt.slots] at X11 l11 y11 z11 st11 hQ11
  subst l11 y11 z11
  obtain ⟨rfl, N11q, eh11⟩ := hQ11
  have N11 := Fr.app N2 N11q
  refine Ends.pre (T' := T11.setTop (mkF m 52 #[.val (.ref a), .val (.ref b3), .val (.int (0 : Int32))] [(.int vc0), (.int (0 : Int32)), (.ref b3)])) (fun t k => st11 _ k) ?_
  refine Ends.pre (T' := T11.setTop (mkF m 53 #[.val (.ref a), .val (.ref b3), .val (.int (0 : Int32))] [(.int (4 : Int32)), (.int vc0), (.int (0 : Int32)), (.ref b3)])) (fun t k => XS.iconst X11.here hx rfl (hb hby d5_52) k) ?_
  refine Ends.pre (T' := T11.setTop (mkF m 54 #[.val (.ref a), .val (.ref b3), .val (.int (0 : Int32))] [(.int (vc0 <<< ((4 : Int32) &&& 31))), (.int (0 : Int32)), (.ref b3)])) (fun t k => XS.ishl X11.here hx rfl (hb hby d5_53) rfl k) ?_
  refine Ends.pre (T' := T11.setTop (mkF m 55 #[.val (.ref a), .val (.ref b3), .val (.int (0 : Int32))] [(.ref a), (.int (vc0 <<< ((4 : Int32) &&& 31))), (.int (0 : Int32)), (.ref b3)])) (fun t k => XS.aloadN X11.here hx rfl (hb hby d5_54) rfl rfl k) ?_
  refine Ends.pre (T' := T11.setTop (mkF m 56 #[.val (.ref a), .val (.ref b3), .val (.int (0 : Int32))] [(.int (2 : Int32)), (.ref a), (.int (vc0 <<< ((4 : Int32) &&& 31))), (.int (0 : Int32)), (.ref b3)])) (fun t k => XS.iconst X11.here hx rfl (hb hby d5_55) k) ?_
  refine Ends.pre (T' := T11.setTop (mkF m 57 #[.val (.ref a), .val (.ref b3), .val (.int (0 : Int32))] [(.int (0 : Int32)), (.int (2 : Int32)), (.ref a), (.int (vc0 <<< ((4 : Int32) &&& 31))), (.int (0 : Int32)), (.ref b3)])) (fun t k => XS.iloadN X11.here hx rfl (hb hby d5_56) rfl k) ?_
  refine Ends.pre (T' := T11.setTop (mkF m 58 #[.val (.ref a), .val (.ref b3), .val (.int (0 : Int32))] [(.int (0 : Int32)), (.ref a), (.int (vc0 <<< ((4 : Int32) &&& 31))), (.int (0 : Int32)), (.ref b3)])) (fun t k => XS.imul X11.here hx rfl (hb hby d5_57) rfl k) ?_
  refine Ends.pre (T' := T11.setTop (mkF m 59 #[.val (.ref a), .val (.ref b3), .val (.int (0 : Int32))] [(.int (1 : Int32)), (.int (0 : Int32)), (.ref a), (.int (vc0 <<< ((4 : Int32) &&& 31))), (.int (0 : Int32)), (.ref b3)])) (fun t k => XS.iconst X11.here hx rfl (hb hby d5_58) k) ?_
  refine Ends.pre (T' := T11.setTop (mkF m 60 #[.val (.ref a), .val (.ref b3), .val (.int (0 : Int32))] [(.int (1 : Int32)), (.ref a), (.int (vc0 <<< ((4 : Int32) &&& 31))), (.int (0 : Int32)), (.ref b3)])) (fun t k => XS.iadd X11.here hx rfl (hb hby d5_59) rfl k) ?_
  obtain ⟨_, _, ⟨T12, L12, k12, n12⟩, -, X12, ⟨Lc12, hQ12, l12, y12, z12⟩, st12⟩ := Jvm.LawKit.callS X11 hx (y := (⟨"com/example/wireform/wireform/Hex", "digit", "(Ljava/lang/String;I)I"⟩ : MethodName)) hown (mvT hZ (hw _ (List.mem_of_getElem? (i := 52) rfl))) (mvT hZ (hw _ (List.mem_of_getElem? (i := 53) rfl))) (mvT hZ (hw _ (List.mem_of_getElem? (i := 29) rfl))) (mvT hZ (hw _ (List.mem_of_getElem? (i := 54) rfl))) (by decide) (backOf (W := 3) (rm11 l Z a0 hw [] a ta ka ([c0, c1, c2, c3] : List Int32) (4 : Int32) _ (1 : Int32) 1 c1 vc1 cz fm h3 n0 (Nat.le_trans Z0 E3.1) F5 F7 F6 F8 hcd_a hbd_a (Nat.le_of_ble_eq_true rfl) (Nat.le_of_ble_eq_true rfl) rfl rfl Hc1 F9 hcz F10 hfm) hZ (hw _ (List.mem_of_getElem? (i := 54) rfl)) (hw _ (List.mem_of_getElem? (i := 29) rfl)) (by decide) (by decide)) (g := (mkF m 60 #[.val (.ref a), .val (.ref b3), .val (.int (0 : Int32))] [(.int (1 : Int32)), (.ref a), (.int (vc0 <<< ((4 : Int32) &&& 31))), (.int (0 : Int32)), (.ref b3)])) rfl (by rw [hml]; rfl) (argsL := [(.ref a), (.int (1 : Int32))]) (rest := [(.int (vc0 <<< ((4 : Int32) &&& 31))), (.int (0 : Int32)), (.ref b3)]) (lenOf pd_3 rfl) rfl (by show 2 * 0 + _ ≤ _; exact Nat.le_of_eq rfl) (hb hby d5_60) (fun _ _ => ⟨rfl, eh11, (by decide : 1 + 0 ≤ _), (by decide : 2 + 0 ≤ _)⟩)
  dsimp only [Pt.U, Pt.locs, Pt.cells, Pt.slots] at X12 l12 y12 z12 st12 hQ12
  subst l12 y12 z12
  obtain ⟨rfl, N12q, eh12⟩ := hQ12
  have N12 := Fr.app N11 N12q
  refine Ends.pre (T' := T12.setTop (mkF m 63 #[.val (.ref a), .val (.ref b3), .val (.int (0 : Int32))] [(.int vc1), (.int (vc0 <<< ((4 : Int32) &&& 31))), (.int (0 : Int32)), (.ref b3)])) (fun t k => st12 _ k) ?_
  refine Ends.pre (T' := T12.setTop (mkF m 64 #[.val (.ref a), .val (.ref b3), .val (.int (0 : Int32))] [(.int ((vc0 <<< ((4 : Int32) &&& 31)) ||| vc1)), (.int (0 : Int32)), (.ref b3)])) (fun t k => XS.ior X12.here hx rfl (hb hby d5_63) rfl k) ?_
  refine Ends.pre (T' := T12.setTop (mkF m 65 #[.val (.ref a), .val (.ref b3), .val (.int (0 : Int32))] [(.int (((vc0 <<< ((4 : Int32) &&& 31)) ||| vc1).toInt8.toInt32)), (.int (0 : Int32)), (.ref b3)])) (fun t k => XS.i2b X12.here hx rfl (hb hby d5_64) rfl k) ?_
  obtain ⟨cl13, Ar13, q13, S13, N13', H13, G13⟩ := id V3
  have hin13 : ¬ ((0 : Int32) < 0 ∨ cl13.slots.size ≤ ((0 : Int32)).toNatClampNeg) := inb_of S13 ⟨by decide, by decide⟩
  obtain ⟨T13, h13, X13, e13, W13, st13⟩ := stB X12 hx hZ eh12 Ar13 (j := (0 : Int32)) hin13 (g := (mkF m 65 #[.val (.ref a), .val (.ref b3), .val (.int (0 : Int32))] [(.int (((vc0 <<< ((4 : Int32) &&& 31)) ||| vc1).toInt8.toInt32)), (.int (0 : Int32)), (.ref b3)])) rfl rfl (hb hby d5_65)
  have V13 : Arv Z h13 b3 k3 .byte (2 : Int32) [(.int (nar .byte (((vc0 <<< ((4 : Int32) &&& 31)) ||| vc1).toInt8.toInt32))), (.int (0 : Int32))] (.int (0 : Int32)) := Arv.set Ar13 q13 S13 N13' H13 G13 (fits_nar_byte _) W13 0 rfl (Nat.le_of_ble_eq_true rfl)
  have N13 := Fr.snoc X13 N12 ge_b3
  refine Ends.pre (T' := T13.setTop (mkF m 66 #[.val (.ref a), .val (.ref b3), .val (.int (0 : Int32))] [])) (fun t k => st13 _ k) ?_
  have K13 : Keep h0 h13 [] := K3.wr W13 (Or.inr sz_b3)
  refine Ends.pre (T' := T13.setTop (mkF m 69 #[.val (.ref a), .val (.ref b3), .val (.int (1 : Int32))] [])) (fun t k => XS.iinc X13.here hx rfl (hb hby d5_66) rfl (l' := #[.val (.ref a), .val (.ref b3), .val (.int (1 : Int32))]) rfl k) ?_
  refine Ends.pre (T' := T13.setTop (mkF m 37 #[.val (.ref a), .val (.ref b3), .val (.int (1 : Int32))] [])) (fun t k => XS.goto X13.here hx rfl (pc0 := 69) (pc' := 37) rfl (hb hby d5_69) (by decide) (by decide) k) ?_
  refine Ends.pre (T' := T13.setTop (mkF m 38 #[.val (.ref a), .val (.ref b3), .val (.int (1 : Int32))] [(.int (1 : Int32))])) (fun t k => XS.iloadN X13.here hx rfl (hb hby d5_37) rfl k) ?_
  refine Ends.pre (T' := T13.setTop (mkF m 39 #[.val (.ref a), .val (.ref b3), .val (.int (1 : Int32))] [(.ref b3), (.int (1 : Int32))])) (fun t k => XS.aloadN X13.here hx rfl (hb hby d5_38) rfl rfl k) ?_
  obtain ⟨cl14, Ar14, q14, S14, N14', H14, G14⟩ := id V13
  refine Ends.pre (T' := T13.setTop (mkF m 40 #[.val (.ref a), .val (.ref b3), .val (.int (1 : Int32))] [(.int (2 : Int32)), (.int (1 : Int32))])) (fun t k => X13.arraylength hx (by rw [e13]; exact Ar14.1) (State.isArrayOf_alike hZ.alike Ar14.2.1) (g := (mkF m 39 #[.val (.ref a), .val (.ref b3), .val (.int (1 : Int32))] [(.ref b3), (.int (1 : Int32))])) rfl rfl (hb hby d5_39) _ (by rw [len_of S14 N14']; exact k)) ?_
  refine Ends.pre (T' := T13.setTop (mkF m 43 #[.val (.ref a), .val (.ref b3), .val (.int (1 : Int32))] [])) (fun t k => XS.icmpNo X13.here hx rfl (hb hby d5_40) rfl (by decide) k) ?_
  refine Ends.pre (T' := T13.setTop (mkF m 44 #[.val (.ref a), .val (.ref b3), .val (.int (1 : Int32))] [(.ref b3)])) (fun t k => XS.aloadN X13.here hx rfl (hb hby d5_43) rfl rfl k) ?_
  refine Ends.pre (T' := T13.setTop (mkF m 45 #[.val (.ref a), .val (.ref b3), .val (.int (1 : Int32))] [(.int (1 : Int32)), (.ref b3)])) (fun t k => XS.iloadN X13.here hx rfl (hb hby d5_44) rfl k) ?_
  refine Ends.pre (T' := T13.setTop (mkF m 46 #[.val (.ref a), .val (.ref b3), .val (.int (1 : Int32))] [(.ref a), (.int (1 : Int32)), (.ref b3)])) (fun t k => XS.aloadN X13.here hx rfl (hb hby d5_45) rfl rfl k) ?_
  refine Ends.pre (T' := T13.setTop (mkF m 47 #[.val (.ref a), .val (.ref b3), .val (.int (1 : Int32))] [(.int (2 : Int32)), (.ref a), (.int (1 : Int32)), (.ref b3)])) (fun t k => XS.iconst X13.here hx rfl (hb hby d5_46) k) ?_
  refine Ends.pre (T' := T13.setTop (mkF m 48 #[.val (.ref a), .val (.ref b3), .val (.int (1 : Int32))] [(.int (1 : Int32)), (.int (2 : Int32)), (.ref a), (.int (1 : Int32)), (.ref b3)])) (fun t k => XS.iloadN X13.here hx rfl (hb hby d5_47) rfl k) ?_
  refine Ends.pre (T' := T13.setTop (mkF m 49 #[.val (.ref a), .val (.ref b3), .val (.int (1 : Int32))] [(.int (2 : Int32)), (.ref a), (.int (1 : Int32)), (.ref b3)])) (fun t k => XS.imul X13.here hx rfl (hb hby d5_48) rfl k) ?_
  have F15 : Exa Z h13 a "java/lang/String" := (Ea.keep K13)
  have F16 : Fld Z h13 a "java/lang/String" "value" "[B" (.ref ta) := (Va.keep K13 nin0)
  have F17 : Fld Z h13 a "java/lang/String" "coder" "B" (.int 0) := (Ca.keep K13 nin0)
  have F18 : Arv Z h13 ta ka .byte (4 : Int32) ((([c0, c1, c2, c3] : List Int32).map (fun c => c.toInt8.toInt32)).map Value.int) (.int 0) := (Aa.keep K13 nin0)
  have F19 : Sta Z h13 "java/lang/String" "COMPACT_STRINGS" "Z" (.int cz) := (Sta_keep0 SCS K13)
  have F20 : Sta Z h13 "jdk/internal/util/Preconditions" "SIOOBE_FORMATTER" "Ljava/util/function/BiFunction;" fm := (Sta_keep0 SFM K13)
  obtain ⟨_, _, ⟨T21, L21, k21, n21⟩, -, X21, ⟨Lc21, hQ21, l21, y21, z21⟩, st21⟩ := Jvm.LawKit.callS X13 hx (y := (⟨"com/example/wireform/wireform/Hex", "digit", "(Ljava/lang/String;I)I"⟩ : MethodName)) hown (mvT hZ (hw _ (List.mem_of_getElem? (i := 52) rfl))) (mvT hZ (hw _ (List.mem_of_getElem? (i := 53) rfl))) (mvT hZ (hw _ (List.mem_of_getElem? (i := 29) rfl))) (mvT hZ (hw _ (List.mem_of_getElem? (i := 54) rfl))) (by decide) (backOf (W := 2) (rm11 l Z a0 hw [] a ta ka ([c0, c1, c2, c3] : List Int32) (4 : Int32) _ (2 : Int32) 2 c2 vc2 cz fm h13 n0 (Nat.le_trans (Nat.le_trans Z0 E3.1) (Keep.of_wr W13).1) F15 F17 F16 F18 hcd_a hbd_a (Nat.le_of_ble_eq_true rfl) (Nat.le_of_ble_eq_true rfl) rfl rfl Hc2 F19 hcz F20 hfm) hZ (hw _ (List.mem_of_getElem? (i := 54) rfl)) (hw _ (List.mem_of_getElem? (i := 29) rfl)) (by decide) (by decide)) (g := (mkF m 49 #[.val (.ref a), .val (.ref b3), .val (.int (1 : Int32))] [(.int (2 : Int32)), (.ref a), (.int (1 : Int32)), (.ref b3)])) rfl (by rw [hml]; rfl) (argsL := [(.ref a), (.int (2 : Int32))]) (rest := [(.int (1 : Int32)), (.ref b3)]) (lenOf pd_3 rfl) rfl (by show 2 * 0 + _ ≤ _; exact Nat.le_of_eq rfl) (hb hby d5_49) (fun _ _ => ⟨rfl, e13, (by decide : 1 + 0 ≤ _), (by decide : 2 + 0 ≤ _)⟩)
  dsimp only [Pt.U, Pt.locs, Pt.cells, Pt.slots] at X21 l21 y21 z21 st21 hQ21
  subst l21 y21 z21
  obtain ⟨rfl, N21q, eh21⟩ := hQ21
  have N21 := Fr.app N13 N21q
  refine Ends.pre (T' := T21.setTop (mkF m 52 #[.val (.ref a), .val (.ref b3), .val (.int (1 : Int32))] [(.int vc2), (.int (1 : Int32)), (.ref b3)])) (fun t k => st21 _ k) ?_
  refine Ends.pre (T' := T21.setTop (mkF m 53 #[.val (.ref a), .val (.ref b3), .val (.int (1 : Int32))] [(.int (4 : Int32)), (.int vc2), (.int (1 : Int32)), (.ref b3)])) (fun t k => XS.iconst X21.here hx rfl (hb hby d5_52) k) ?_
  refine Ends.pre (T' := T21.setTop (mkF m 54 #[.val (.ref a), .val (.ref b3), .val (.int (1 : Int32))] [(.int (vc2 <<< ((4 : Int32) &&& 31))), (.int (1 : Int32)), (.ref b3)])) (fun t k => XS.ishl X21.here hx rfl (hb hby d5_53) rfl k) ?_
  refine Ends.pre (T' := T21.setTop (mkF m 55 #[.val (.ref a), .val (.ref b3), .val (.int (1 : Int32))] [(.ref a), (.int (vc2 <<< ((4 : Int32) &&& 31))), (.int (1 : Int32)), (.ref b3)])) (fun t k => XS.aloadN X21.here hx rfl (hb hby d5_54) rfl rfl k) ?_
  refine Ends.pre (T' := T21.setTop (mkF m 56 #[.val (.ref a), .val (.ref b3), .val (.int (1 : Int32))] [(.int (2 : Int32)), (.ref a), (.int (vc2 <<< ((4 : Int32) &&& 31))), (.int (1 : Int32)), (.ref b3)])) (fun t k => XS.iconst X21.here hx rfl (hb hby d5_55) k) ?_
  refine Ends.pre (T' := T21.setTop (mkF m 57 #[.val (.ref a), .val (.ref b3), .val (.int (1 : Int32))] [(.int (1 : Int32)), (.int (2 : Int32)), (.ref a), (.int (vc2 <<< ((4 : Int32) &&& 31))), (.int (1 : Int32)), (.ref b3)])) (fun t k => XS.iloadN X21.here hx rfl (hb hby d5_56) rfl k) ?_
  refine Ends.pre (T' := T21.setTop (mkF m 58 #[.val (.ref a), .val (.ref b3), .val (.int (1 : Int32))] [(.int (2 : Int32)), (.ref a), (.int (vc2 <<< ((4 : Int32) &&& 31))), (.int (1 : Int32)), (.ref b3)])) (fun t k => XS.imul X21.here hx rfl (hb hby d5_57) rfl k) ?_
  refine Ends.pre (T' := T21.setTop (mkF m 59 #[.val (.ref a), .val (.ref b3), .val (.int (1 : Int32))] [(.int (1 : Int32)), (.int (2 : Int32)), (.ref a), (.int (vc2 <<< ((4 : Int32) &&& 31))), (.int (1 : Int32)), (.ref b3)])) (fun t k => XS.iconst X21.here hx rfl (hb hby d5_58) k) ?_
  refine Ends.pre (T' := T21.setTop (mkF m 60 #[.val (.ref a), .val (.ref b3), .val (.int (1 : Int32))] [(.int (3 : Int32)), (.ref a), (.int (vc2 <<< ((4 : Int32) &&& 31))), (.int (1 : Int32)), (.ref b3)])) (fun t k => XS.iadd X21.here hx rfl (hb hby d5_59) rfl k) ?_
  obtain ⟨_, _, ⟨T22, L22, k22, n22⟩, -, X22, ⟨Lc22, hQ22, l22, y22, z22⟩, st22⟩ := Jvm.LawKit.callS X21 hx (y := (⟨"com/example/wireform/wireform/Hex", "digit", "(Ljava/lang/String;I)I"⟩ : MethodName)) hown (mvT hZ (hw _ (List.mem_of_getElem? (i := 52) rfl))) (mvT hZ (hw _ (List.mem_of_getElem? (i := 53) rfl))) (mvT hZ (hw _ (List.mem_of_getElem? (i := 29) rfl))) (mvT hZ (hw _ (List.mem_of_getElem? (i := 54) rfl))) (by decide) (backOf (W := 3) (rm11 l Z a0 hw [] a ta ka ([c0, c1, c2, c3] : List Int32) (4 : Int32) _ (3 : Int32) 3 c3 vc3 cz fm h13 n0 (Nat.le_trans (Nat.le_trans Z0 E3.1) (Keep.of_wr W13).1) F15 F17 F16 F18 hcd_a hbd_a (Nat.le_of_ble_eq_true rfl) (Nat.le_of_ble_eq_true rfl) rfl rfl Hc3 F19 hcz F20 hfm) hZ (hw _ (List.mem_of_getElem? (i := 54) rfl)) (hw _ (List.mem_of_getElem? (i := 29) rfl)) (by decide) (by decide)) (g := (mkF m 60 #[.val (.ref a), .val (.ref b3), .val (.int (1 : Int32))] [(.int (3 : Int32)), (.ref a), (.int (vc2 <<< ((4 : Int32) &&& 31))), (.int (1 : Int32)), (.ref b3)])) rfl (by rw [hml]; rfl) (argsL := [(.ref a), (.int (3 : Int32))]) (rest := [(.int (vc2 <<< ((4 : Int32) &&& 31))), (.int (1 : Int32)), (.ref b3)]) (lenOf pd_3 rfl) rfl (by show 2 * 0 + _ ≤ _; exact Nat.le_of_eq rfl) (hb hby d5_60) (fun _ _ => ⟨rfl, eh21, (by decide : 1 + 0 ≤ _), (by decide : 2 + 0 ≤ _)⟩)
  dsimp only [Pt.U, Pt.locs, Pt.cells, Pt.slots] at X22 l22 y22 z22 st22 hQ22
  subst l22 y22 z22
  obtain ⟨rfl, N22q, eh22⟩ := hQ22
  have N22 := Fr.app N21 N22q
  refine Ends.pre (T' := T22.setTop (mkF m 63 #[.val (.ref a), .val (.ref b3), .val (.int (1 : Int32))] [(.int vc3), (.int (vc2 <<< ((4 : Int32) &&& 31))), (.int (1 : Int32)), (.ref b3)])) (fun t k => st22 _ k) ?_
  refine Ends.pre (T' := T22.setTop (mkF m 64 #[.val (.ref a), .val (.ref b3), .val (.int (1 : Int32))] [(.int ((vc2 <<< ((4 : Int32) &&& 31)) ||| vc3)), (.int (1 : Int32)), (.ref b3)])) (fun t k => XS.ior X22.here hx rfl (hb hby d5_63) rfl k) ?_
  refine Ends.pre (T' := T22.setTop (mkF m 65 #[.val (.ref a), .val (.ref b3), .val (.int (1 : Int32))] [(.int (((vc2 <<< ((4 : Int32) &&& 31)) ||| vc3).toInt8.toInt32)), (.int (1 : Int32)), (.ref b3)])) (fun t k => XS.i2b X22.here hx rfl (hb hby d5_64) rfl k) ?_
  obtain ⟨cl23, Ar23, q23, S23, N23', H23, G23⟩ := id V13
  have hin23 : ¬ ((1 : Int32) < 0 ∨ cl23.slots.size ≤ ((1 : Int32)).toNatClampNeg) := inb_of S23 ⟨by decide, by decide⟩
  obtain ⟨T23, h23, X23, e23, W23, st23⟩ := stB X22 hx hZ eh22 Ar23 (j := (1 : Int32)) hin23 (g := (mkF m 65 #[.val (.ref a), .val (.ref b3), .val (.int (1 : Int32))] [(.int (((vc2 <<< ((4 : Int32) &&& 31)) ||| vc3).toInt8.toInt32)), (.int (1 : Int32)), (.ref b3)])) rfl rfl (hb hby d5_65)
  have V23 : Arv Z h23 b3 k3 .byte (2 : Int32) [(.int (nar .byte (((vc0 <<< ((4 : Int32) &&& 31)) ||| vc1).toInt8.toInt32))), (.int (nar .byte (((vc2 <<< ((4 : Int32) &&& 31)) ||| vc3).toInt8.toInt32)))] (.int (0 : Int32)) := Arv.set Ar23 q23 S23 N23' H23 G23 (fits_nar_byte _) W23 1 rfl (Nat.le_of_ble_eq_true rfl)
  have N23 := Fr.snoc X23 N22 ge_b3
  refine Ends.pre (T' := T23.setTop (mkF m 66 #[.val (.ref a), .val (.ref b3), .val (.int (1 : Int32))] [])) (fun t k => st23 _ k) ?_
  have K23 : Keep h0 h23 [] := K13.wr W23 (Or.inr sz_b3)
  refine Ends.pre (T' := T23.setTop (mkF m 69 #[.val (.ref a), .val (.ref b3), .val (.int (2 : Int32))] [])) (fun t k => XS.iinc X23.here hx rfl (hb hby d5_66) rfl (l' := #[.val (.ref a), .val (.ref b3), .val (.int (2 : Int32))]) rfl k) ?_
  refine Ends.pre (T' := T23.setTop (mkF m 37 #[.val (.ref a), .val (.ref b3), .val (.int (2 : Int32))] [])) (fun t k => XS.goto X23.here hx rfl (pc0 := 69) (pc' := 37) rfl (hb hby d5_69) (by decide) (by decide) k) ?_
  refine Ends.pre (T' := T23.setTop (mkF m 38 #[.val (.ref a), .val (.ref b3), .val (.int (2 : Int32))] [(.int (2 : Int32))])) (fun t k => XS.iloadN X23.here hx rfl (hb hby d5_37) rfl k) ?_
  refine Ends.pre (T' := T23.setTop (mkF m 39 #[.val (.ref a), .val (.ref b3), .val (.int (2 : Int32))] [(.ref b3), (.int (2 : Int32))])) (fun t k => XS.aloadN X23.here hx rfl (hb hby d5_38) rfl rfl k) ?_
  obtain ⟨cl24, Ar24, q24, S24, N24', H24, G24⟩ := id V23
  refine Ends.pre (T' := T23.setTop (mkF m 40 #[.val (.ref a), .val (.ref b3), .val (.int (2 : Int32))] [(.int (2 : Int32)), (.int (2 : Int32))])) (fun t k => X23.arraylength hx (by rw [e23]; exact Ar24.1) (State.isArrayOf_alike hZ.alike Ar24.2.1) (g := (mkF m 39 #[.val (.ref a), .val (.ref b3), .val (.int (2 : Int32))] [(.ref b3), (.int (2 : Int32))])) rfl rfl (hb hby d5_39) _ (by rw [len_of S24 N24']; exact k)) ?_
  refine Ends.pre (T' := T23.setTop (mkF m 72 #[.val (.ref a), .val (.ref b3), .val (.int (2 : Int32))] [])) (fun t k => XS.icmpYes X23.here hx rfl (pc0 := 40) (pc' := 72) rfl (hb hby d5_40) rfl (by decide) (by decide) (by decide) k) ?_
  refine Ends.pre (T' := T23.setTop (mkF m 73 #[.val (.ref a), .val (.ref b3), .val (.int (2 : Int32))] [(.ref b3)])) (fun t k => XS.aloadN X23.here hx rfl (hb hby d5_72) rfl rfl k) ?_
  exact Ends.ret (w := (.ref b3)) X23 hx Bd.notSynchronized Bd.returns rfl (Or.inr (Or.inr (Or.inr (Or.inr ⟨rfl, rfl, rfl⟩)))) (hb hby d5_73) e23 ⟨_, _, rfl, N23, K23, V23⟩ (by decide) (by decide)
theorem pd_4 : parseMethodDescriptor "(II)C" = some ⟨[.int, .int], some .char⟩ := by decide +kernel
theorem pd_5 : parseMethodDescriptor "([C)V" = some ⟨[(.array .char)], none⟩ := by decide +kernel
theorem pd_6 : parseMethodDescriptor "(Ljava/lang/String;)[B" = some ⟨[(.object "java/lang/String")], some (.array .byte)⟩ := by decide +kernel
theorem ef_rm0 (m : MethodId) (x0 : Int32) (x1 : Int32) (x2 : Int32) (x3 : Int32) : entryFrame m #[(.int x0), (.int x1), (.int x2), (.int x3)] maxLocals = mkF m 0 #[.val (.int x0), .val (.int x1), .val (.int x2), .val (.int x3), .unset, .unset, .unset, .unset, .unset, .unset, .unset, .unset] [] := by first | (simp [entryFrame, mkF, argsToLocals, Value.category, maxLocals]; done) | rfl
def Q_rm0 (Z : State) (x0 : Int32) (x1 : Int32) (x2 : Int32) (x3 : Int32) (cz : Int32) (fm : Value) (h0 : Heap) (n0 : Nat) (v : Option Value) (h : Heap) (L : List Loc) : Prop := v = some (.int 1) ∧ Fr n0 L
set_option maxRecDepth 65536 in
set_option maxHeartbeats 40000000 in
theorem rm0 (l : Launch) (Z : State) (a0 : Array Value) (hw : ∀ d ∈ tables_1, d.before a0 Z = true) (ws : List Jvm.Cond) (x0 : Int32) (x1 : Int32) (x2 : Int32) (x3 : Int32) (cz : Int32) (fm : Value) (h0 : Heap) (n0 : Nat) (Z0 : n0 ≤ h0.size) (SCS : Sta Z h0 "java/lang/String" "COMPACT_STRINGS" "Z" (.int cz)) (hcz : ¬ cz = 0) (SFM : Sta Z h0 "jdk/internal/util/Preconditions" "SIOOBE_FORMATTER" "Ljava/util/function/BiFunction;" fm) (hfm : fm.isRef = true) :
    MetFree l x (head1 (Jvm.Cond.code x code maxLocals ret :: ws) room_1) (fun aa_ U => aa_ = #[(.int x0), (.int x1), (.int x2), (.int x3)] ∧ Z.Warmed39 U.vm ∧ U.heap = h0 ∧ CHv Z consts_1 U.vm h0) (fun _ _ _ _ _ => True) (fun _ U o U' => ∃ v L, o = .returned v ∧ Q_rm0 Z x0 x1 x2 x3 cz fm h0 n0 v U'.heap L ∧ CHr Z consts_1 U.vm U.heap U'.vm U'.heap ∧ ReturnedEndW U o U' L room_1.cells room_1.slots) := by
  refine MetFree.of_bodySF (plainFor_of_name pn_1) hisR ?_
  intro p e s m args below meth c s₁ Bd hml0 hP hK
  obtain ⟨rfl, hZ, hh, CH0⟩ := hP
  have hx := Bd.exec
  have hby := Bd.bytes
  have hml : c.maxLocals = 12 := hml0
  have hown : s.vm.findClass "com/example/wireform/wireform/HexParsePinLaw" = some m.cls := findClass_of_methodNamed Bd.named
  have hnm := (name_of_methodNamed Bd.named Bd.method).1
  have X0 : Stand p l e room_1 (s.setVm s.vm) m #[(.int x0), (.int x1), (.int x2), (.int x3)] below meth c s₁ [] 0 0 := Stand.of_body Bd
  have e0 : s₁.heap = h0 := by rw [← hh, Bd.state]; rfl
  have N0 := Fr.nil n0
  have hS0 : s.Since s.vm 0 := own_since s
  have hk0 : 0 ≤ h0.size := Nat.zero_le _
  have CR0 := CHr.refl CH0
  have hEL := own_EW hw
  have wS := own_wS hw
  have hZo := hZ
  refine Ends.cast (P := EndW s room_1 Z consts_1 (Q_rm0 Z x0 x1 x2 x3 cz fm h0 n0)) (ef_rm0 m x0 x1 x2 x3) ?_
  refine Ends.pre (T' := s₁.setTop (mkF m 1 #[.val (.int x0), .val (.int x1), .val (.int x2), .val (.int x3), .unset, .unset, .unset, .unset, .unset, .unset, .unset, .unset] [(.int x0)])) (fun t k => XS.iloadN X0.here hx rfl (hb hby at_0) rfl k) ?_
  refine Ends.pre (T' := s₁.setTop (mkF m 3 #[.val (.int x0), .val (.int x1), .val (.int x2), .val (.int x3), .unset, .unset, .unset, .unset, .unset, .unset, .unset, .unset] [(.int (2147483647 : Int32)), (.int x0)])) (fun t k => X0.ldcInt (index := 7) (v := (2147483647 : Int32)) hx hown (mvT hZ (hw _ (List.mem_of_getElem? (i := 0) rfl))) (g := (mkF m 1 #[.val (.int x0), .val (.int x1), .val (.int x2), .val (.int x3), .unset, .unset, .unset, .unset, .unset, .unset, .unset, .unset] [(.int x0)])) rfl (hb hby at_1) t k) ?_
  refine Ends.pre (T' := s₁.setTop (mkF m 4 #[.val (.int x0), .val (.int x1), .val (.int x2), .val (.int x3), .unset, .unset, .unset, .unset, .unset, .unset, .unset, .unset] [(.int (x0 &&& (2147483647 : Int32)))])) (fun t k => XS.iand X0.here hx rfl (hb hby at_3) rfl k) ?_
  refine Ends.pre (T' := s₁.setTop (mkF m 5 #[.val (.int x0), .val (.int x1), .val (.int x2), .val (.int x3), .unset, .unset, .unset, .unset, .unset, .unset, .unset, .unset] [(.int (3 : Int32)), (.int (x0 &&& (2147483647 : Int32)))])) (fun t k => XS.iconst X0.here hx rfl (hb hby at_4) k) ?_
  refine Ends.pre (T' := s₁.setTop (mkF m 6 #[.val (.int x0), .val (.int x1), .val (.int x2), .val (.int x3), .unset, .unset, .unset, .unset, .unset, .unset, .unset, .unset] [(.int ((x0 &&& (2147483647 : Int32)) % (3 : Int32)))])) (fun t k => iremM X0 hx rfl (hb hby at_5) rfl (by decide) k) ?_
  refine Ends.pre (T' := s₁.setTop (mkF m 8 #[.val (.int x0), .val (.int x1), .val (.int x2), .val (.int x3), .val (.int ((x0 &&& (2147483647 : Int32)) % (3 : Int32))), .unset, .unset, .unset, .unset, .unset, .unset, .unset] [])) (fun t k => XS.istore X0.here hx rfl (hb hby at_6) rfl (l' := #[.val (.int x0), .val (.int x1), .val (.int x2), .val (.int x3), .val (.int ((x0 &&& (2147483647 : Int32)) % (3 : Int32))), .unset, .unset, .unset, .unset, .unset, .unset, .unset]) rfl k) ?_
  generalize hv_nn : ((x0 &&& (2147483647 : Int32)) % (3 : Int32)) = nn
  refine Ends.pre (T' := s₁.setTop (mkF m 9 #[.val (.int x0), .val (.int x1), .val (.int x2), .val (.int x3), .val (.int nn), .unset, .unset, .unset, .unset, .unset, .unset, .unset] [(.int x1)])) (fun t k => XS.iloadN X0.here hx rfl (hb hby at_8) rfl k) ?_
  refine Ends.pre (T' := s₁.setTop (mkF m 12 #[.val (.int x0), .val (.int x1), .val (.int x2), .val (.int x3), .val (.int nn), .unset, .unset, .unset, .unset, .unset, .unset, .unset] [(.int (255 : Int32)), (.int x1)])) (fun t k => XS.sipush X0.here hx rfl (hb hby at_9) k) ?_
  refine Ends.pre (T' := s₁.setTop (mkF m 13 #[.val (.int x0), .val (.int x1), .val (.int x2), .val (.int x3), .val (.int nn), .unset, .unset, .unset, .unset, .unset, .unset, .unset] [(.int (x1 &&& (255 : Int32)))])) (fun t k => XS.iand X0.here hx rfl (hb hby at_12) rfl k) ?_
  refine Ends.pre (T' := s₁.setTop (mkF m 15 #[.val (.int x0), .val (.int x1), .val (.int x2), .val (.int x3), .val (.int nn), .val (.int (x1 &&& (255 : Int32))), .unset, .unset, .unset, .unset, .unset, .unset] [])) (fun t k => XS.istore X0.here hx rfl (hb hby at_13) rfl (l' := #[.val (.int x0), .val (.int x1), .val (.int x2), .val (.int x3), .val (.int nn), .val (.int (x1 &&& (255 : Int32))), .unset, .unset, .unset, .unset, .unset, .unset]) rfl k) ?_
  refine Ends.pre (T' := s₁.setTop (mkF m 16 #[.val (.int x0), .val (.int x1), .val (.int x2), .val (.int x3), .val (.int nn), .val (.int (x1 &&& (255 : Int32))), .unset, .unset, .unset, .unset, .unset, .unset] [(.int x2)])) (fun t k => XS.iloadN X0.here hx rfl (hb hby at_15) rfl k) ?_
  refine Ends.pre (T' := s₁.setTop (mkF m 19 #[.val (.int x0), .val (.int x1), .val (.int x2), .val (.int x3), .val (.int nn), .val (.int (x1 &&& (255 : Int32))), .unset, .unset, .unset, .unset, .unset, .unset] [(.int (255 : Int32)), (.int x2)])) (fun t k => XS.sipush X0.here hx rfl (hb hby at_16) k) ?_
  refine Ends.pre (T' := s₁.setTop (mkF m 20 #[.val (.int x0), .val (.int x1), .val (.int x2), .val (.int x3), .val (.int nn), .val (.int (x1 &&& (255 : Int32))), .unset, .unset, .unset, .unset, .unset, .unset] [(.int (x2 &&& (255 : Int32)))])) (fun t k => XS.iand X0.here hx rfl (hb hby at_19) rfl k) ?_
  refine Ends.pre (T' := s₁.setTop (mkF m 22 #[.val (.int x0), .val (.int x1), .val (.int x2), .val (.int x3), .val (.int nn), .val (.int (x1 &&& (255 : Int32))), .val (.int (x2 &&& (255 : Int32))), .unset, .unset, .unset, .unset, .unset] [])) (fun t k => XS.istore X0.here hx rfl (hb hby at_20) rfl (l' := #[.val (.int x0), .val (.int x1), .val (.int x2), .val (.int x3), .val (.int nn), .val (.int (x1 &&& (255 : Int32))), .val (.int (x2 &&& (255 : Int32))), .unset, .unset, .unset, .unset, .unset]) rfl k) ?_
  refine Ends.pre (T' := s₁.setTop (mkF m 23 #[.val (.int x0), .val (.int x1), .val (.int x2), .val (.int x3), .val (.int nn), .val (.int (x1 &&& (255 : Int32))), .val (.int (x2 &&& (255 : Int32))), .unset, .unset, .unset, .unset, .unset] [(.int (4 : Int32))])) (fun t k => XS.iconst X0.here hx rfl (hb hby at_22) k) ?_
  obtain ⟨T1, h1, k1, X1, e1, E1, A1, st1⟩ := newP X0 hx hZ (hw _ (List.mem_of_getElem? (i := 1) rfl)) e0 (g := (mkF m 23 #[.val (.int x0), .val (.int x1), .val (.int x2), .val (.int x3), .val (.int nn), .val (.int (x1 &&& (255 : Int32))), .val (.int (x2 &&& (255 : Int32))), .unset, .unset, .unset, .unset, .unset] [(.int (4 : Int32))])) rfl (hb hby at_23) rfl (by decide) (cap := 4) (by decide) (by decide) (by decide) (by decide)
  obtain ⟨b1, g1⟩ : ∃ z, z = h0.size := ⟨_, rfl⟩
  rw [← g1] at A1 st1
  have ge_b1 : n0 ≤ b1 := Nat.le_trans Z0 (Nat.le_of_eq g1.symm)
  have sz_b1 : h0.size ≤ b1 := Nat.le_trans (Keep.refl h0 []).1 (Nat.le_of_eq g1.symm)
  have CR1 := CHr.trans CR0 (CHr.ext E1 CH0)
  have K1 : Keep h0 h1 [] := (Keep.refl h0 []).ext E1
  have V1 : Arv Z h1 b1 k1 .char (4 : Int32) [(.int (0 : Int32)), (.int (0 : Int32)), (.int (0 : Int32)), (.int (0 : Int32))] (.int (0 : Int32)) := (Arv.new A1 (by decide)).pad (pad_rep [] (.int (0 : Int32)) 4)
  refine Ends.pre (T' := T1.setTop (mkF m 25 #[.val (.int x0), .val (.int x1), .val (.int x2), .val (.int x3), .val (.int nn), .val (.int (x1 &&& (255 : Int32))), .val (.int (x2 &&& (255 : Int32))), .unset, .unset, .unset, .unset, .unset] [(.ref b1)])) (fun t k => st1 _ k) ?_
  refine Ends.pre (T' := T1.setTop (mkF m 27 #[.val (.int x0), .val (.int x1), .val (.int x2), .val (.int x3), .val (.int nn), .val (.int (x1 &&& (255 : Int32))), .val (.int (x2 &&& (255 : Int32))), .val (.ref b1), .unset, .unset, .unset, .unset] [])) (fun t k => XS.astore X1.here hx rfl (hb hby at_25) rfl rfl (l' := #[.val (.int x0), .val (.int x1), .val (.int x2), .val (.int x3), .val (.int nn), .val (.int (x1 &&& (255 : Int32))), .val (.int (x2 &&& (255 : Int32))), .val (.ref b1), .unset, .unset, .unset, .unset]) rfl k) ?_
  refine Ends.pre (T' := T1.setTop (mkF m 29 #[.val (.int x0), .val (.int x1), .val (.int x2), .val (.int x3), .val (.int nn), .val (.int (x1 &&& (255 : Int32))), .val (.int (x2 &&& (255 : Int32))), .val (.ref b1), .unset, .unset, .unset, .unset] [(.ref b1)])) (fun t k => XS.aload X1.here hx rfl (hb hby at_27) rfl rfl k) ?_
  refine Ends.pre (T' := T1.setTop (mkF m 30 #[.val (.int x0), .val (.int x1), .val (.int x2), .val (.int x3), .val (.int nn), .val (.int (x1 &&& (255 : Int32))), .val (.int (x2 &&& (255 : Int32))), .val (.ref b1), .unset, .unset, .unset, .unset] [(.int (0 : Int32)), (.ref b1)])) (fun t k => XS.iconst X1.here hx rfl (hb hby at_29) k) ?_
  refine Ends.pre (T' := T1.setTop (mkF m 32 #[.val (.int x0), .val (.int x1), .val (.int x2), .val (.int x3), .val (.int nn), .val (.int (x1 &&& (255 : Int32))), .val (.int (x2 &&& (255 : Int32))), .val (.ref b1), .unset, .unset, .unset, .unset] [(.int (x1 &&& (255 : Int32))), (.int (0 : Int32)), (.ref b1)])) (fun t k => XS.iload X1.here hx rfl (hb hby at_30) rfl k) ?_
  refine Ends.pre (T' := T1.setTop (mkF m 33 #[.val (.int x0), .val (.int x1), .val (.int x2), .val (.int x3), .val (.int nn), .val (.int (x1 &&& (255 : Int32))), .val (.int (x2 &&& (255 : Int32))), .val (.ref b1), .unset, .unset, .unset, .unset] [(.int (4 : Int32)), (.int (x1 &&& (255 : Int32))), (.int (0 : Int32)), (.ref b1)])) (fun t k => XS.iconst X1.here hx rfl (hb hby at_32) k) ?_
  refine Ends.pre (T' := T1.setTop (mkF m 34 #[.val (.int x0), .val (.int x1), .val (.int x2), .val (.int x3), .val (.int nn), .val (.int (x1 &&& (255 : Int32))), .val (.int (x2 &&& (255 : Int32))), .val (.ref b1), .unset, .unset, .unset, .unset] [(.int ((x1 &&& (255 : Int32)) >>> ((4 : Int32) &&& 31))), (.int (0 : Int32)), (.ref b1)])) (fun t k => XS.ishr X1.here hx rfl (hb hby at_33) rfl k) ?_
  refine Ends.pre (T' := T1.setTop (mkF m 35 #[.val (.int x0), .val (.int x1), .val (.int x2), .val (.int x3), .val (.int nn), .val (.int (x1 &&& (255 : Int32))), .val (.int (x2 &&& (255 : Int32))), .val (.ref b1), .unset, .unset, .unset, .unset] [(.int x3), (.int ((x1 &&& (255 : Int32)) >>> ((4 : Int32) &&& 31))), (.int (0 : Int32)), (.ref b1)])) (fun t k => XS.iloadN X1.here hx rfl (hb hby at_34) rfl k) ?_
  refine Ends.pre (T' := T1.setTop (mkF m 36 #[.val (.int x0), .val (.int x1), .val (.int x2), .val (.int x3), .val (.int nn), .val (.int (x1 &&& (255 : Int32))), .val (.int (x2 &&& (255 : Int32))), .val (.ref b1), .unset, .unset, .unset, .unset] [(.int (1 : Int32)), (.int x3), (.int ((x1 &&& (255 : Int32)) >>> ((4 : Int32) &&& 31))), (.int (0 : Int32)), (.ref b1)])) (fun t k => XS.iconst X1.here hx rfl (hb hby at_35) k) ?_
  refine Ends.pre (T' := T1.setTop (mkF m 37 #[.val (.int x0), .val (.int x1), .val (.int x2), .val (.int x3), .val (.int nn), .val (.int (x1 &&& (255 : Int32))), .val (.int (x2 &&& (255 : Int32))), .val (.ref b1), .unset, .unset, .unset, .unset] [(.int (x3 &&& (1 : Int32))), (.int ((x1 &&& (255 : Int32)) >>> ((4 : Int32) &&& 31))), (.int (0 : Int32)), (.ref b1)])) (fun t k => XS.iand X1.here hx rfl (hb hby at_36) rfl k) ?_
  obtain ⟨_, _, ⟨T2, L2, k2, n2⟩, -, X2, ⟨Lc2, hQ2, l2, y2, z2⟩, st2⟩ := Jvm.LawKit.callS X1 hx (y := (⟨"com/example/wireform/wireform/HexParsePinLaw", "hexChar", "(II)C"⟩ : MethodName)) hown (mvT hZ (hw _ (List.mem_of_getElem? (i := 2) rfl))) (mvT hZ (hw _ (List.mem_of_getElem? (i := 3) rfl))) (mvT hZ (hw _ (List.mem_of_getElem? (i := 4) rfl))) (mvT hZ (hw _ (List.mem_of_getElem? (i := 5) rfl))) (by decide) (backOf (W := 2) (rm1 l Z a0 hw [] ((x1 &&& (255 : Int32)) >>> ((4 : Int32) &&& 31)) (x3 &&& (1 : Int32)) h1 n0 (Nat.le_trans Z0 E1.1) (own_hi x1)) hZ (hw _ (List.mem_of_getElem? (i := 5) rfl)) (hw _ (List.mem_of_getElem? (i := 4) rfl)) (by decide) (by decide)) (g := (mkF m 37 #[.val (.int x0), .val (.int x1), .val (.int x2), .val (.int x3), .val (.int nn), .val (.int (x1 &&& (255 : Int32))), .val (.int (x2 &&& (255 : Int32))), .val (.ref b1), .unset, .unset, .unset, .unset] [(.int (x3 &&& (1 : Int32))), (.int ((x1 &&& (255 : Int32)) >>> ((4 : Int32) &&& 31))), (.int (0 : Int32)), (.ref b1)])) rfl (by rw [hml]; rfl) (argsL := [(.int ((x1 &&& (255 : Int32)) >>> ((4 : Int32) &&& 31))), (.int (x3 &&& (1 : Int32)))]) (rest := [(.int (0 : Int32)), (.ref b1)]) (lenOf pd_4 rfl) rfl (by show 2 * 0 + _ ≤ _; exact Nat.le_of_eq rfl) (hb hby at_37) (fun _ _ => ⟨rfl, e1, (by decide : 1 + 0 ≤ _), (by decide : 4 + 0 ≤ _)⟩)
  dsimp only [Pt.U, Pt.locs, Pt.cells, Pt.slots] at X2 l2 y2 z2 st2 hQ2
  subst l2 y2 z2
  obtain ⟨c2, rfl, Hc2, N2q, eh2⟩ := hQ2
  have N2 := Fr.app N0 N2q
  refine Ends.pre (T' := T2.setTop (mkF m 40 #[.val (.int x0), .val (.int x1), .val (.int x2), .val (.int x3), .val (.int nn), .val (.int (x1 &&& (255 : Int32))), .val (.int (x2 &&& (255 : Int32))), .val (.ref b1), .unset, .unset, .unset, .unset] [(.int c2), (.int (0 : Int32)), (.ref b1)])) (fun t k => st2 _ k) ?_
  obtain ⟨cl3, Ar3, q3, S3, N3', H3, G3⟩ := id V1
  have hin3 : ¬ ((0 : Int32) < 0 ∨ cl3.slots.size ≤ ((0 : Int32)).toNatClampNeg) := inb_of S3 ⟨by decide, by decide⟩
  obtain ⟨T3, h3, X3, e3, W3, st3⟩ := stC X2 hx hZ eh2 Ar3 (j := (0 : Int32)) hin3 (g := (mkF m 40 #[.val (.int x0), .val (.int x1), .val (.int x2), .val (.int x3), .val (.int nn), .val (.int (x1 &&& (255 : Int32))), .val (.int (x2 &&& (255 : Int32))), .val (.ref b1), .unset, .unset, .unset, .unset] [(.int c2), (.int (0 : Int32)), (.ref b1)])) rfl rfl (hb hby at_40)
  have CR3 := CHr.trans CR1 (CHr.wr W3 (Safe.arv hZo.alike V1 (by decide)) CR1.1)
  have V3 : Arv Z h3 b1 k1 .char (4 : Int32) [(.int c2), (.int (0 : Int32)), (.int (0 : Int32)), (.int (0 : Int32))] (.int (0 : Int32)) := (by have q := Arv.set Ar3 q3 S3 N3' H3 G3 (fits_nar_char _) W3 0 rfl (Nat.le_of_ble_eq_true rfl); rw [own_char (own_hexc Hc2)] at q; exact q)
  have N3 := Fr.snoc X3 N2 ge_b1
  refine Ends.pre (T' := T3.setTop (mkF m 41 #[.val (.int x0), .val (.int x1), .val (.int x2), .val (.int x3), .val (.int nn), .val (.int (x1 &&& (255 : Int32))), .val (.int (x2 &&& (255 : Int32))), .val (.ref b1), .unset, .unset, .unset, .unset] [])) (fun t k => st3 _ k) ?_
  have K3 : Keep h0 h3 [] := K1.wr W3 (Or.inr sz_b1)
  refine Ends.pre (T' := T3.setTop (mkF m 43 #[.val (.int x0), .val (.int x1), .val (.int x2), .val (.int x3), .val (.int nn), .val (.int (x1 &&& (255 : Int32))), .val (.int (x2 &&& (255 : Int32))), .val (.ref b1), .unset, .unset, .unset, .unset] [(.ref b1)])) (fun t k => XS.aload X3.here hx rfl (hb hby at_41) rfl rfl k) ?_
  refine Ends.pre (T' := T3.setTop (mkF m 44 #[.val (.int x0), .val (.int x1), .val (.int x2), .val (.int x3), .val (.int nn), .val (.int (x1 &&& (255 : Int32))), .val (.int (x2 &&& (255 : Int32))), .val (.ref b1), .unset, .unset, .unset, .unset] [(.int (1 : Int32)), (.ref b1)])) (fun t k => XS.iconst X3.here hx rfl (hb hby at_43) k) ?_
  refine Ends.pre (T' := T3.setTop (mkF m 46 #[.val (.int x0), .val (.int x1), .val (.int x2), .val (.int x3), .val (.int nn), .val (.int (x1 &&& (255 : Int32))), .val (.int (x2 &&& (255 : Int32))), .val (.ref b1), .unset, .unset, .unset, .unset] [(.int (x1 &&& (255 : Int32))), (.int (1 : Int32)), (.ref b1)])) (fun t k => XS.iload X3.here hx rfl (hb hby at_44) rfl k) ?_
  refine Ends.pre (T' := T3.setTop (mkF m 48 #[.val (.int x0), .val (.int x1), .val (.int x2), .val (.int x3), .val (.int nn), .val (.int (x1 &&& (255 : Int32))), .val (.int (x2 &&& (255 : Int32))), .val (.ref b1), .unset, .unset, .unset, .unset] [(.int (15 : Int32)), (.int (x1 &&& (255 : Int32))), (.int (1 : Int32)), (.ref b1)])) (fun t k => XS.bipush X3.here hx rfl (hb hby at_46) k) ?_
  refine Ends.pre (T' := T3.setTop (mkF m 49 #[.val (.int x0), .val (.int x1), .val (.int x2), .val (.int x3), .val (.int nn), .val (.int (x1 &&& (255 : Int32))), .val (.int (x2 &&& (255 : Int32))), .val (.ref b1), .unset, .unset, .unset, .unset] [(.int ((x1 &&& (255 : Int32)) &&& (15 : Int32))), (.int (1 : Int32)), (.ref b1)])) (fun t k => XS.iand X3.here hx rfl (hb hby at_48) rfl k) ?_
  refine Ends.pre (T' := T3.setTop (mkF m 50 #[.val (.int x0), .val (.int x1), .val (.int x2), .val (.int x3), .val (.int nn), .val (.int (x1 &&& (255 : Int32))), .val (.int (x2 &&& (255 : Int32))), .val (.ref b1), .unset, .unset, .unset, .unset] [(.int x3), (.int ((x1 &&& (255 : Int32)) &&& (15 : Int32))), (.int (1 : Int32)), (.ref b1)])) (fun t k => XS.iloadN X3.here hx rfl (hb hby at_49) rfl k) ?_
  refine Ends.pre (T' := T3.setTop (mkF m 51 #[.val (.int x0), .val (.int x1), .val (.int x2), .val (.int x3), .val (.int nn), .val (.int (x1 &&& (255 : Int32))), .val (.int (x2 &&& (255 : Int32))), .val (.ref b1), .unset, .unset, .unset, .unset] [(.int (2 : Int32)), (.int x3), (.int ((x1 &&& (255 : Int32)) &&& (15 : Int32))), (.int (1 : Int32)), (.ref b1)])) (fun t k => XS.iconst X3.here hx rfl (hb hby at_50) k) ?_
  refine Ends.pre (T' := T3.setTop (mkF m 52 #[.val (.int x0), .val (.int x1), .val (.int x2), .val (.int x3), .val (.int nn), .val (.int (x1 &&& (255 : Int32))), .val (.int (x2 &&& (255 : Int32))), .val (.ref b1), .unset, .unset, .unset, .unset] [(.int (x3 &&& (2 : Int32))), (.int ((x1 &&& (255 : Int32)) &&& (15 : Int32))), (.int (1 : Int32)), (.ref b1)])) (fun t k => XS.iand X3.here hx rfl (hb hby at_51) rfl k) ?_
  obtain ⟨_, _, ⟨T4, L4, k4, n4⟩, -, X4, ⟨Lc4, hQ4, l4, y4, z4⟩, st4⟩ := Jvm.LawKit.callS X3 hx (y := (⟨"com/example/wireform/wireform/HexParsePinLaw", "hexChar", "(II)C"⟩ : MethodName)) hown (mvT hZ (hw _ (List.mem_of_getElem? (i := 2) rfl))) (mvT hZ (hw _ (List.mem_of_getElem? (i := 3) rfl))) (mvT hZ (hw _ (List.mem_of_getElem? (i := 4) rfl))) (mvT hZ (hw _ (List.mem_of_getElem? (i := 5) rfl))) (by decide) (backOf (W := 2) (rm1 l Z a0 hw [] ((x1 &&& (255 : Int32)) &&& (15 : Int32)) (x3 &&& (2 : Int32)) h3 n0 (Nat.le_trans (Nat.le_trans Z0 E1.1) (Keep.of_wr W3).1) (own_lo x1)) hZ (hw _ (List.mem_of_getElem? (i := 5) rfl)) (hw _ (List.mem_of_getElem? (i := 4) rfl)) (by decide) (by decide)) (g := (mkF m 52 #[.val (.int x0), .val (.int x1), .val (.int x2), .val (.int x3), .val (.int nn), .val (.int (x1 &&& (255 : Int32))), .val (.int (x2 &&& (255 : Int32))), .val (.ref b1), .unset, .unset, .unset, .unset] [(.int (x3 &&& (2 : Int32))), (.int ((x1 &&& (255 : Int32)) &&& (15 : Int32))), (.int (1 : Int32)), (.ref b1)])) rfl (by rw [hml]; rfl) (argsL := [(.int ((x1 &&& (255 : Int32)) &&& (15 : Int32))), (.int (x3 &&& (2 : Int32)))]) (rest := [(.int (1 : Int32)), (.ref b1)]) (lenOf pd_4 rfl) rfl (by show 2 * 0 + _ ≤ _; exact Nat.le_of_eq rfl) (hb hby at_52) (fun _ _ => ⟨rfl, e3, (by decide : 1 + 0 ≤ _), (by decide : 4 + 0 ≤ _)⟩)
  dsimp only [Pt.U, Pt.locs, Pt.cells, Pt.slots] at X4 l4 y4 z4 st4 hQ4
  subst l4 y4 z4
  obtain ⟨c4, rfl, Hc4, N4q, eh4⟩ := hQ4
  have N4 := Fr.app N3 N4q
  refine Ends.pre (T' := T4.setTop (mkF m 55 #[.val (.int x0), .val (.int x1), .val (.int x2), .val (.int x3), .val (.int nn), .val (.int (x1 &&& (255 : Int32))), .val (.int (x2 &&& (255 : Int32))), .val (.ref b1), .unset, .unset, .unset, .unset] [(.int c4), (.int (1 : Int32)), (.ref b1)])) (fun t k => st4 _ k) ?_
  obtain ⟨cl5, Ar5, q5, S5, N5', H5, G5⟩ := id V3
  have hin5 : ¬ ((1 : Int32) < 0 ∨ cl5.slots.size ≤ ((1 : Int32)).toNatClampNeg) := inb_of S5 ⟨by decide, by decide⟩
  obtain ⟨T5, h5, X5, e5, W5, st5⟩ := stC X4 hx hZ eh4 Ar5 (j := (1 : Int32)) hin5 (g := (mkF m 55 #[.val (.int x0), .val (.int x1), .val (.int x2), .val (.int x3), .val (.int nn), .val (.int (x1 &&& (255 : Int32))), .val (.int (x2 &&& (255 : Int32))), .val (.ref b1), .unset, .unset, .unset, .unset] [(.int c4), (.int (1 : Int32)), (.ref b1)])) rfl rfl (hb hby at_55)
  have CR5 := CHr.trans CR3 (CHr.wr W5 (Safe.arv hZo.alike V3 (by decide)) CR3.1)
  have V5 : Arv Z h5 b1 k1 .char (4 : Int32) [(.int c2), (.int c4), (.int (0 : Int32)), (.int (0 : Int32))] (.int (0 : Int32)) := (by have q := Arv.set Ar5 q5 S5 N5' H5 G5 (fits_nar_char _) W5 1 rfl (Nat.le_of_ble_eq_true rfl); rw [own_char (own_hexc Hc4)] at q; exact q)
  have N5 := Fr.snoc X5 N4 ge_b1
  refine Ends.pre (T' := T5.setTop (mkF m 56 #[.val (.int x0), .val (.int x1), .val (.int x2), .val (.int x3), .val (.int nn), .val (.int (x1 &&& (255 : Int32))), .val (.int (x2 &&& (255 : Int32))), .val (.ref b1), .unset, .unset, .unset, .unset] [])) (fun t k => st5 _ k) ?_
  have K5 : Keep h0 h5 [] := K3.wr W5 (Or.inr sz_b1)
  refine Ends.pre (T' := T5.setTop (mkF m 58 #[.val (.int x0), .val (.int x1), .val (.int x2), .val (.int x3), .val (.int nn), .val (.int (x1 &&& (255 : Int32))), .val (.int (x2 &&& (255 : Int32))), .val (.ref b1), .unset, .unset, .unset, .unset] [(.ref b1)])) (fun t k => XS.aload X5.here hx rfl (hb hby at_56) rfl rfl k) ?_
  refine Ends.pre (T' := T5.setTop (mkF m 59 #[.val (.int x0), .val (.int x1), .val (.int x2), .val (.int x3), .val (.int nn), .val (.int (x1 &&& (255 : Int32))), .val (.int (x2 &&& (255 : Int32))), .val (.ref b1), .unset, .unset, .unset, .unset] [(.int (2 : Int32)), (.ref b1)])) (fun t k => XS.iconst X5.here hx rfl (hb hby at_58) k) ?_
  refine Ends.pre (T' := T5.setTop (mkF m 61 #[.val (.int x0), .val (.int x1), .val (.int x2), .val (.int x3), .val (.int nn), .val (.int (x1 &&& (255 : Int32))), .val (.int (x2 &&& (255 : Int32))), .val (.ref b1), .unset, .unset, .unset, .unset] [(.int (x2 &&& (255 : Int32))), (.int (2 : Int32)), (.ref b1)])) (fun t k => XS.iload X5.here hx rfl (hb hby at_59) rfl k) ?_
  refine Ends.pre (T' := T5.setTop (mkF m 62 #[.val (.int x0), .val (.int x1), .val (.int x2), .val (.int x3), .val (.int nn), .val (.int (x1 &&& (255 : Int32))), .val (.int (x2 &&& (255 : Int32))), .val (.ref b1), .unset, .unset, .unset, .unset] [(.int (4 : Int32)), (.int (x2 &&& (255 : Int32))), (.int (2 : Int32)), (.ref b1)])) (fun t k => XS.iconst X5.here hx rfl (hb hby at_61) k) ?_
  refine Ends.pre (T' := T5.setTop (mkF m 63 #[.val (.int x0), .val (.int x1), .val (.int x2), .val (.int x3), .val (.int nn), .val (.int (x1 &&& (255 : Int32))), .val (.int (x2 &&& (255 : Int32))), .val (.ref b1), .unset, .unset, .unset, .unset] [(.int ((x2 &&& (255 : Int32)) >>> ((4 : Int32) &&& 31))), (.int (2 : Int32)), (.ref b1)])) (fun t k => XS.ishr X5.here hx rfl (hb hby at_62) rfl k) ?_
  refine Ends.pre (T' := T5.setTop (mkF m 64 #[.val (.int x0), .val (.int x1), .val (.int x2), .val (.int x3), .val (.int nn), .val (.int (x1 &&& (255 : Int32))), .val (.int (x2 &&& (255 : Int32))), .val (.ref b1), .unset, .unset, .unset, .unset] [(.int x3), (.int ((x2 &&& (255 : Int32)) >>> ((4 : Int32) &&& 31))), (.int (2 : Int32)), (.ref b1)])) (fun t k => XS.iloadN X5.here hx rfl (hb hby at_63) rfl k) ?_
  refine Ends.pre (T' := T5.setTop (mkF m 65 #[.val (.int x0), .val (.int x1), .val (.int x2), .val (.int x3), .val (.int nn), .val (.int (x1 &&& (255 : Int32))), .val (.int (x2 &&& (255 : Int32))), .val (.ref b1), .unset, .unset, .unset, .unset] [(.int (4 : Int32)), (.int x3), (.int ((x2 &&& (255 : Int32)) >>> ((4 : Int32) &&& 31))), (.int (2 : Int32)), (.ref b1)])) (fun t k => XS.iconst X5.here hx rfl (hb hby at_64) k) ?_
  refine Ends.pre (T' := T5.setTop (mkF m 66 #[.val (.int x0), .val (.int x1), .val (.int x2), .val (.int x3), .val (.int nn), .val (.int (x1 &&& (255 : Int32))), .val (.int (x2 &&& (255 : Int32))), .val (.ref b1), .unset, .unset, .unset, .unset] [(.int (x3 &&& (4 : Int32))), (.int ((x2 &&& (255 : Int32)) >>> ((4 : Int32) &&& 31))), (.int (2 : Int32)), (.ref b1)])) (fun t k => XS.iand X5.here hx rfl (hb hby at_65) rfl k) ?_
  obtain ⟨_, _, ⟨T6, L6, k6, n6⟩, -, X6, ⟨Lc6, hQ6, l6, y6, z6⟩, st6⟩ := Jvm.LawKit.callS X5 hx (y := (⟨"com/example/wireform/wireform/HexParsePinLaw", "hexChar", "(II)C"⟩ : MethodName)) hown (mvT hZ (hw _ (List.mem_of_getElem? (i := 2) rfl))) (mvT hZ (hw _ (List.mem_of_getElem? (i := 3) rfl))) (mvT hZ (hw _ (List.mem_of_getElem? (i := 4) rfl))) (mvT hZ (hw _ (List.mem_of_getElem? (i := 5) rfl))) (by decide) (backOf (W := 2) (rm1 l Z a0 hw [] ((x2 &&& (255 : Int32)) >>> ((4 : Int32) &&& 31)) (x3 &&& (4 : Int32)) h5 n0 (Nat.le_trans (Nat.le_trans (Nat.le_trans Z0 E1.1) (Keep.of_wr W3).1) (Keep.of_wr W5).1) (own_hi x2)) hZ (hw _ (List.mem_of_getElem? (i := 5) rfl)) (hw _ (List.mem_of_getElem? (i := 4) rfl)) (by decide) (by decide)) (g := (mkF m 66 #[.val (.int x0), .val (.int x1), .val (.int x2), .val (.int x3), .val (.int nn), .val (.int (x1 &&& (255 : Int32))), .val (.int (x2 &&& (255 : Int32))), .val (.ref b1), .unset, .unset, .unset, .unset] [(.int (x3 &&& (4 : Int32))), (.int ((x2 &&& (255 : Int32)) >>> ((4 : Int32) &&& 31))), (.int (2 : Int32)), (.ref b1)])) rfl (by rw [hml]; rfl) (argsL := [(.int ((x2 &&& (255 : Int32)) >>> ((4 : Int32) &&& 31))), (.int (x3 &&& (4 : Int32)))]) (rest := [(.int (2 : Int32)), (.ref b1)]) (lenOf pd_4 rfl) rfl (by show 2 * 0 + _ ≤ _; exact Nat.le_of_eq rfl) (hb hby at_66) (fun _ _ => ⟨rfl, e5, (by decide : 1 + 0 ≤ _), (by decide : 4 + 0 ≤ _)⟩)
  dsimp only [Pt.U, Pt.locs, Pt.cells, Pt.slots] at X6 l6 y6 z6 st6 hQ6
  subst l6 y6 z6
  obtain ⟨c6, rfl, Hc6, N6q, eh6⟩ := hQ6
  have N6 := Fr.app N5 N6q
  refine Ends.pre (T' := T6.setTop (mkF m 69 #[.val (.int x0), .val (.int x1), .val (.int x2), .val (.int x3), .val (.int nn), .val (.int (x1 &&& (255 : Int32))), .val (.int (x2 &&& (255 : Int32))), .val (.ref b1), .unset, .unset, .unset, .unset] [(.int c6), (.int (2 : Int32)), (.ref b1)])) (fun t k => st6 _ k) ?_
  obtain ⟨cl7, Ar7, q7, S7, N7', H7, G7⟩ := id V5
  have hin7 : ¬ ((2 : Int32) < 0 ∨ cl7.slots.size ≤ ((2 : Int32)).toNatClampNeg) := inb_of S7 ⟨by decide, by decide⟩
  obtain ⟨T7, h7, X7, e7, W7, st7⟩ := stC X6 hx hZ eh6 Ar7 (j := (2 : Int32)) hin7 (g := (mkF m 69 #[.val (.int x0), .val (.int x1), .val (.int x2), .val (.int x3), .val (.int nn), .val (.int (x1 &&& (255 : Int32))), .val (.int (x2 &&& (255 : Int32))), .val (.ref b1), .unset, .unset, .unset, .unset] [(.int c6), (.int (2 : Int32)), (.ref b1)])) rfl rfl (hb hby at_69)
  have CR7 := CHr.trans CR5 (CHr.wr W7 (Safe.arv hZo.alike V5 (by decide)) CR5.1)
  have V7 : Arv Z h7 b1 k1 .char (4 : Int32) [(.int c2), (.int c4), (.int c6), (.int (0 : Int32))] (.int (0 : Int32)) := (by have q := Arv.set Ar7 q7 S7 N7' H7 G7 (fits_nar_char _) W7 2 rfl (Nat.le_of_ble_eq_true rfl); rw [own_char (own_hexc Hc6)] at q; exact q)
  have N7 := Fr.snoc X7 N6 ge_b1
  refine Ends.pre (T' := T7.setTop (mkF m 70 #[.val (.int x0), .val (.int x1), .val (.int x2), .val (.int x3), .val (.int nn), .val (.int (x1 &&& (255 : Int32))), .val (.int (x2 &&& (255 : Int32))), .val (.ref b1), .unset, .unset, .unset, .unset] [])) (fun t k => st7 _ k) ?_
  have K7 : Keep h0 h7 [] := K5.wr W7 (Or.inr sz_b1)
  refine Ends.pre (T' := T7.setTop (mkF m 72 #[.val (.int x0), .val (.int x1), .val (.int x2), .val (.int x3), .val (.int nn), .val (.int (x1 &&& (255 : Int32))), .val (.int (x2 &&& (255 : Int32))), .val (.ref b1), .unset, .unset, .unset, .unset] [(.ref b1)])) (fun t k => XS.aload X7.here hx rfl (hb hby at_70) rfl rfl k) ?_
  refine Ends.pre (T' := T7.setTop (mkF m 73 #[.val (.int x0), .val (.int x1), .val (.int x2), .val (.int x3), .val (.int nn), .val (.int (x1 &&& (255 : Int32))), .val (.int (x2 &&& (255 : Int32))), .val (.ref b1), .unset, .unset, .unset, .unset] [(.int (3 : Int32)), (.ref b1)])) (fun t k => XS.iconst X7.here hx rfl (hb hby at_72) k) ?_
  refine Ends.pre (T' := T7.setTop (mkF m 75 #[.val (.int x0), .val (.int x1), .val (.int x2), .val (.int x3), .val (.int nn), .val (.int (x1 &&& (255 : Int32))), .val (.int (x2 &&& (255 : Int32))), .val (.ref b1), .unset, .unset, .unset, .unset] [(.int (x2 &&& (255 : Int32))), (.int (3 : Int32)), (.ref b1)])) (fun t k => XS.iload X7.here hx rfl (hb hby at_73) rfl k) ?_
  refine Ends.pre (T' := T7.setTop (mkF m 77 #[.val (.int x0), .val (.int x1), .val (.int x2), .val (.int x3), .val (.int nn), .val (.int (x1 &&& (255 : Int32))), .val (.int (x2 &&& (255 : Int32))), .val (.ref b1), .unset, .unset, .unset, .unset] [(.int (15 : Int32)), (.int (x2 &&& (255 : Int32))), (.int (3 : Int32)), (.ref b1)])) (fun t k => XS.bipush X7.here hx rfl (hb hby at_75) k) ?_
  refine Ends.pre (T' := T7.setTop (mkF m 78 #[.val (.int x0), .val (.int x1), .val (.int x2), .val (.int x3), .val (.int nn), .val (.int (x1 &&& (255 : Int32))), .val (.int (x2 &&& (255 : Int32))), .val (.ref b1), .unset, .unset, .unset, .unset] [(.int ((x2 &&& (255 : Int32)) &&& (15 : Int32))), (.int (3 : Int32)), (.ref b1)])) (fun t k => XS.iand X7.here hx rfl (hb hby at_77) rfl k) ?_
  refine Ends.pre (T' := T7.setTop (mkF m 79 #[.val (.int x0), .val (.int x1), .val (.int x2), .val (.int x3), .val (.int nn), .val (.int (x1 &&& (255 : Int32))), .val (.int (x2 &&& (255 : Int32))), .val (.ref b1), .unset, .unset, .unset, .unset] [(.int x3), (.int ((x2 &&& (255 : Int32)) &&& (15 : Int32))), (.int (3 : Int32)), (.ref b1)])) (fun t k => XS.iloadN X7.here hx rfl (hb hby at_78) rfl k) ?_
  refine Ends.pre (T' := T7.setTop (mkF m 81 #[.val (.int x0), .val (.int x1), .val (.int x2), .val (.int x3), .val (.int nn), .val (.int (x1 &&& (255 : Int32))), .val (.int (x2 &&& (255 : Int32))), .val (.ref b1), .unset, .unset, .unset, .unset] [(.int (8 : Int32)), (.int x3), (.int ((x2 &&& (255 : Int32)) &&& (15 : Int32))), (.int (3 : Int32)), (.ref b1)])) (fun t k => XS.bipush X7.here hx rfl (hb hby at_79) k) ?_
  refine Ends.pre (T' := T7.setTop (mkF m 82 #[.val (.int x0), .val (.int x1), .val (.int x2), .val (.int x3), .val (.int nn), .val (.int (x1 &&& (255 : Int32))), .val (.int (x2 &&& (255 : Int32))), .val (.ref b1), .unset, .unset, .unset, .unset] [(.int (x3 &&& (8 : Int32))), (.int ((x2 &&& (255 : Int32)) &&& (15 : Int32))), (.int (3 : Int32)), (.ref b1)])) (fun t k => XS.iand X7.here hx rfl (hb hby at_81) rfl k) ?_
  obtain ⟨_, _, ⟨T8, L8, k8, n8⟩, -, X8, ⟨Lc8, hQ8, l8, y8, z8⟩, st8⟩ := Jvm.LawKit.callS X7 hx (y := (⟨"com/example/wireform/wireform/HexParsePinLaw", "hexChar", "(II)C"⟩ : MethodName)) hown (mvT hZ (hw _ (List.mem_of_getElem? (i := 2) rfl))) (mvT hZ (hw _ (List.mem_of_getElem? (i := 3) rfl))) (mvT hZ (hw _ (List.mem_of_getElem? (i := 4) rfl))) (mvT hZ (hw _ (List.mem_of_getElem? (i := 5) rfl))) (by decide) (backOf (W := 2) (rm1 l Z a0 hw [] ((x2 &&& (255 : Int32)) &&& (15 : Int32)) (x3 &&& (8 : Int32)) h7 n0 (Nat.le_trans (Nat.le_trans (Nat.le_trans (Nat.le_trans Z0 E1.1) (Keep.of_wr W3).1) (Keep.of_wr W5).1) (Keep.of_wr W7).1) (own_lo x2)) hZ (hw _ (List.mem_of_getElem? (i := 5) rfl)) (hw _ (List.mem_of_getElem? (i := 4) rfl)) (by decide) (by decide)) (g := (mkF m 82 #[.val (.int x0), .val (.int x1), .val (.int x2), .val (.int x3), .val (.int nn), .val (.int (x1 &&& (255 : Int32))), .val (.int (x2 &&& (255 : Int32))), .val (.ref b1), .unset, .unset, .unset, .unset] [(.int (x3 &&& (8 : Int32))), (.int ((x2 &&& (255 : Int32)) &&& (15 : Int32))), (.int (3 : Int32)), (.ref b1)])) rfl (by rw [hml]; rfl) (argsL := [(.int ((x2 &&& (255 : Int32)) &&& (15 : Int32))), (.int (x3 &&& (8 : Int32)))]) (rest := [(.int (3 : Int32)), (.ref b1)]) (lenOf pd_4 rfl) rfl (by show 2 * 0 + _ ≤ _; exact Nat.le_of_eq rfl) (hb hby at_82) (fun _ _ => ⟨rfl, e7, (by decide : 1 + 0 ≤ _), (by decide : 4 + 0 ≤ _)⟩)
  dsimp only [Pt.U, Pt.locs, Pt.cells, Pt.slots] at X8 l8 y8 z8 st8 hQ8
  subst l8 y8 z8
  obtain ⟨c8, rfl, Hc8, N8q, eh8⟩ := hQ8
  have N8 := Fr.app N7 N8q
  refine Ends.pre (T' := T8.setTop (mkF m 85 #[.val (.int x0), .val (.int x1), .val (.int x2), .val (.int x3), .val (.int nn), .val (.int (x1 &&& (255 : Int32))), .val (.int (x2 &&& (255 : Int32))), .val (.ref b1), .unset, .unset, .unset, .unset] [(.int c8), (.int (3 : Int32)), (.ref b1)])) (fun t k => st8 _ k) ?_
  obtain ⟨cl9, Ar9, q9, S9, N9', H9, G9⟩ := id V7
  have hin9 : ¬ ((3 : Int32) < 0 ∨ cl9.slots.size ≤ ((3 : Int32)).toNatClampNeg) := inb_of S9 ⟨by decide, by decide⟩
  obtain ⟨T9, h9, X9, e9, W9, st9⟩ := stC X8 hx hZ eh8 Ar9 (j := (3 : Int32)) hin9 (g := (mkF m 85 #[.val (.int x0), .val (.int x1), .val (.int x2), .val (.int x3), .val (.int nn), .val (.int (x1 &&& (255 : Int32))), .val (.int (x2 &&& (255 : Int32))), .val (.ref b1), .unset, .unset, .unset, .unset] [(.int c8), (.int (3 : Int32)), (.ref b1)])) rfl rfl (hb hby at_85)
  have CR9 := CHr.trans CR7 (CHr.wr W9 (Safe.arv hZo.alike V7 (by decide)) CR7.1)
  have V9 : Arv Z h9 b1 k1 .char (4 : Int32) [(.int c2), (.int c4), (.int c6), (.int c8)] (.int (0 : Int32)) := (by have q := Arv.set Ar9 q9 S9 N9' H9 G9 (fits_nar_char _) W9 3 rfl (Nat.le_of_ble_eq_true rfl); rw [own_char (own_hexc Hc8)] at q; exact q)
  have N9 := Fr.snoc X9 N8 ge_b1
  refine Ends.pre (T' := T9.setTop (mkF m 86 #[.val (.int x0), .val (.int x1), .val (.int x2), .val (.int x3), .val (.int nn), .val (.int (x1 &&& (255 : Int32))), .val (.int (x2 &&& (255 : Int32))), .val (.ref b1), .unset, .unset, .unset, .unset] [])) (fun t k => st9 _ k) ?_
  have K9 : Keep h0 h9 [] := K7.wr W9 (Or.inr sz_b1)
  refine Ends.pre (T' := T9.setTop (mkF m 87 #[.val (.int x0), .val (.int x1), .val (.int x2), .val (.int x3), .val (.int nn), .val (.int (x1 &&& (255 : Int32))), .val (.int (x2 &&& (255 : Int32))), .val (.ref b1), .unset, .unset, .unset, .unset] [(.int (2 : Int32))])) (fun t k => XS.iconst X9.here hx rfl (hb hby at_86) k) ?_
  obtain ⟨T10, h10, k10, X10, e10, E10, A10, st10⟩ := newP X9 hx hZ (hw _ (List.mem_of_getElem? (i := 1) rfl)) e9 (g := (mkF m 87 #[.val (.int x0), .val (.int x1), .val (.int x2), .val (.int x3), .val (.int nn), .val (.int (x1 &&& (255 : Int32))), .val (.int (x2 &&& (255 : Int32))), .val (.ref b1), .unset, .unset, .unset, .unset] [(.int (2 : Int32))])) rfl (hb hby at_87) rfl (by decide) (cap := 2) (by decide) (by decide) (by decide) (by decide)
  obtain ⟨b10, g10⟩ : ∃ z, z = h9.size := ⟨_, rfl⟩
  rw [← g10] at A10 st10
  have ge_b10 : n0 ≤ b10 := Nat.le_trans (Nat.le_trans (Nat.le_trans (Nat.le_trans (Nat.le_trans (Nat.le_trans Z0 E1.1) (Keep.of_wr W3).1) (Keep.of_wr W5).1) (Keep.of_wr W7).1) (Keep.of_wr W9).1) (Nat.le_of_eq g10.symm)
  have sz_b10 : h0.size ≤ b10 := Nat.le_trans K9.1 (Nat.le_of_eq g10.symm)
  have CR10 := CHr.trans CR9 (CHr.ext E10 CR9.1)
  have K10 : Keep h0 h10 [] := K9.ext E10
  have V10 : Arv Z h10 b10 k10 .char (2 : Int32) [(.int (0 : Int32)), (.int (0 : Int32))] (.int (0 : Int32)) := (Arv.new A10 (by decide)).pad (pad_rep [] (.int (0 : Int32)) 2)
  refine Ends.pre (T' := T10.setTop (mkF m 89 #[.val (.int x0), .val (.int x1), .val (.int x2), .val (.int x3), .val (.int nn), .val (.int (x1 &&& (255 : Int32))), .val (.int (x2 &&& (255 : Int32))), .val (.ref b1), .unset, .unset, .unset, .unset] [(.ref b10)])) (fun t k => st10 _ k) ?_
  refine Ends.pre (T' := T10.setTop (mkF m 91 #[.val (.int x0), .val (.int x1), .val (.int x2), .val (.int x3), .val (.int nn), .val (.int (x1 &&& (255 : Int32))), .val (.int (x2 &&& (255 : Int32))), .val (.ref b1), .val (.ref b10), .unset, .unset, .unset] [])) (fun t k => XS.astore X10.here hx rfl (hb hby at_89) rfl rfl (l' := #[.val (.int x0), .val (.int x1), .val (.int x2), .val (.int x3), .val (.int nn), .val (.int (x1 &&& (255 : Int32))), .val (.int (x2 &&& (255 : Int32))), .val (.ref b1), .val (.ref b10), .unset, .unset, .unset]) rfl k) ?_
  refine Ends.pre (T' := T10.setTop (mkF m 93 #[.val (.int x0), .val (.int x1), .val (.int x2), .val (.int x3), .val (.int nn), .val (.int (x1 &&& (255 : Int32))), .val (.int (x2 &&& (255 : Int32))), .val (.ref b1), .val (.ref b10), .unset, .unset, .unset] [(.ref b10)])) (fun t k => XS.aload X10.here hx rfl (hb hby at_91) rfl rfl k) ?_
  refine Ends.pre (T' := T10.setTop (mkF m 94 #[.val (.int x0), .val (.int x1), .val (.int x2), .val (.int x3), .val (.int nn), .val (.int (x1 &&& (255 : Int32))), .val (.int (x2 &&& (255 : Int32))), .val (.ref b1), .val (.ref b10), .unset, .unset, .unset] [(.int (0 : Int32)), (.ref b10)])) (fun t k => XS.iconst X10.here hx rfl (hb hby at_93) k) ?_
  refine Ends.pre (T' := T10.setTop (mkF m 96 #[.val (.int x0), .val (.int x1), .val (.int x2), .val (.int x3), .val (.int nn), .val (.int (x1 &&& (255 : Int32))), .val (.int (x2 &&& (255 : Int32))), .val (.ref b1), .val (.ref b10), .unset, .unset, .unset] [(.ref b1), (.int (0 : Int32)), (.ref b10)])) (fun t k => XS.aload X10.here hx rfl (hb hby at_94) rfl rfl k) ?_
  refine Ends.pre (T' := T10.setTop (mkF m 97 #[.val (.int x0), .val (.int x1), .val (.int x2), .val (.int x3), .val (.int nn), .val (.int (x1 &&& (255 : Int32))), .val (.int (x2 &&& (255 : Int32))), .val (.ref b1), .val (.ref b10), .unset, .unset, .unset] [(.int (0 : Int32)), (.ref b1), (.int (0 : Int32)), (.ref b10)])) (fun t k => XS.iconst X10.here hx rfl (hb hby at_96) k) ?_
  have F11 : Arv Z h10 b1 k1 .char (4 : Int32) [(.int c2), (.int c4), (.int c6), (.int c8)] (.int (0 : Int32)) := (Arv.ext V9 E10)
  obtain ⟨cl12, Ar12, q12, S12, N12', H12, G12⟩ := id F11
  have hin12 : ¬ ((0 : Int32) < 0 ∨ cl12.slots.size ≤ ((0 : Int32)).toNatClampNeg) := inb_of S12 ⟨by decide, by decide⟩
  refine Ends.pre (T' := T10.setTop (mkF m 98 #[.val (.int x0), .val (.int x1), .val (.int x2), .val (.int x3), .val (.int nn), .val (.int (x1 &&& (255 : Int32))), .val (.int (x2 &&& (255 : Int32))), .val (.ref b1), .val (.ref b10), .unset, .unset, .unset] [(.int c2), (.int (0 : Int32)), (.ref b10)])) (fun t k => X10.caload hx (j := (0 : Int32)) (v := (.int c2)) (by rw [e10]; exact Ar12.1) (State.isArrayOf_alike hZ.alike Ar12.2.1) Ar12.2.2 hin12 (H12.at hin12 rfl) (g := (mkF m 97 #[.val (.int x0), .val (.int x1), .val (.int x2), .val (.int x3), .val (.int nn), .val (.int (x1 &&& (255 : Int32))), .val (.int (x2 &&& (255 : Int32))), .val (.ref b1), .val (.ref b10), .unset, .unset, .unset] [(.int (0 : Int32)), (.ref b1), (.int (0 : Int32)), (.ref b10)])) rfl rfl (hb hby at_97) _ k) ?_
  obtain ⟨cl13, Ar13, q13, S13, N13', H13, G13⟩ := id V10
  have hin13 : ¬ ((0 : Int32) < 0 ∨ cl13.slots.size ≤ ((0 : Int32)).toNatClampNeg) := inb_of S13 ⟨by decide, by decide⟩
  obtain ⟨T13, h13, X13, e13, W13, st13⟩ := stC X10 hx hZ e10 Ar13 (j := (0 : Int32)) hin13 (g := (mkF m 98 #[.val (.int x0), .val (.int x1), .val (.int x2), .val (.int x3), .val (.int nn), .val (.int (x1 &&& (255 : Int32))), .val (.int (x2 &&& (255 : Int32))), .val (.ref b1), .val (.ref b10), .unset, .unset, .unset] [(.int c2), (.int (0 : Int32)), (.ref b10)])) rfl rfl (hb hby at_98)
  have CR13 := CHr.trans CR10 (CHr.wr W13 (Safe.arv hZo.alike V10 (by decide)) CR10.1)
  have V13 : Arv Z h13 b10 k10 .char (2 : Int32) [(.int c2), (.int (0 : Int32))] (.int (0 : Int32)) := (by have q := Arv.set Ar13 q13 S13 N13' H13 G13 (fits_nar_char _) W13 0 rfl (Nat.le_of_ble_eq_true rfl); rw [own_char (own_hexc Hc2)] at q; exact q)
  have N13 := Fr.snoc X13 N9 ge_b10
  refine Ends.pre (T' := T13.setTop (mkF m 99 #[.val (.int x0), .val (.int x1), .val (.int x2), .val (.int x3), .val (.int nn), .val (.int (x1 &&& (255 : Int32))), .val (.int (x2 &&& (255 : Int32))), .val (.ref b1), .val (.ref b10), .unset, .unset, .unset] [])) (fun t k => st13 _ k) ?_
  have K13 : Keep h0 h13 [] := K10.wr W13 (Or.inr sz_b10)
  refine Ends.pre (T' := T13.setTop (mkF m 101 #[.val (.int x0), .val (.int x1), .val (.int x2), .val (.int x3), .val (.int nn), .val (.int (x1 &&& (255 : Int32))), .val (.int (x2 &&& (255 : Int32))), .val (.ref b1), .val (.ref b10), .unset, .unset, .unset] [(.ref b10)])) (fun t k => XS.aload X13.here hx rfl (hb hby at_99) rfl rfl k) ?_
  refine Ends.pre (T' := T13.setTop (mkF m 102 #[.val (.int x0), .val (.int x1), .val (.int x2), .val (.int x3), .val (.int nn), .val (.int (x1 &&& (255 : Int32))), .val (.int (x2 &&& (255 : Int32))), .val (.ref b1), .val (.ref b10), .unset, .unset, .unset] [(.int (1 : Int32)), (.ref b10)])) (fun t k => XS.iconst X13.here hx rfl (hb hby at_101) k) ?_
  refine Ends.pre (T' := T13.setTop (mkF m 104 #[.val (.int x0), .val (.int x1), .val (.int x2), .val (.int x3), .val (.int nn), .val (.int (x1 &&& (255 : Int32))), .val (.int (x2 &&& (255 : Int32))), .val (.ref b1), .val (.ref b10), .unset, .unset, .unset] [(.ref b1), (.int (1 : Int32)), (.ref b10)])) (fun t k => XS.aload X13.here hx rfl (hb hby at_102) rfl rfl k) ?_
  refine Ends.pre (T' := T13.setTop (mkF m 105 #[.val (.int x0), .val (.int x1), .val (.int x2), .val (.int x3), .val (.int nn), .val (.int (x1 &&& (255 : Int32))), .val (.int (x2 &&& (255 : Int32))), .val (.ref b1), .val (.ref b10), .unset, .unset, .unset] [(.int (1 : Int32)), (.ref b1), (.int (1 : Int32)), (.ref b10)])) (fun t k => XS.iconst X13.here hx rfl (hb hby at_104) k) ?_
  have F14 : Arv Z h13 b1 k1 .char (4 : Int32) [(.int c2), (.int c4), (.int c6), (.int c8)] (.int (0 : Int32)) := (F11.other W13 (Nat.ne_of_lt (Nat.lt_of_lt_of_le (Nat.lt_of_lt_of_le (Nat.lt_of_lt_of_le (Nat.lt_of_lt_of_le (Nat.lt_of_lt_of_le V1.lt (Keep.of_wr W3).1) (Keep.of_wr W5).1) (Keep.of_wr W7).1) (Keep.of_wr W9).1) (Nat.le_of_eq g10.symm))))
  obtain ⟨cl15, Ar15, q15, S15, N15', H15, G15⟩ := id F14
  have hin15 : ¬ ((1 : Int32) < 0 ∨ cl15.slots.size ≤ ((1 : Int32)).toNatClampNeg) := inb_of S15 ⟨by decide, by decide⟩
  refine Ends.pre (T' := T13.setTop (mkF m 106 #[.val (.int x0), .val (.int x1), .val (.int x2), .val (.int x3), .val (.int nn), .val (.int (x1 &&& (255 : Int32))), .val (.int (x2 &&& (255 : Int32))), .val (.ref b1), .val (.ref b10), .unset, .unset, .unset] [(.int c4), (.int (1 : Int32)), (.ref b10)])) (fun t k => X13.caload hx (j := (1 : Int32)) (v := (.int c4)) (by rw [e13]; exact Ar15.1) (State.isArrayOf_alike hZ.alike Ar15.2.1) Ar15.2.2 hin15 (H15.at hin15 rfl) (g := (mkF m 105 #[.val (.int x0), .val (.int x1), .val (.int x2), .val (.int x3), .val (.int nn), .val (.int (x1 &&& (255 : Int32))), .val (.int (x2 &&& (255 : Int32))), .val (.ref b1), .val (.ref b10), .unset, .unset, .unset] [(.int (1 : Int32)), (.ref b1), (.int (1 : Int32)), (.ref b10)])) rfl rfl (hb hby at_105) _ k) ?_
  obtain ⟨cl16, Ar16, q16, S16, N16', H16, G16⟩ := id V13
  have hin16 : ¬ ((1 : Int32) < 0 ∨ cl16.slots.size ≤ ((1 : Int32)).toNatClampNeg) := inb_of S16 ⟨by decide, by decide⟩
  obtain ⟨T16, h16, X16, e16, W16, st16⟩ := stC X13 hx hZ e13 Ar16 (j := (1 : Int32)) hin16 (g := (mkF m 106 #[.val (.int x0), .val (.int x1), .val (.int x2), .val (.int x3), .val (.int nn), .val (.int (x1 &&& (255 : Int32))), .val (.int (x2 &&& (255 : Int32))), .val (.ref b1), .val (.ref b10), .unset, .unset, .unset] [(.int c4), (.int (1 : Int32)), (.ref b10)])) rfl rfl (hb hby at_106)
  have CR16 := CHr.trans CR13 (CHr.wr W16 (Safe.arv hZo.alike V13 (by decide)) CR13.1)
  have V16 : Arv Z h16 b10 k10 .char (2 : Int32) [(.int c2), (.int c4)] (.int (0 : Int32)) := (by have q := Arv.set Ar16 q16 S16 N16' H16 G16 (fits_nar_char _) W16 1 rfl (Nat.le_of_ble_eq_true rfl); rw [own_char (own_hexc Hc4)] at q; exact q)
  have N16 := Fr.snoc X16 N13 ge_b10
  refine Ends.pre (T' := T16.setTop (mkF m 107 #[.val (.int x0), .val (.int x1), .val (.int x2), .val (.int x3), .val (.int nn), .val (.int (x1 &&& (255 : Int32))), .val (.int (x2 &&& (255 : Int32))), .val (.ref b1), .val (.ref b10), .unset, .unset, .unset] [])) (fun t k => st16 _ k) ?_
  have K16 : Keep h0 h16 [] := K13.wr W16 (Or.inr sz_b10)
  refine Ends.pre (T' := T16.setTop (mkF m 108 #[.val (.int x0), .val (.int x1), .val (.int x2), .val (.int x3), .val (.int nn), .val (.int (x1 &&& (255 : Int32))), .val (.int (x2 &&& (255 : Int32))), .val (.ref b1), .val (.ref b10), .unset, .unset, .unset] [(.int (0 : Int32))])) (fun t k => XS.iconst X16.here hx rfl (hb hby at_107) k) ?_
  obtain ⟨T17, h17, k17, X17, e17, E17, A17, st17⟩ := newP X16 hx hZ (hw _ (List.mem_of_getElem? (i := 1) rfl)) e16 (g := (mkF m 108 #[.val (.int x0), .val (.int x1), .val (.int x2), .val (.int x3), .val (.int nn), .val (.int (x1 &&& (255 : Int32))), .val (.int (x2 &&& (255 : Int32))), .val (.ref b1), .val (.ref b10), .unset, .unset, .unset] [(.int (0 : Int32))])) rfl (hb hby at_108) rfl (by decide) (cap := 0) (by decide) (by decide) (by decide) (by decide)
  obtain ⟨b17, g17⟩ : ∃ z, z = h16.size := ⟨_, rfl⟩
  rw [← g17] at A17 st17
  have ge_b17 : n0 ≤ b17 := Nat.le_trans (Nat.le_trans (Nat.le_trans (Nat.le_trans (Nat.le_trans (Nat.le_trans (Nat.le_trans (Nat.le_trans (Nat.le_trans Z0 E1.1) (Keep.of_wr W3).1) (Keep.of_wr W5).1) (Keep.of_wr W7).1) (Keep.of_wr W9).1) E10.1) (Keep.of_wr W13).1) (Keep.of_wr W16).1) (Nat.le_of_eq g17.symm)
  have sz_b17 : h0.size ≤ b17 := Nat.le_trans K16.1 (Nat.le_of_eq g17.symm)
  have CR17 := CHr.trans CR16 (CHr.ext E17 CR16.1)
  have K17 : Keep h0 h17 [] := K16.ext E17
  have V17 : Arv Z h17 b17 k17 .char (0 : Int32) [] (.int (0 : Int32)) := (Arv.new A17 (by decide))
  refine Ends.pre (T' := T17.setTop (mkF m 110 #[.val (.int x0), .val (.int x1), .val (.int x2), .val (.int x3), .val (.int nn), .val (.int (x1 &&& (255 : Int32))), .val (.int (x2 &&& (255 : Int32))), .val (.ref b1), .val (.ref b10), .unset, .unset, .unset] [(.ref b17)])) (fun t k => st17 _ k) ?_
  refine Ends.pre (T' := T17.setTop (mkF m 112 #[.val (.int x0), .val (.int x1), .val (.int x2), .val (.int x3), .val (.int nn), .val (.int (x1 &&& (255 : Int32))), .val (.int (x2 &&& (255 : Int32))), .val (.ref b1), .val (.ref b10), .val (.ref b17), .unset, .unset] [])) (fun t k => XS.astore X17.here hx rfl (hb hby at_110) rfl rfl (l' := #[.val (.int x0), .val (.int x1), .val (.int x2), .val (.int x3), .val (.int nn), .val (.int (x1 &&& (255 : Int32))), .val (.int (x2 &&& (255 : Int32))), .val (.ref b1), .val (.ref b10), .val (.ref b17), .unset, .unset]) rfl k) ?_
  rcases (hv_nn ▸ own_m3 x0 : nn = 0 ∨ nn = 1 ∨ nn = 2) with rfl | rfl | rfl
  · refine Ends.pre (T' := T17.setTop (mkF m 114 #[.val (.int x0), .val (.int x1), .val (.int x2), .val (.int x3), .val (.int (0 : Int32)), .val (.int (x1 &&& (255 : Int32))), .val (.int (x2 &&& (255 : Int32))), .val (.ref b1), .val (.ref b10), .val (.ref b17), .unset, .unset] [(.int (0 : Int32))])) (fun t k => XS.iload X17.here hx rfl (hb hby at_112) rfl k) ?_
    refine Ends.pre (T' := T17.setTop (mkF m 117 #[.val (.int x0), .val (.int x1), .val (.int x2), .val (.int x3), .val (.int (0 : Int32)), .val (.int (x1 &&& (255 : Int32))), .val (.int (x2 &&& (255 : Int32))), .val (.ref b1), .val (.ref b10), .val (.ref b17), .unset, .unset] [])) (fun t k => XS.ifNo X17.here hx rfl (hb hby at_114) rfl (by decide) k) ?_
    obtain ⟨T18, h18, X18, e18, E18, A18, D18, -, st18⟩ := newO X17 hx hZ hown (hw _ (List.mem_of_getElem? (i := 6) rfl)) (hw _ (List.mem_of_getElem? (i := 7) rfl)) (hw _ (List.mem_of_getElem? (i := 8) rfl)) e17 (g := (mkF m 117 #[.val (.int x0), .val (.int x1), .val (.int x2), .val (.int x3), .val (.int (0 : Int32)), .val (.int (x1 &&& (255 : Int32))), .val (.int (x2 &&& (255 : Int32))), .val (.ref b1), .val (.ref b10), .val (.ref b17), .unset, .unset] [])) rfl (hb hby at_117) (by decide) (by decide)
    obtain ⟨b18, g18⟩ : ∃ z, z = h17.size := ⟨_, rfl⟩
    rw [← g18] at A18 D18 st18
    have ge_b18 : n0 ≤ b18 := Nat.le_trans (Nat.le_trans (Nat.le_trans (Nat.le_trans (Nat.le_trans (Nat.le_trans (Nat.le_trans (Nat.le_trans (Nat.le_trans (Nat.le_trans Z0 E1.1) (Keep.of_wr W3).1) (Keep.of_wr W5).1) (Keep.of_wr W7).1) (Keep.of_wr W9).1) E10.1) (Keep.of_wr W13).1) (Keep.of_wr W16).1) E17.1) (Nat.le_of_eq g18.symm)
    have sz_b18 : h0.size ≤ b18 := Nat.le_trans K17.1 (Nat.le_of_eq g18.symm)
    have CR18 := CHr.trans CR17 (CHr.ext E18 CR17.1)
    have K18 : Keep h0 h18 [] := K17.ext E18
    have Fd18_value : Fld Z h18 b18 "java/lang/String" "value" "[B" .null := D18 (Or.inr (hw _ (List.mem_of_getElem? (i := 21) rfl))) (ty := (.array .byte)) (by decide)
    have Fd18_coder : Fld Z h18 b18 "java/lang/String" "coder" "B" (.int (0 : Int32)) := D18 (Or.inr (hw _ (List.mem_of_getElem? (i := 22) rfl))) (ty := .byte) (by decide)
    refine Ends.pre (T' := T18.setTop (mkF m 120 #[.val (.int x0), .val (.int x1), .val (.int x2), .val (.int x3), .val (.int (0 : Int32)), .val (.int (x1 &&& (255 : Int32))), .val (.int (x2 &&& (255 : Int32))), .val (.ref b1), .val (.ref b10), .val (.ref b17), .unset, .unset] [(.ref b18)])) (fun t k => st18 _ k) ?_
    refine Ends.pre (T' := T18.setTop (mkF m 121 #[.val (.int x0), .val (.int x1), .val (.int x2), .val (.int x3), .val (.int (0 : Int32)), .val (.int (x1 &&& (255 : Int32))), .val (.int (x2 &&& (255 : Int32))), .val (.ref b1), .val (.ref b10), .val (.ref b17), .unset, .unset] [(.ref b18), (.ref b18)])) (fun t k => XS.dup X18.here hx rfl (hb hby at_120) rfl rfl k) ?_
    refine Ends.pre (T' := T18.setTop (mkF m 123 #[.val (.int x0), .val (.int x1), .val (.int x2), .val (.int x3), .val (.int (0 : Int32)), .val (.int (x1 &&& (255 : Int32))), .val (.int (x2 &&& (255 : Int32))), .val (.ref b1), .val (.ref b10), .val (.ref b17), .unset, .unset] [(.ref b17), (.ref b18), (.ref b18)])) (fun t k => XS.aload X18.here hx rfl (hb hby at_121) rfl rfl k) ?_
    have F19 : Arv Z h18 b17 k17 .char (0 : Int32) [] (.int (0 : Int32)) := (Arv.ext V17 E18)
    obtain ⟨_, _, ⟨T20, L20, k20, n20⟩, -, Xa20, hSa20, ga20, ⟨Lc20, hQ20, l20, y20, z20, CRc20⟩, st20⟩ := X18.specialBackS hx (y := (⟨"java/lang/String", "<init>", "([C)V"⟩ : MethodName)) rfl hown (mvT hZ (hw _ (List.mem_of_getElem? (i := 9) rfl))) (mvT hZ (hw _ (List.mem_of_getElem? (i := 10) rfl))) (mvT hZ (hw _ (List.mem_of_getElem? (i := 11) rfl))) (by decide) (backOfSH (W := 1) (rm_e1 l Z a0 hw [] b18 b17 k17 h18 n0 (Nat.le_trans (Nat.le_trans (Nat.le_trans (Nat.le_trans (Nat.le_trans (Nat.le_trans (Nat.le_trans (Nat.le_trans (Nat.le_trans (Nat.le_trans Z0 E1.1) (Keep.of_wr W3).1) (Keep.of_wr W5).1) (Keep.of_wr W7).1) (Keep.of_wr W9).1) E10.1) (Keep.of_wr W13).1) (Keep.of_wr W16).1) E17.1) E18.1) A18 Fd18_value Fd18_coder ge_b18 F19) hZ (hw _ (List.mem_of_getElem? (i := 11) rfl)) (hw _ (List.mem_of_getElem? (i := 8) rfl)) (by decide) (by decide) hEL CR18.1) (g := (mkF m 123 #[.val (.int x0), .val (.int x1), .val (.int x2), .val (.int x3), .val (.int (0 : Int32)), .val (.int (x1 &&& (255 : Int32))), .val (.int (x2 &&& (255 : Int32))), .val (.ref b1), .val (.ref b10), .val (.ref b17), .unset, .unset] [(.ref b17), (.ref b18), (.ref b18)])) rfl (by rw [hml]; rfl) (Steps.refl _) (a := b18) (argsL := [(.ref b17)]) (rest := [(.ref b18)]) (lenOf pd_5 rfl) rfl (by show 2 * 0 + _ ≤ _; exact Nat.le_of_eq rfl) (hb hby at_123) (fun _ _ => ⟨rfl, e18, (by decide : 4 + 4 ≤ _), (by decide : 10 + 8 ≤ _)⟩)
    dsimp only [Pt.U, Pt.locs, Pt.cells, Pt.slots] at Xa20 hSa20 ga20 l20 y20 z20 st20 hQ20 CRc20
    subst l20 y20 z20
    obtain ⟨X20, hS20, hZ20, hown20⟩ := rebS hS0 (n1 := T18.heap.size) (by rw [e18]; exact (Nat.le_trans (Nat.le_trans (Nat.le_trans (Nat.le_trans (Nat.le_trans (Nat.le_trans (Nat.le_trans (Nat.le_trans (Nat.le_trans (Nat.le_trans hk0 E1.1) (Keep.of_wr W3).1) (Keep.of_wr W5).1) (Keep.of_wr W7).1) (Keep.of_wr W9).1) E10.1) (Keep.of_wr W13).1) (Keep.of_wr W16).1) E17.1) E18.1)) Xa20 hSa20 ga20 hZ hown
    obtain ⟨rfl, N20q, Kc20, Es20, Cs20, t20, kb20, Vs20, As20⟩ := hQ20
    have N20 := Fr.app N16 N20q
    have K20 : Keep h0 T20.heap [] := K18.trans Kc20 (allS (Or.inr sz_b18) all0)
    have CR20 := CHr.trans CR18 CRc20
    have hcd20 : StrChars.Road.CodA ([] : List Int32) 0 (0 : Int32) [] := own_lit rfl rfl own_al0
    have hbd20 : ∀ c ∈ ([] : List Int32), ¬ c < 0 ∧ ¬ (65535 : Int32) < c := own_al0
    refine Ends.pre (T' := T20.setTop (mkF m 126 #[.val (.int x0), .val (.int x1), .val (.int x2), .val (.int x3), .val (.int (0 : Int32)), .val (.int (x1 &&& (255 : Int32))), .val (.int (x2 &&& (255 : Int32))), .val (.ref b1), .val (.ref b10), .val (.ref b17), .unset, .unset] [(.ref b18)])) (fun t k => st20.trans k) ?_
    refine Ends.pre (T' := T20.setTop (mkF m 128 #[.val (.int x0), .val (.int x1), .val (.int x2), .val (.int x3), .val (.int (0 : Int32)), .val (.int (x1 &&& (255 : Int32))), .val (.int (x2 &&& (255 : Int32))), .val (.ref b1), .val (.ref b10), .val (.ref b17), .val (.ref b18), .unset] [])) (fun t k => XS.astore X20.here hx rfl (hb hby at_126) rfl rfl (l' := #[.val (.int x0), .val (.int x1), .val (.int x2), .val (.int x3), .val (.int (0 : Int32)), .val (.int (x1 &&& (255 : Int32))), .val (.int (x2 &&& (255 : Int32))), .val (.ref b1), .val (.ref b10), .val (.ref b17), .val (.ref b18), .unset]) rfl k) ?_
    refine Ends.pre (T' := T20.setTop (mkF m 162 #[.val (.int x0), .val (.int x1), .val (.int x2), .val (.int x3), .val (.int (0 : Int32)), .val (.int (x1 &&& (255 : Int32))), .val (.int (x2 &&& (255 : Int32))), .val (.ref b1), .val (.ref b10), .val (.ref b17), .val (.ref b18), .unset] [])) (fun t k => XS.goto X20.here hx rfl (pc0 := 128) (pc' := 162) rfl (hb hby at_128) (by decide) (by decide) k) ?_
    refine Ends.pre (T' := T20.setTop (mkF m 164 #[.val (.int x0), .val (.int x1), .val (.int x2), .val (.int x3), .val (.int (0 : Int32)), .val (.int (x1 &&& (255 : Int32))), .val (.int (x2 &&& (255 : Int32))), .val (.ref b1), .val (.ref b10), .val (.ref b17), .val (.ref b18), .unset] [(.ref b18)])) (fun t k => XS.aload X20.here hx rfl (hb hby at_162) rfl rfl k) ?_
    have F21 : Sta Z T20.heap "java/lang/String" "COMPACT_STRINGS" "Z" (.int cz) := (Sta_keep0 SCS K20)
    have F22 : Sta Z T20.heap "jdk/internal/util/Preconditions" "SIOOBE_FORMATTER" "Ljava/util/function/BiFunction;" fm := (Sta_keep0 SFM K20)
    obtain ⟨_, _, ⟨T23, L23, k23, n23⟩, -, X23, ⟨Lc23, hQ23, l23, y23, z23⟩, st23⟩ := Jvm.LawKit.callS X20 hx (y := (⟨"com/example/wireform/wireform/Hex", "parse", "(Ljava/lang/String;)[B"⟩ : MethodName)) hown20 (mvT hZ20 (hw _ (List.mem_of_getElem? (i := 27) rfl))) (mvT hZ20 (hw _ (List.mem_of_getElem? (i := 28) rfl))) (mvT hZ20 (hw _ (List.mem_of_getElem? (i := 29) rfl))) (mvT hZ20 (hw _ (List.mem_of_getElem? (i := 30) rfl))) (by decide) (backOf (W := 0) (rm5_0 l Z a0 hw [] b18 t20 kb20  cz fm T20.heap n0 (Nat.le_trans (Nat.le_trans (Nat.le_trans (Nat.le_trans (Nat.le_trans (Nat.le_trans (Nat.le_trans (Nat.le_trans (Nat.le_trans (Nat.le_trans (Nat.le_trans Z0 E1.1) (Keep.of_wr W3).1) (Keep.of_wr W5).1) (Keep.of_wr W7).1) (Keep.of_wr W9).1) E10.1) (Keep.of_wr W13).1) (Keep.of_wr W16).1) E17.1) E18.1) Kc20.1) Es20 Cs20 Vs20 As20  F21 hcz F22 hfm) hZ20 (hw _ (List.mem_of_getElem? (i := 30) rfl)) (hw _ (List.mem_of_getElem? (i := 29) rfl)) (by decide) (by decide)) (g := (mkF m 164 #[.val (.int x0), .val (.int x1), .val (.int x2), .val (.int x3), .val (.int (0 : Int32)), .val (.int (x1 &&& (255 : Int32))), .val (.int (x2 &&& (255 : Int32))), .val (.ref b1), .val (.ref b10), .val (.ref b17), .val (.ref b18), .unset] [(.ref b18)])) rfl (by rw [hml]; rfl) (argsL := [(.ref b18)]) (rest := []) (lenOf pd_6 rfl) rfl (by show 2 * 0 + _ ≤ _; exact Nat.le_of_eq rfl) (hb hby at_164) (fun _ _ => ⟨rfl, rfl, (by decide : 8 + 1 ≤ _), (by decide : 18 + 0 ≤ _)⟩)
    dsimp only [Pt.U, Pt.locs, Pt.cells, Pt.slots] at X23 l23 y23 z23 st23 hQ23
    subst l23 y23 z23
    obtain ⟨r23, kr23, hQ23⟩ := hQ23
    obtain ⟨rfl, N23q, Kc23, Vr23⟩ := hQ23
    have N23 := Fr.app N20 N23q
    have K23 : Keep h0 T23.heap [] := K20.trans Kc23 all0
    have CR23 := CHr.trans CR20 (CHr.keep Kc23 sf0 CR20.1)
    refine Ends.pre (T' := T23.setTop (mkF m 167 #[.val (.int x0), .val (.int x1), .val (.int x2), .val (.int x3), .val (.int (0 : Int32)), .val (.int (x1 &&& (255 : Int32))), .val (.int (x2 &&& (255 : Int32))), .val (.ref b1), .val (.ref b10), .val (.ref b17), .val (.ref b18), .unset] [(.ref r23)])) (fun t k => st23 _ k) ?_
    refine Ends.pre (T' := T23.setTop (mkF m 169 #[.val (.int x0), .val (.int x1), .val (.int x2), .val (.int x3), .val (.int (0 : Int32)), .val (.int (x1 &&& (255 : Int32))), .val (.int (x2 &&& (255 : Int32))), .val (.ref b1), .val (.ref b10), .val (.ref b17), .val (.ref b18), .val (.ref r23)] [])) (fun t k => XS.astore X23.here hx rfl (hb hby at_167) rfl rfl (l' := #[.val (.int x0), .val (.int x1), .val (.int x2), .val (.int x3), .val (.int (0 : Int32)), .val (.int (x1 &&& (255 : Int32))), .val (.int (x2 &&& (255 : Int32))), .val (.ref b1), .val (.ref b10), .val (.ref b17), .val (.ref b18), .val (.ref r23)]) rfl k) ?_
    refine Ends.pre (T' := T23.setTop (mkF m 171 #[.val (.int x0), .val (.int x1), .val (.int x2), .val (.int x3), .val (.int (0 : Int32)), .val (.int (x1 &&& (255 : Int32))), .val (.int (x2 &&& (255 : Int32))), .val (.ref b1), .val (.ref b10), .val (.ref b17), .val (.ref b18), .val (.ref r23)] [(.ref r23)])) (fun t k => XS.aload X23.here hx rfl (hb hby at_169) rfl rfl k) ?_
    obtain ⟨cl24, Ar24, q24, S24, N24', H24, G24⟩ := id Vr23
    refine Ends.pre (T' := T23.setTop (mkF m 172 #[.val (.int x0), .val (.int x1), .val (.int x2), .val (.int x3), .val (.int (0 : Int32)), .val (.int (x1 &&& (255 : Int32))), .val (.int (x2 &&& (255 : Int32))), .val (.ref b1), .val (.ref b10), .val (.ref b17), .val (.ref b18), .val (.ref r23)] [(.int (0 : Int32))])) (fun t k => X23.arraylength hx Ar24.1 (State.isArrayOf_alike hZ20.alike Ar24.2.1) (g := (mkF m 171 #[.val (.int x0), .val (.int x1), .val (.int x2), .val (.int x3), .val (.int (0 : Int32)), .val (.int (x1 &&& (255 : Int32))), .val (.int (x2 &&& (255 : Int32))), .val (.ref b1), .val (.ref b10), .val (.ref b17), .val (.ref b18), .val (.ref r23)] [(.ref r23)])) rfl rfl (hb hby at_171) _ (by rw [len_of S24 N24']; exact k)) ?_
    refine Ends.pre (T' := T23.setTop (mkF m 174 #[.val (.int x0), .val (.int x1), .val (.int x2), .val (.int x3), .val (.int (0 : Int32)), .val (.int (x1 &&& (255 : Int32))), .val (.int (x2 &&& (255 : Int32))), .val (.ref b1), .val (.ref b10), .val (.ref b17), .val (.ref b18), .val (.ref r23)] [(.int (0 : Int32)), (.int (0 : Int32))])) (fun t k => XS.iload X23.here hx rfl (hb hby at_172) rfl k) ?_
    refine Ends.pre (T' := T23.setTop (mkF m 179 #[.val (.int x0), .val (.int x1), .val (.int x2), .val (.int x3), .val (.int (0 : Int32)), .val (.int (x1 &&& (255 : Int32))), .val (.int (x2 &&& (255 : Int32))), .val (.ref b1), .val (.ref b10), .val (.ref b17), .val (.ref b18), .val (.ref r23)] [])) (fun t k => XS.icmpYes X23.here hx rfl (pc0 := 174) (pc' := 179) rfl (hb hby at_174) rfl (by decide) (by decide) (by decide) k) ?_
    refine Ends.pre (T' := T23.setTop (mkF m 181 #[.val (.int x0), .val (.int x1), .val (.int x2), .val (.int x3), .val (.int (0 : Int32)), .val (.int (x1 &&& (255 : Int32))), .val (.int (x2 &&& (255 : Int32))), .val (.ref b1), .val (.ref b10), .val (.ref b17), .val (.ref b18), .val (.ref r23)] [(.int (0 : Int32))])) (fun t k => XS.iload X23.here hx rfl (hb hby at_179) rfl k) ?_
    refine Ends.pre (T' := T23.setTop (mkF m 182 #[.val (.int x0), .val (.int x1), .val (.int x2), .val (.int x3), .val (.int (0 : Int32)), .val (.int (x1 &&& (255 : Int32))), .val (.int (x2 &&& (255 : Int32))), .val (.ref b1), .val (.ref b10), .val (.ref b17), .val (.ref b18), .val (.ref r23)] [(.int (1 : Int32)), (.int (0 : Int32))])) (fun t k => XS.iconst X23.here hx rfl (hb hby at_181) k) ?_
    refine Ends.pre (T' := T23.setTop (mkF m 197 #[.val (.int x0), .val (.int x1), .val (.int x2), .val (.int x3), .val (.int (0 : Int32)), .val (.int (x1 &&& (255 : Int32))), .val (.int (x2 &&& (255 : Int32))), .val (.ref b1), .val (.ref b10), .val (.ref b17), .val (.ref b18), .val (.ref r23)] [])) (fun t k => XS.icmpYes X23.here hx rfl (pc0 := 182) (pc' := 197) rfl (hb hby at_182) rfl (by decide) (by decide) (by decide) k) ?_
    refine Ends.pre (T' := T23.setTop (mkF m 199 #[.val (.int x0), .val (.int x1), .val (.int x2), .val (.int x3), .val (.int (0 : Int32)), .val (.int (x1 &&& (255 : Int32))), .val (.int (x2 &&& (255 : Int32))), .val (.ref b1), .val (.ref b10), .val (.ref b17), .val (.ref b18), .val (.ref r23)] [(.int (0 : Int32))])) (fun t k => XS.iload X23.here hx rfl (hb hby at_197) rfl k) ?_
    refine Ends.pre (T' := T23.setTop (mkF m 200 #[.val (.int x0), .val (.int x1), .val (.int x2), .val (.int x3), .val (.int (0 : Int32)), .val (.int (x1 &&& (255 : Int32))), .val (.int (x2 &&& (255 : Int32))), .val (.ref b1), .val (.ref b10), .val (.ref b17), .val (.ref b18), .val (.ref r23)] [(.int (2 : Int32)), (.int (0 : Int32))])) (fun t k => XS.iconst X23.here hx rfl (hb hby at_199) k) ?_
    refine Ends.pre (T' := T23.setTop (mkF m 215 #[.val (.int x0), .val (.int x1), .val (.int x2), .val (.int x3), .val (.int (0 : Int32)), .val (.int (x1 &&& (255 : Int32))), .val (.int (x2 &&& (255 : Int32))), .val (.ref b1), .val (.ref b10), .val (.ref b17), .val (.ref b18), .val (.ref r23)] [])) (fun t k => XS.icmpYes X23.here hx rfl (pc0 := 200) (pc' := 215) rfl (hb hby at_200) rfl (by decide) (by decide) (by decide) k) ?_
    refine Ends.pre (T' := T23.setTop (mkF m 216 #[.val (.int x0), .val (.int x1), .val (.int x2), .val (.int x3), .val (.int (0 : Int32)), .val (.int (x1 &&& (255 : Int32))), .val (.int (x2 &&& (255 : Int32))), .val (.ref b1), .val (.ref b10), .val (.ref b17), .val (.ref b18), .val (.ref r23)] [(.int (1 : Int32))])) (fun t k => XS.iconst X23.here hx rfl (hb hby at_215) k) ?_
    exact Ends.retW (w := (.int (1 : Int32))) X23 hx Bd.notSynchronized Bd.returns rfl (Or.inl ⟨rfl, Or.inr (Or.inl rfl), _, rfl⟩) (hb hby at_216) rfl hZ20 hEL hS20 (Nat.le_trans (Nat.le_refl _) Kc23.1) hh CR23 ⟨rfl, N23⟩ (by decide) (by decide)
  · refine Ends.pre (T' := T17.setTop (mkF m 114 #[.val (.int x0), .val (.int x1), .val (.int x2), .val (.int x3), .val (.int (1 : Int32)), .val (.int (x1 &&& (255 : Int32))), .val (.int (x2 &&& (255 : Int32))), .val (.ref b1), .val (.ref b10), .val (.ref b17), .unset, .unset] [(.int (1 : Int32))])) (fun t k => XS.iload X17.here hx rfl (hb hby at_112) rfl k) ?_
    refine Ends.pre (T' := T17.setTop (mkF m 131 #[.val (.int x0), .val (.int x1), .val (.int x2), .val (.int x3), .val (.int (1 : Int32)), .val (.int (x1 &&& (255 : Int32))), .val (.int (x2 &&& (255 : Int32))), .val (.ref b1), .val (.ref b10), .val (.ref b17), .unset, .unset] [])) (fun t k => XS.ifYes X17.here hx rfl (pc0 := 114) (pc' := 131) rfl (hb hby at_114) rfl (by decide) (by decide) (by decide) k) ?_
    refine Ends.pre (T' := T17.setTop (mkF m 133 #[.val (.int x0), .val (.int x1), .val (.int x2), .val (.int x3), .val (.int (1 : Int32)), .val (.int (x1 &&& (255 : Int32))), .val (.int (x2 &&& (255 : Int32))), .val (.ref b1), .val (.ref b10), .val (.ref b17), .unset, .unset] [(.int (1 : Int32))])) (fun t k => XS.iload X17.here hx rfl (hb hby at_131) rfl k) ?_
    refine Ends.pre (T' := T17.setTop (mkF m 134 #[.val (.int x0), .val (.int x1), .val (.int x2), .val (.int x3), .val (.int (1 : Int32)), .val (.int (x1 &&& (255 : Int32))), .val (.int (x2 &&& (255 : Int32))), .val (.ref b1), .val (.ref b10), .val (.ref b17), .unset, .unset] [(.int (1 : Int32)), (.int (1 : Int32))])) (fun t k => XS.iconst X17.here hx rfl (hb hby at_133) k) ?_
    refine Ends.pre (T' := T17.setTop (mkF m 137 #[.val (.int x0), .val (.int x1), .val (.int x2), .val (.int x3), .val (.int (1 : Int32)), .val (.int (x1 &&& (255 : Int32))), .val (.int (x2 &&& (255 : Int32))), .val (.ref b1), .val (.ref b10), .val (.ref b17), .unset, .unset] [])) (fun t k => XS.icmpNo X17.here hx rfl (hb hby at_134) rfl (by decide) k) ?_
    obtain ⟨T25, h25, X25, e25, E25, A25, D25, -, st25⟩ := newO X17 hx hZ hown (hw _ (List.mem_of_getElem? (i := 6) rfl)) (hw _ (List.mem_of_getElem? (i := 7) rfl)) (hw _ (List.mem_of_getElem? (i := 8) rfl)) e17 (g := (mkF m 137 #[.val (.int x0), .val (.int x1), .val (.int x2), .val (.int x3), .val (.int (1 : Int32)), .val (.int (x1 &&& (255 : Int32))), .val (.int (x2 &&& (255 : Int32))), .val (.ref b1), .val (.ref b10), .val (.ref b17), .unset, .unset] [])) rfl (hb hby at_137) (by decide) (by decide)
    obtain ⟨b25, g25⟩ : ∃ z, z = h17.size := ⟨_, rfl⟩
    rw [← g25] at A25 D25 st25
    have ge_b25 : n0 ≤ b25 := Nat.le_trans (Nat.le_trans (Nat.le_trans (Nat.le_trans (Nat.le_trans (Nat.le_trans (Nat.le_trans (Nat.le_trans (Nat.le_trans (Nat.le_trans Z0 E1.1) (Keep.of_wr W3).1) (Keep.of_wr W5).1) (Keep.of_wr W7).1) (Keep.of_wr W9).1) E10.1) (Keep.of_wr W13).1) (Keep.of_wr W16).1) E17.1) (Nat.le_of_eq g25.symm)
    have sz_b25 : h0.size ≤ b25 := Nat.le_trans K17.1 (Nat.le_of_eq g25.symm)
    have CR25 := CHr.trans CR17 (CHr.ext E25 CR17.1)
    have K25 : Keep h0 h25 [] := K17.ext E25
    have Fd25_value : Fld Z h25 b25 "java/lang/String" "value" "[B" .null := D25 (Or.inr (hw _ (List.mem_of_getElem? (i := 21) rfl))) (ty := (.array .byte)) (by decide)
    have Fd25_coder : Fld Z h25 b25 "java/lang/String" "coder" "B" (.int (0 : Int32)) := D25 (Or.inr (hw _ (List.mem_of_getElem? (i := 22) rfl))) (ty := .byte) (by decide)
    refine Ends.pre (T' := T25.setTop (mkF m 140 #[.val (.int x0), .val (.int x1), .val (.int x2), .val (.int x3), .val (.int (1 : Int32)), .val (.int (x1 &&& (255 : Int32))), .val (.int (x2 &&& (255 : Int32))), .val (.ref b1), .val (.ref b10), .val (.ref b17), .unset, .unset] [(.ref b25)])) (fun t k => st25 _ k) ?_
    refine Ends.pre (T' := T25.setTop (mkF m 141 #[.val (.int x0), .val (.int x1), .val (.int x2), .val (.int x3), .val (.int (1 : Int32)), .val (.int (x1 &&& (255 : Int32))), .val (.int (x2 &&& (255 : Int32))), .val (.ref b1), .val (.ref b10), .val (.ref b17), .unset, .unset] [(.ref b25), (.ref b25)])) (fun t k => XS.dup X25.here hx rfl (hb hby at_140) rfl rfl k) ?_
    refine Ends.pre (T' := T25.setTop (mkF m 143 #[.val (.int x0), .val (.int x1), .val (.int x2), .val (.int x3), .val (.int (1 : Int32)), .val (.int (x1 &&& (255 : Int32))), .val (.int (x2 &&& (255 : Int32))), .val (.ref b1), .val (.ref b10), .val (.ref b17), .unset, .unset] [(.ref b10), (.ref b25), (.ref b25)])) (fun t k => XS.aload X25.here hx rfl (hb hby at_141) rfl rfl k) ?_
    have hp26 : ∀ c ∈ ([c2, c4] : List Int32), ¬ c < 0 ∧ ¬ (255 : Int32) < c := (own_alS (own_hexc Hc2) (own_alS (own_hexc Hc4) own_al0))
    have hbd26 := own_up _ hp26
    have F27 : Arv Z h25 b10 k10 .char (2 : Int32) [(.int c2), (.int c4)] (.int (0 : Int32)) := (Arv.ext (Arv.ext V16 E17) E25)
    have F28 : Sta Z h25 "java/lang/String" "COMPACT_STRINGS" "Z" (.int cz) := (Sta_keep0 SCS K25)
    obtain ⟨_, _, ⟨T29, L29, k29, n29⟩, -, X29, ⟨Lc29, hQ29, l29, y29, z29⟩, st29⟩ := X25.specialBack hx (y := (⟨"java/lang/String", "<init>", "([C)V"⟩ : MethodName)) rfl hown (mvT hZ (hw _ (List.mem_of_getElem? (i := 9) rfl))) (mvT hZ (hw _ (List.mem_of_getElem? (i := 10) rfl))) (mvT hZ (hw _ (List.mem_of_getElem? (i := 11) rfl))) (by decide) (StrChars.Road.backV (W := 1) hZ (own_hws hw) (kI := 4) (hw _ (List.mem_of_getElem? (i := 7) rfl)) (cs := ([c2, c4] : List Int32)) (bs := (([c2, c4] : List Int32).map (fun c => c.toInt8.toInt32))) (n := 2) ge_b25 (Nat.le_trans (Nat.le_trans (Nat.le_trans (Nat.le_trans (Nat.le_trans (Nat.le_trans (Nat.le_trans (Nat.le_trans (Nat.le_trans (Nat.le_trans Z0 E1.1) (Keep.of_wr W3).1) (Keep.of_wr W5).1) (Keep.of_wr W7).1) (Keep.of_wr W9).1) E10.1) (Keep.of_wr W13).1) (Keep.of_wr W16).1) E17.1) E25.1) A25 Fd25_value Fd25_coder F27 F28 hcz rfl rfl (by decide) (by decide) hp26 rfl (by decide) (by decide)) (g := (mkF m 143 #[.val (.int x0), .val (.int x1), .val (.int x2), .val (.int x3), .val (.int (1 : Int32)), .val (.int (x1 &&& (255 : Int32))), .val (.int (x2 &&& (255 : Int32))), .val (.ref b1), .val (.ref b10), .val (.ref b17), .unset, .unset] [(.ref b10), (.ref b25), (.ref b25)])) rfl (by rw [hml]; rfl) (Steps.refl _) (a := b25) (argsL := [(.ref b10)]) (rest := [(.ref b25)]) (lenOf pd_5 rfl) rfl (by show 2 * 0 + _ ≤ _; exact Nat.le_of_eq rfl) (hb hby at_143) (fun _ _ => ⟨rfl, e25, (by decide : 4 + 1 ≤ _), (by decide : 10 + 2 ≤ _)⟩)
    dsimp only [Pt.U, Pt.locs, Pt.cells, Pt.slots] at X29 l29 y29 z29 st29 hQ29
    subst l29 y29 z29
    obtain ⟨rfl, N29q, Kc29, Es29, Cs29, t29, kb29, gt29, ft29, nt29, Vs29, As29⟩ := hQ29
    have N29 := Fr.app N16 N29q
    have K29 : Keep h0 T29.heap [] := K25.trans Kc29 (allS (Or.inr sz_b25) all0)
    have CR29 := CHr.trans CR25 (CHr.keep Kc29 (sfS (Safe.ext E25 CR17.1 (Safe.new (Nat.le_of_eq g25.symm))) sf0) CR25.1)
    have hcd29 : StrChars.Road.CodA ([c2, c4] : List Int32) 0 (2 : Int32) ((([c2, c4] : List Int32).map (fun c => c.toInt8.toInt32)).map Value.int) := StrChars.Road.codOf (n := 2) rfl (fun c hc => (hp26 c hc).2)
    refine Ends.pre (T' := T29.setTop (mkF m 146 #[.val (.int x0), .val (.int x1), .val (.int x2), .val (.int x3), .val (.int (1 : Int32)), .val (.int (x1 &&& (255 : Int32))), .val (.int (x2 &&& (255 : Int32))), .val (.ref b1), .val (.ref b10), .val (.ref b17), .unset, .unset] [(.ref b25)])) (fun t k => st29.trans k) ?_
    refine Ends.pre (T' := T29.setTop (mkF m 148 #[.val (.int x0), .val (.int x1), .val (.int x2), .val (.int x3), .val (.int (1 : Int32)), .val (.int (x1 &&& (255 : Int32))), .val (.int (x2 &&& (255 : Int32))), .val (.ref b1), .val (.ref b10), .val (.ref b17), .val (.ref b25), .unset] [])) (fun t k => XS.astore X29.here hx rfl (hb hby at_146) rfl rfl (l' := #[.val (.int x0), .val (.int x1), .val (.int x2), .val (.int x3), .val (.int (1 : Int32)), .val (.int (x1 &&& (255 : Int32))), .val (.int (x2 &&& (255 : Int32))), .val (.ref b1), .val (.ref b10), .val (.ref b17), .val (.ref b25), .unset]) rfl k) ?_
    refine Ends.pre (T' := T29.setTop (mkF m 162 #[.val (.int x0), .val (.int x1), .val (.int x2), .val (.int x3), .val (.int (1 : Int32)), .val (.int (x1 &&& (255 : Int32))), .val (.int (x2 &&& (255 : Int32))), .val (.ref b1), .val (.ref b10), .val (.ref b17), .val (.ref b25), .unset] [])) (fun t k => XS.goto X29.here hx rfl (pc0 := 148) (pc' := 162) rfl (hb hby at_148) (by decide) (by decide) k) ?_
    refine Ends.pre (T' := T29.setTop (mkF m 164 #[.val (.int x0), .val (.int x1), .val (.int x2), .val (.int x3), .val (.int (1 : Int32)), .val (.int (x1 &&& (255 : Int32))), .val (.int (x2 &&& (255 : Int32))), .val (.ref b1), .val (.ref b10), .val (.ref b17), .val (.ref b25), .unset] [(.ref b25)])) (fun t k => XS.aload X29.here hx rfl (hb hby at_162) rfl rfl k) ?_
    have F30 : Sta Z T29.heap "java/lang/String" "COMPACT_STRINGS" "Z" (.int cz) := (Sta_keep0 SCS K29)
    have F31 : Sta Z T29.heap "jdk/internal/util/Preconditions" "SIOOBE_FORMATTER" "Ljava/util/function/BiFunction;" fm := (Sta_keep0 SFM K29)
    obtain ⟨_, _, ⟨T32, L32, k32, n32⟩, -, X32, ⟨Lc32, hQ32, l32, y32, z32⟩, st32⟩ := Jvm.LawKit.callS X29 hx (y := (⟨"com/example/wireform/wireform/Hex", "parse", "(Ljava/lang/String;)[B"⟩ : MethodName)) hown (mvT hZ (hw _ (List.mem_of_getElem? (i := 27) rfl))) (mvT hZ (hw _ (List.mem_of_getElem? (i := 28) rfl))) (mvT hZ (hw _ (List.mem_of_getElem? (i := 29) rfl))) (mvT hZ (hw _ (List.mem_of_getElem? (i := 30) rfl))) (by decide) (backOf (W := 0) (rm5_2 l Z a0 hw [] b25 t29 kb29 c2 ((x1 &&& (255 : Int32)) >>> ((4 : Int32) &&& 31)) c4 ((x1 &&& (255 : Int32)) &&& (15 : Int32)) cz fm T29.heap n0 (Nat.le_trans (Nat.le_trans (Nat.le_trans (Nat.le_trans (Nat.le_trans (Nat.le_trans (Nat.le_trans (Nat.le_trans (Nat.le_trans (Nat.le_trans (Nat.le_trans Z0 E1.1) (Keep.of_wr W3).1) (Keep.of_wr W5).1) (Keep.of_wr W7).1) (Keep.of_wr W9).1) E10.1) (Keep.of_wr W13).1) (Keep.of_wr W16).1) E17.1) E25.1) Kc29.1) Es29 Cs29 Vs29 As29 Hc2 Hc4 F30 hcz F31 hfm) hZ (hw _ (List.mem_of_getElem? (i := 30) rfl)) (hw _ (List.mem_of_getElem? (i := 29) rfl)) (by decide) (by decide)) (g := (mkF m 164 #[.val (.int x0), .val (.int x1), .val (.int x2), .val (.int x3), .val (.int (1 : Int32)), .val (.int (x1 &&& (255 : Int32))), .val (.int (x2 &&& (255 : Int32))), .val (.ref b1), .val (.ref b10), .val (.ref b17), .val (.ref b25), .unset] [(.ref b25)])) rfl (by rw [hml]; rfl) (argsL := [(.ref b25)]) (rest := []) (lenOf pd_6 rfl) rfl (by show 2 * 0 + _ ≤ _; exact Nat.le_of_eq rfl) (hb hby at_164) (fun _ _ => ⟨rfl, rfl, (by decide : 5 + 1 ≤ _), (by decide : 12 + 1 ≤ _)⟩)
    dsimp only [Pt.U, Pt.locs, Pt.cells, Pt.slots] at X32 l32 y32 z32 st32 hQ32
    subst l32 y32 z32
    obtain ⟨r32, kr32, hQ32⟩ := hQ32
    obtain ⟨rfl, N32q, Kc32, Vr32⟩ := hQ32
    have N32 := Fr.app N29 N32q
    have K32 : Keep h0 T32.heap [] := K29.trans Kc32 all0
    have CR32 := CHr.trans CR29 (CHr.keep Kc32 sf0 CR29.1)
    rw [own_back x1] at Vr32
    refine Ends.pre (T' := T32.setTop (mkF m 167 #[.val (.int x0), .val (.int x1), .val (.int x2), .val (.int x3), .val (.int (1 : Int32)), .val (.int (x1 &&& (255 : Int32))), .val (.int (x2 &&& (255 : Int32))), .val (.ref b1), .val (.ref b10), .val (.ref b17), .val (.ref b25), .unset] [(.ref r32)])) (fun t k => st32 _ k) ?_
    refine Ends.pre (T' := T32.setTop (mkF m 169 #[.val (.int x0), .val (.int x1), .val (.int x2), .val (.int x3), .val (.int (1 : Int32)), .val (.int (x1 &&& (255 : Int32))), .val (.int (x2 &&& (255 : Int32))), .val (.ref b1), .val (.ref b10), .val (.ref b17), .val (.ref b25), .val (.ref r32)] [])) (fun t k => XS.astore X32.here hx rfl (hb hby at_167) rfl rfl (l' := #[.val (.int x0), .val (.int x1), .val (.int x2), .val (.int x3), .val (.int (1 : Int32)), .val (.int (x1 &&& (255 : Int32))), .val (.int (x2 &&& (255 : Int32))), .val (.ref b1), .val (.ref b10), .val (.ref b17), .val (.ref b25), .val (.ref r32)]) rfl k) ?_
    refine Ends.pre (T' := T32.setTop (mkF m 171 #[.val (.int x0), .val (.int x1), .val (.int x2), .val (.int x3), .val (.int (1 : Int32)), .val (.int (x1 &&& (255 : Int32))), .val (.int (x2 &&& (255 : Int32))), .val (.ref b1), .val (.ref b10), .val (.ref b17), .val (.ref b25), .val (.ref r32)] [(.ref r32)])) (fun t k => XS.aload X32.here hx rfl (hb hby at_169) rfl rfl k) ?_
    obtain ⟨cl33, Ar33, q33, S33, N33', H33, G33⟩ := id Vr32
    refine Ends.pre (T' := T32.setTop (mkF m 172 #[.val (.int x0), .val (.int x1), .val (.int x2), .val (.int x3), .val (.int (1 : Int32)), .val (.int (x1 &&& (255 : Int32))), .val (.int (x2 &&& (255 : Int32))), .val (.ref b1), .val (.ref b10), .val (.ref b17), .val (.ref b25), .val (.ref r32)] [(.int (1 : Int32))])) (fun t k => X32.arraylength hx Ar33.1 (State.isArrayOf_alike hZ.alike Ar33.2.1) (g := (mkF m 171 #[.val (.int x0), .val (.int x1), .val (.int x2), .val (.int x3), .val (.int (1 : Int32)), .val (.int (x1 &&& (255 : Int32))), .val (.int (x2 &&& (255 : Int32))), .val (.ref b1), .val (.ref b10), .val (.ref b17), .val (.ref b25), .val (.ref r32)] [(.ref r32)])) rfl rfl (hb hby at_171) _ (by rw [len_of S33 N33']; exact k)) ?_
    refine Ends.pre (T' := T32.setTop (mkF m 174 #[.val (.int x0), .val (.int x1), .val (.int x2), .val (.int x3), .val (.int (1 : Int32)), .val (.int (x1 &&& (255 : Int32))), .val (.int (x2 &&& (255 : Int32))), .val (.ref b1), .val (.ref b10), .val (.ref b17), .val (.ref b25), .val (.ref r32)] [(.int (1 : Int32)), (.int (1 : Int32))])) (fun t k => XS.iload X32.here hx rfl (hb hby at_172) rfl k) ?_
    refine Ends.pre (T' := T32.setTop (mkF m 179 #[.val (.int x0), .val (.int x1), .val (.int x2), .val (.int x3), .val (.int (1 : Int32)), .val (.int (x1 &&& (255 : Int32))), .val (.int (x2 &&& (255 : Int32))), .val (.ref b1), .val (.ref b10), .val (.ref b17), .val (.ref b25), .val (.ref r32)] [])) (fun t k => XS.icmpYes X32.here hx rfl (pc0 := 174) (pc' := 179) rfl (hb hby at_174) rfl (by decide) (by decide) (by decide) k) ?_
    refine Ends.pre (T' := T32.setTop (mkF m 181 #[.val (.int x0), .val (.int x1), .val (.int x2), .val (.int x3), .val (.int (1 : Int32)), .val (.int (x1 &&& (255 : Int32))), .val (.int (x2 &&& (255 : Int32))), .val (.ref b1), .val (.ref b10), .val (.ref b17), .val (.ref b25), .val (.ref r32)] [(.int (1 : Int32))])) (fun t k => XS.iload X32.here hx rfl (hb hby at_179) rfl k) ?_
    refine Ends.pre (T' := T32.setTop (mkF m 182 #[.val (.int x0), .val (.int x1), .val (.int x2), .val (.int x3), .val (.int (1 : Int32)), .val (.int (x1 &&& (255 : Int32))), .val (.int (x2 &&& (255 : Int32))), .val (.ref b1), .val (.ref b10), .val (.ref b17), .val (.ref b25), .val (.ref r32)] [(.int (1 : Int32)), (.int (1 : Int32))])) (fun t k => XS.iconst X32.here hx rfl (hb hby at_181) k) ?_
    refine Ends.pre (T' := T32.setTop (mkF m 185 #[.val (.int x0), .val (.int x1), .val (.int x2), .val (.int x3), .val (.int (1 : Int32)), .val (.int (x1 &&& (255 : Int32))), .val (.int (x2 &&& (255 : Int32))), .val (.ref b1), .val (.ref b10), .val (.ref b17), .val (.ref b25), .val (.ref r32)] [])) (fun t k => XS.icmpNo X32.here hx rfl (hb hby at_182) rfl (by decide) k) ?_
    refine Ends.pre (T' := T32.setTop (mkF m 187 #[.val (.int x0), .val (.int x1), .val (.int x2), .val (.int x3), .val (.int (1 : Int32)), .val (.int (x1 &&& (255 : Int32))), .val (.int (x2 &&& (255 : Int32))), .val (.ref b1), .val (.ref b10), .val (.ref b17), .val (.ref b25), .val (.ref r32)] [(.ref r32)])) (fun t k => XS.aload X32.here hx rfl (hb hby at_185) rfl rfl k) ?_
    refine Ends.pre (T' := T32.setTop (mkF m 188 #[.val (.int x0), .val (.int x1), .val (.int x2), .val (.int x3), .val (.int (1 : Int32)), .val (.int (x1 &&& (255 : Int32))), .val (.int (x2 &&& (255 : Int32))), .val (.ref b1), .val (.ref b10), .val (.ref b17), .val (.ref b25), .val (.ref r32)] [(.int (0 : Int32)), (.ref r32)])) (fun t k => XS.iconst X32.here hx rfl (hb hby at_187) k) ?_
    obtain ⟨cl34, Ar34, q34, S34, N34', H34, G34⟩ := id Vr32
    have hin34 : ¬ ((0 : Int32) < 0 ∨ cl34.slots.size ≤ ((0 : Int32)).toNatClampNeg) := inb_of S34 ⟨by decide, by decide⟩
    refine Ends.pre (T' := T32.setTop (mkF m 189 #[.val (.int x0), .val (.int x1), .val (.int x2), .val (.int x3), .val (.int (1 : Int32)), .val (.int (x1 &&& (255 : Int32))), .val (.int (x2 &&& (255 : Int32))), .val (.ref b1), .val (.ref b10), .val (.ref b17), .val (.ref b25), .val (.ref r32)] [(.int ((x1 &&& (255 : Int32)).toInt8.toInt32))])) (fun t k => X32.baloadBytes hx (j := (0 : Int32)) (v := (.int ((x1 &&& (255 : Int32)).toInt8.toInt32))) Ar34.1 (State.isArrayOf_alike hZ.alike Ar34.2.1) Ar34.2.2 hin34 (H34.at hin34 rfl) (g := (mkF m 188 #[.val (.int x0), .val (.int x1), .val (.int x2), .val (.int x3), .val (.int (1 : Int32)), .val (.int (x1 &&& (255 : Int32))), .val (.int (x2 &&& (255 : Int32))), .val (.ref b1), .val (.ref b10), .val (.ref b17), .val (.ref b25), .val (.ref r32)] [(.int (0 : Int32)), (.ref r32)])) rfl rfl (hb hby at_188) _ k) ?_
    refine Ends.pre (T' := T32.setTop (mkF m 191 #[.val (.int x0), .val (.int x1), .val (.int x2), .val (.int x3), .val (.int (1 : Int32)), .val (.int (x1 &&& (255 : Int32))), .val (.int (x2 &&& (255 : Int32))), .val (.ref b1), .val (.ref b10), .val (.ref b17), .val (.ref b25), .val (.ref r32)] [(.int (x1 &&& (255 : Int32))), (.int ((x1 &&& (255 : Int32)).toInt8.toInt32))])) (fun t k => XS.iload X32.here hx rfl (hb hby at_189) rfl k) ?_
    refine Ends.pre (T' := T32.setTop (mkF m 192 #[.val (.int x0), .val (.int x1), .val (.int x2), .val (.int x3), .val (.int (1 : Int32)), .val (.int (x1 &&& (255 : Int32))), .val (.int (x2 &&& (255 : Int32))), .val (.ref b1), .val (.ref b10), .val (.ref b17), .val (.ref b25), .val (.ref r32)] [(.int ((x1 &&& (255 : Int32)).toInt8.toInt32)), (.int ((x1 &&& (255 : Int32)).toInt8.toInt32))])) (fun t k => XS.i2b X32.here hx rfl (hb hby at_191) rfl k) ?_
    refine Ends.pre (T' := T32.setTop (mkF m 197 #[.val (.int x0), .val (.int x1), .val (.int x2), .val (.int x3), .val (.int (1 : Int32)), .val (.int (x1 &&& (255 : Int32))), .val (.int (x2 &&& (255 : Int32))), .val (.ref b1), .val (.ref b10), .val (.ref b17), .val (.ref b25), .val (.ref r32)] [])) (fun t k => XS.icmpYes X32.here hx rfl (pc0 := 192) (pc' := 197) rfl (hb hby at_192) rfl (Jvm.Free.XT.ii_eq_t rfl) (by decide) (by decide) k) ?_
    refine Ends.pre (T' := T32.setTop (mkF m 199 #[.val (.int x0), .val (.int x1), .val (.int x2), .val (.int x3), .val (.int (1 : Int32)), .val (.int (x1 &&& (255 : Int32))), .val (.int (x2 &&& (255 : Int32))), .val (.ref b1), .val (.ref b10), .val (.ref b17), .val (.ref b25), .val (.ref r32)] [(.int (1 : Int32))])) (fun t k => XS.iload X32.here hx rfl (hb hby at_197) rfl k) ?_
    refine Ends.pre (T' := T32.setTop (mkF m 200 #[.val (.int x0), .val (.int x1), .val (.int x2), .val (.int x3), .val (.int (1 : Int32)), .val (.int (x1 &&& (255 : Int32))), .val (.int (x2 &&& (255 : Int32))), .val (.ref b1), .val (.ref b10), .val (.ref b17), .val (.ref b25), .val (.ref r32)] [(.int (2 : Int32)), (.int (1 : Int32))])) (fun t k => XS.iconst X32.here hx rfl (hb hby at_199) k) ?_
    refine Ends.pre (T' := T32.setTop (mkF m 215 #[.val (.int x0), .val (.int x1), .val (.int x2), .val (.int x3), .val (.int (1 : Int32)), .val (.int (x1 &&& (255 : Int32))), .val (.int (x2 &&& (255 : Int32))), .val (.ref b1), .val (.ref b10), .val (.ref b17), .val (.ref b25), .val (.ref r32)] [])) (fun t k => XS.icmpYes X32.here hx rfl (pc0 := 200) (pc' := 215) rfl (hb hby at_200) rfl (by decide) (by decide) (by decide) k) ?_
    refine Ends.pre (T' := T32.setTop (mkF m 216 #[.val (.int x0), .val (.int x1), .val (.int x2), .val (.int x3), .val (.int (1 : Int32)), .val (.int (x1 &&& (255 : Int32))), .val (.int (x2 &&& (255 : Int32))), .val (.ref b1), .val (.ref b10), .val (.ref b17), .val (.ref b25), .val (.ref r32)] [(.int (1 : Int32))])) (fun t k => XS.iconst X32.here hx rfl (hb hby at_215) k) ?_
    exact Ends.retW (w := (.int (1 : Int32))) X32 hx Bd.notSynchronized Bd.returns rfl (Or.inl ⟨rfl, Or.inr (Or.inl rfl), _, rfl⟩) (hb hby at_216) rfl hZ hEL hS0 (Nat.le_trans (Nat.le_trans (Nat.le_trans (Nat.le_trans (Nat.le_trans (Nat.le_trans (Nat.le_trans (Nat.le_trans (Nat.le_trans (Nat.le_trans (Nat.le_trans (Nat.le_trans hk0 E1.1) (Keep.of_wr W3).1) (Keep.of_wr W5).1) (Keep.of_wr W7).1) (Keep.of_wr W9).1) E10.1) (Keep.of_wr W13).1) (Keep.of_wr W16).1) E17.1) E25.1) Kc29.1) Kc32.1) hh CR32 ⟨rfl, N32⟩ (by decide) (by decide)
  · refine Ends.pre (T' := T17.setTop (mkF m 114 #[.val (.int x0), .val (.int x1), .val (.int x2), .val (.int x3), .val (.int (2 : Int32)), .val (.int (x1 &&& (255 : Int32))), .val (.int (x2 &&& (255 : Int32))), .val (.ref b1), .val (.ref b10), .val (.ref b17), .unset, .unset] [(.int (2 : Int32))])) (fun t k => XS.iload X17.here hx rfl (hb hby at_112) rfl k) ?_
    refine Ends.pre (T' := T17.setTop (mkF m 131 #[.val (.int x0), .val (.int x1), .val (.int x2), .val (.int x3), .val (.int (2 : Int32)), .val (.int (x1 &&& (255 : Int32))), .val (.int (x2 &&& (255 : Int32))), .val (.ref b1), .val (.ref b10), .val (.ref b17), .unset, .unset] [])) (fun t k => XS.ifYes X17.here hx rfl (pc0 := 114) (pc' := 131) rfl (hb hby at_114) rfl (by decide) (by decide) (by decide) k) ?_
    refine Ends.pre (T' := T17.setTop (mkF m 133 #[.val (.int x0), .val (.int x1), .val (.int x2), .val (.int x3), .val (.int (2 : Int32)), .val (.int (x1 &&& (255 : Int32))), .val (.int (x2 &&& (255 : Int32))), .val (.ref b1), .val (.ref b10), .val (.ref b17), .unset, .unset] [(.int (2 : Int32))])) (fun t k => XS.iload X17.here hx rfl (hb hby at_131) rfl k) ?_
    refine Ends.pre (T' := T17.setTop (mkF m 134 #[.val (.int x0), .val (.int x1), .val (.int x2), .val (.int x3), .val (.int (2 : Int32)), .val (.int (x1 &&& (255 : Int32))), .val (.int (x2 &&& (255 : Int32))), .val (.ref b1), .val (.ref b10), .val (.ref b17), .unset, .unset] [(.int (1 : Int32)), (.int (2 : Int32))])) (fun t k => XS.iconst X17.here hx rfl (hb hby at_133) k) ?_
    refine Ends.pre (T' := T17.setTop (mkF m 151 #[.val (.int x0), .val (.int x1), .val (.int x2), .val (.int x3), .val (.int (2 : Int32)), .val (.int (x1 &&& (255 : Int32))), .val (.int (x2 &&& (255 : Int32))), .val (.ref b1), .val (.ref b10), .val (.ref b17), .unset, .unset] [])) (fun t k => XS.icmpYes X17.here hx rfl (pc0 := 134) (pc' := 151) rfl (hb hby at_134) rfl (by decide) (by decide) (by decide) k) ?_
    obtain ⟨T35, h35, X35, e35, E35, A35, D35, -, st35⟩ := newO X17 hx hZ hown (hw _ (List.mem_of_getElem? (i := 6) rfl)) (hw _ (List.mem_of_getElem? (i := 7) rfl)) (hw _ (List.mem_of_getElem? (i := 8) rfl)) e17 (g := (mkF m 151 #[.val (.int x0), .val (.int x1), .val (.int x2), .val (.int x3), .val (.int (2 : Int32)), .val (.int (x1 &&& (255 : Int32))), .val (.int (x2 &&& (255 : Int32))), .val (.ref b1), .val (.ref b10), .val (.ref b17), .unset, .unset] [])) rfl (hb hby at_151) (by decide) (by decide)
    obtain ⟨b35, g35⟩ : ∃ z, z = h17.size := ⟨_, rfl⟩
    rw [← g35] at A35 D35 st35
    have ge_b35 : n0 ≤ b35 := Nat.le_trans (Nat.le_trans (Nat.le_trans (Nat.le_trans (Nat.le_trans (Nat.le_trans (Nat.le_trans (Nat.le_trans (Nat.le_trans (Nat.le_trans Z0 E1.1) (Keep.of_wr W3).1) (Keep.of_wr W5).1) (Keep.of_wr W7).1) (Keep.of_wr W9).1) E10.1) (Keep.of_wr W13).1) (Keep.of_wr W16).1) E17.1) (Nat.le_of_eq g35.symm)
    have sz_b35 : h0.size ≤ b35 := Nat.le_trans K17.1 (Nat.le_of_eq g35.symm)
    have CR35 := CHr.trans CR17 (CHr.ext E35 CR17.1)
    have K35 : Keep h0 h35 [] := K17.ext E35
    have Fd35_value : Fld Z h35 b35 "java/lang/String" "value" "[B" .null := D35 (Or.inr (hw _ (List.mem_of_getElem? (i := 21) rfl))) (ty := (.array .byte)) (by decide)
    have Fd35_coder : Fld Z h35 b35 "java/lang/String" "coder" "B" (.int (0 : Int32)) := D35 (Or.inr (hw _ (List.mem_of_getElem? (i := 22) rfl))) (ty := .byte) (by decide)
    refine Ends.pre (T' := T35.setTop (mkF m 154 #[.val (.int x0), .val (.int x1), .val (.int x2), .val (.int x3), .val (.int (2 : Int32)), .val (.int (x1 &&& (255 : Int32))), .val (.int (x2 &&& (255 : Int32))), .val (.ref b1), .val (.ref b10), .val (.ref b17), .unset, .unset] [(.ref b35)])) (fun t k => st35 _ k) ?_
    refine Ends.pre (T' := T35.setTop (mkF m 155 #[.val (.int x0), .val (.int x1), .val (.int x2), .val (.int x3), .val (.int (2 : Int32)), .val (.int (x1 &&& (255 : Int32))), .val (.int (x2 &&& (255 : Int32))), .val (.ref b1), .val (.ref b10), .val (.ref b17), .unset, .unset] [(.ref b35), (.ref b35)])) (fun t k => XS.dup X35.here hx rfl (hb hby at_154) rfl rfl k) ?_
    refine Ends.pre (T' := T35.setTop (mkF m 157 #[.val (.int x0), .val (.int x1), .val (.int x2), .val (.int x3), .val (.int (2 : Int32)), .val (.int (x1 &&& (255 : Int32))), .val (.int (x2 &&& (255 : Int32))), .val (.ref b1), .val (.ref b10), .val (.ref b17), .unset, .unset] [(.ref b1), (.ref b35), (.ref b35)])) (fun t k => XS.aload X35.here hx rfl (hb hby at_155) rfl rfl k) ?_
    have hp36 : ∀ c ∈ ([c2, c4, c6, c8] : List Int32), ¬ c < 0 ∧ ¬ (255 : Int32) < c := (own_alS (own_hexc Hc2) (own_alS (own_hexc Hc4) (own_alS (own_hexc Hc6) (own_alS (own_hexc Hc8) own_al0))))
    have hbd36 := own_up _ hp36
    have F37 : Arv Z h35 b1 k1 .char (4 : Int32) [(.int c2), (.int c4), (.int c6), (.int c8)] (.int (0 : Int32)) := (Arv.ext (Arv.ext (F14.other W16 (Nat.ne_of_lt (Nat.lt_of_lt_of_le (Nat.lt_of_lt_of_le (Nat.lt_of_lt_of_le (Nat.lt_of_lt_of_le (Nat.lt_of_lt_of_le V1.lt (Keep.of_wr W3).1) (Keep.of_wr W5).1) (Keep.of_wr W7).1) (Keep.of_wr W9).1) (Nat.le_of_eq g10.symm)))) E17) E35)
    have F38 : Sta Z h35 "java/lang/String" "COMPACT_STRINGS" "Z" (.int cz) := (Sta_keep0 SCS K35)
    obtain ⟨_, _, ⟨T39, L39, k39, n39⟩, -, X39, ⟨Lc39, hQ39, l39, y39, z39⟩, st39⟩ := X35.specialBack hx (y := (⟨"java/lang/String", "<init>", "([C)V"⟩ : MethodName)) rfl hown (mvT hZ (hw _ (List.mem_of_getElem? (i := 9) rfl))) (mvT hZ (hw _ (List.mem_of_getElem? (i := 10) rfl))) (mvT hZ (hw _ (List.mem_of_getElem? (i := 11) rfl))) (by decide) (StrChars.Road.backV (W := 1) hZ (own_hws hw) (kI := 4) (hw _ (List.mem_of_getElem? (i := 7) rfl)) (cs := ([c2, c4, c6, c8] : List Int32)) (bs := (([c2, c4, c6, c8] : List Int32).map (fun c => c.toInt8.toInt32))) (n := 4) ge_b35 (Nat.le_trans (Nat.le_trans (Nat.le_trans (Nat.le_trans (Nat.le_trans (Nat.le_trans (Nat.le_trans (Nat.le_trans (Nat.le_trans (Nat.le_trans Z0 E1.1) (Keep.of_wr W3).1) (Keep.of_wr W5).1) (Keep.of_wr W7).1) (Keep.of_wr W9).1) E10.1) (Keep.of_wr W13).1) (Keep.of_wr W16).1) E17.1) E35.1) A35 Fd35_value Fd35_coder F37 F38 hcz rfl rfl (by decide) (by decide) hp36 rfl (by decide) (by decide)) (g := (mkF m 157 #[.val (.int x0), .val (.int x1), .val (.int x2), .val (.int x3), .val (.int (2 : Int32)), .val (.int (x1 &&& (255 : Int32))), .val (.int (x2 &&& (255 : Int32))), .val (.ref b1), .val (.ref b10), .val (.ref b17), .unset, .unset] [(.ref b1), (.ref b35), (.ref b35)])) rfl (by rw [hml]; rfl) (Steps.refl _) (a := b35) (argsL := [(.ref b1)]) (rest := [(.ref b35)]) (lenOf pd_5 rfl) rfl (by show 2 * 0 + _ ≤ _; exact Nat.le_of_eq rfl) (hb hby at_157) (fun _ _ => ⟨rfl, e35, (by decide : 4 + 1 ≤ _), (by decide : 10 + 4 ≤ _)⟩)
    dsimp only [Pt.U, Pt.locs, Pt.cells, Pt.slots] at X39 l39 y39 z39 st39 hQ39
    subst l39 y39 z39
    obtain ⟨rfl, N39q, Kc39, Es39, Cs39, t39, kb39, gt39, ft39, nt39, Vs39, As39⟩ := hQ39
    have N39 := Fr.app N16 N39q
    have K39 : Keep h0 T39.heap [] := K35.trans Kc39 (allS (Or.inr sz_b35) all0)
    have CR39 := CHr.trans CR35 (CHr.keep Kc39 (sfS (Safe.ext E35 CR17.1 (Safe.new (Nat.le_of_eq g35.symm))) sf0) CR35.1)
    have hcd39 : StrChars.Road.CodA ([c2, c4, c6, c8] : List Int32) 0 (4 : Int32) ((([c2, c4, c6, c8] : List Int32).map (fun c => c.toInt8.toInt32)).map Value.int) := StrChars.Road.codOf (n := 4) rfl (fun c hc => (hp36 c hc).2)
    refine Ends.pre (T' := T39.setTop (mkF m 160 #[.val (.int x0), .val (.int x1), .val (.int x2), .val (.int x3), .val (.int (2 : Int32)), .val (.int (x1 &&& (255 : Int32))), .val (.int (x2 &&& (255 : Int32))), .val (.ref b1), .val (.ref b10), .val (.ref b17), .unset, .unset] [(.ref b35)])) (fun t k => st39.trans k) ?_
    refine Ends.pre (T' := T39.setTop (mkF m 162 #[.val (.int x0), .val (.int x1), .val (.int x2), .val (.int x3), .val (.int (2 : Int32)), .val (.int (x1 &&& (255 : Int32))), .val (.int (x2 &&& (255 : Int32))), .val (.ref b1), .val (.ref b10), .val (.ref b17), .val (.ref b35), .unset] [])) (fun t k => XS.astore X39.here hx rfl (hb hby at_160) rfl rfl (l' := #[.val (.int x0), .val (.int x1), .val (.int x2), .val (.int x3), .val (.int (2 : Int32)), .val (.int (x1 &&& (255 : Int32))), .val (.int (x2 &&& (255 : Int32))), .val (.ref b1), .val (.ref b10), .val (.ref b17), .val (.ref b35), .unset]) rfl k) ?_
    refine Ends.pre (T' := T39.setTop (mkF m 164 #[.val (.int x0), .val (.int x1), .val (.int x2), .val (.int x3), .val (.int (2 : Int32)), .val (.int (x1 &&& (255 : Int32))), .val (.int (x2 &&& (255 : Int32))), .val (.ref b1), .val (.ref b10), .val (.ref b17), .val (.ref b35), .unset] [(.ref b35)])) (fun t k => XS.aload X39.here hx rfl (hb hby at_162) rfl rfl k) ?_
    have F40 : Sta Z T39.heap "java/lang/String" "COMPACT_STRINGS" "Z" (.int cz) := (Sta_keep0 SCS K39)
    have F41 : Sta Z T39.heap "jdk/internal/util/Preconditions" "SIOOBE_FORMATTER" "Ljava/util/function/BiFunction;" fm := (Sta_keep0 SFM K39)
    obtain ⟨_, _, ⟨T42, L42, k42, n42⟩, -, X42, ⟨Lc42, hQ42, l42, y42, z42⟩, st42⟩ := Jvm.LawKit.callS X39 hx (y := (⟨"com/example/wireform/wireform/Hex", "parse", "(Ljava/lang/String;)[B"⟩ : MethodName)) hown (mvT hZ (hw _ (List.mem_of_getElem? (i := 27) rfl))) (mvT hZ (hw _ (List.mem_of_getElem? (i := 28) rfl))) (mvT hZ (hw _ (List.mem_of_getElem? (i := 29) rfl))) (mvT hZ (hw _ (List.mem_of_getElem? (i := 30) rfl))) (by decide) (backOf (W := 0) (rm5_4 l Z a0 hw [] b35 t39 kb39 c2 ((x1 &&& (255 : Int32)) >>> ((4 : Int32) &&& 31)) c4 ((x1 &&& (255 : Int32)) &&& (15 : Int32)) c6 ((x2 &&& (255 : Int32)) >>> ((4 : Int32) &&& 31)) c8 ((x2 &&& (255 : Int32)) &&& (15 : Int32)) cz fm T39.heap n0 (Nat.le_trans (Nat.le_trans (Nat.le_trans (Nat.le_trans (Nat.le_trans (Nat.le_trans (Nat.le_trans (Nat.le_trans (Nat.le_trans (Nat.le_trans (Nat.le_trans Z0 E1.1) (Keep.of_wr W3).1) (Keep.of_wr W5).1) (Keep.of_wr W7).1) (Keep.of_wr W9).1) E10.1) (Keep.of_wr W13).1) (Keep.of_wr W16).1) E17.1) E35.1) Kc39.1) Es39 Cs39 Vs39 As39 Hc2 Hc4 Hc6 Hc8 F40 hcz F41 hfm) hZ (hw _ (List.mem_of_getElem? (i := 30) rfl)) (hw _ (List.mem_of_getElem? (i := 29) rfl)) (by decide) (by decide)) (g := (mkF m 164 #[.val (.int x0), .val (.int x1), .val (.int x2), .val (.int x3), .val (.int (2 : Int32)), .val (.int (x1 &&& (255 : Int32))), .val (.int (x2 &&& (255 : Int32))), .val (.ref b1), .val (.ref b10), .val (.ref b17), .val (.ref b35), .unset] [(.ref b35)])) rfl (by rw [hml]; rfl) (argsL := [(.ref b35)]) (rest := []) (lenOf pd_6 rfl) rfl (by show 2 * 0 + _ ≤ _; exact Nat.le_of_eq rfl) (hb hby at_164) (fun _ _ => ⟨rfl, rfl, (by decide : 5 + 1 ≤ _), (by decide : 14 + 2 ≤ _)⟩)
    dsimp only [Pt.U, Pt.locs, Pt.cells, Pt.slots] at X42 l42 y42 z42 st42 hQ42
    subst l42 y42 z42
    obtain ⟨r42, kr42, hQ42⟩ := hQ42
    obtain ⟨rfl, N42q, Kc42, Vr42⟩ := hQ42
    have N42 := Fr.app N39 N42q
    have K42 : Keep h0 T42.heap [] := K39.trans Kc42 all0
    have CR42 := CHr.trans CR39 (CHr.keep Kc42 sf0 CR39.1)
    rw [own_back x1] at Vr42
    rw [own_back x2] at Vr42
    refine Ends.pre (T' := T42.setTop (mkF m 167 #[.val (.int x0), .val (.int x1), .val (.int x2), .val (.int x3), .val (.int (2 : Int32)), .val (.int (x1 &&& (255 : Int32))), .val (.int (x2 &&& (255 : Int32))), .val (.ref b1), .val (.ref b10), .val (.ref b17), .val (.ref b35), .unset] [(.ref r42)])) (fun t k => st42 _ k) ?_
    refine Ends.pre (T' := T42.setTop (mkF m 169 #[.val (.int x0), .val (.int x1), .val (.int x2), .val (.int x3), .val (.int (2 : Int32)), .val (.int (x1 &&& (255 : Int32))), .val (.int (x2 &&& (255 : Int32))), .val (.ref b1), .val (.ref b10), .val (.ref b17), .val (.ref b35), .val (.ref r42)] [])) (fun t k => XS.astore X42.here hx rfl (hb hby at_167) rfl rfl (l' := #[.val (.int x0), .val (.int x1), .val (.int x2), .val (.int x3), .val (.int (2 : Int32)), .val (.int (x1 &&& (255 : Int32))), .val (.int (x2 &&& (255 : Int32))), .val (.ref b1), .val (.ref b10), .val (.ref b17), .val (.ref b35), .val (.ref r42)]) rfl k) ?_
    refine Ends.pre (T' := T42.setTop (mkF m 171 #[.val (.int x0), .val (.int x1), .val (.int x2), .val (.int x3), .val (.int (2 : Int32)), .val (.int (x1 &&& (255 : Int32))), .val (.int (x2 &&& (255 : Int32))), .val (.ref b1), .val (.ref b10), .val (.ref b17), .val (.ref b35), .val (.ref r42)] [(.ref r42)])) (fun t k => XS.aload X42.here hx rfl (hb hby at_169) rfl rfl k) ?_
    obtain ⟨cl43, Ar43, q43, S43, N43', H43, G43⟩ := id Vr42
    refine Ends.pre (T' := T42.setTop (mkF m 172 #[.val (.int x0), .val (.int x1), .val (.int x2), .val (.int x3), .val (.int (2 : Int32)), .val (.int (x1 &&& (255 : Int32))), .val (.int (x2 &&& (255 : Int32))), .val (.ref b1), .val (.ref b10), .val (.ref b17), .val (.ref b35), .val (.ref r42)] [(.int (2 : Int32))])) (fun t k => X42.arraylength hx Ar43.1 (State.isArrayOf_alike hZ.alike Ar43.2.1) (g := (mkF m 171 #[.val (.int x0), .val (.int x1), .val (.int x2), .val (.int x3), .val (.int (2 : Int32)), .val (.int (x1 &&& (255 : Int32))), .val (.int (x2 &&& (255 : Int32))), .val (.ref b1), .val (.ref b10), .val (.ref b17), .val (.ref b35), .val (.ref r42)] [(.ref r42)])) rfl rfl (hb hby at_171) _ (by rw [len_of S43 N43']; exact k)) ?_
    refine Ends.pre (T' := T42.setTop (mkF m 174 #[.val (.int x0), .val (.int x1), .val (.int x2), .val (.int x3), .val (.int (2 : Int32)), .val (.int (x1 &&& (255 : Int32))), .val (.int (x2 &&& (255 : Int32))), .val (.ref b1), .val (.ref b10), .val (.ref b17), .val (.ref b35), .val (.ref r42)] [(.int (2 : Int32)), (.int (2 : Int32))])) (fun t k => XS.iload X42.here hx rfl (hb hby at_172) rfl k) ?_
    refine Ends.pre (T' := T42.setTop (mkF m 179 #[.val (.int x0), .val (.int x1), .val (.int x2), .val (.int x3), .val (.int (2 : Int32)), .val (.int (x1 &&& (255 : Int32))), .val (.int (x2 &&& (255 : Int32))), .val (.ref b1), .val (.ref b10), .val (.ref b17), .val (.ref b35), .val (.ref r42)] [])) (fun t k => XS.icmpYes X42.here hx rfl (pc0 := 174) (pc' := 179) rfl (hb hby at_174) rfl (by decide) (by decide) (by decide) k) ?_
    refine Ends.pre (T' := T42.setTop (mkF m 181 #[.val (.int x0), .val (.int x1), .val (.int x2), .val (.int x3), .val (.int (2 : Int32)), .val (.int (x1 &&& (255 : Int32))), .val (.int (x2 &&& (255 : Int32))), .val (.ref b1), .val (.ref b10), .val (.ref b17), .val (.ref b35), .val (.ref r42)] [(.int (2 : Int32))])) (fun t k => XS.iload X42.here hx rfl (hb hby at_179) rfl k) ?_
    refine Ends.pre (T' := T42.setTop (mkF m 182 #[.val (.int x0), .val (.int x1), .val (.int x2), .val (.int x3), .val (.int (2 : Int32)), .val (.int (x1 &&& (255 : Int32))), .val (.int (x2 &&& (255 : Int32))), .val (.ref b1), .val (.ref b10), .val (.ref b17), .val (.ref b35), .val (.ref r42)] [(.int (1 : Int32)), (.int (2 : Int32))])) (fun t k => XS.iconst X42.here hx rfl (hb hby at_181) k) ?_
    refine Ends.pre (T' := T42.setTop (mkF m 185 #[.val (.int x0), .val (.int x1), .val (.int x2), .val (.int x3), .val (.int (2 : Int32)), .val (.int (x1 &&& (255 : Int32))), .val (.int (x2 &&& (255 : Int32))), .val (.ref b1), .val (.ref b10), .val (.ref b17), .val (.ref b35), .val (.ref r42)] [])) (fun t k => XS.icmpNo X42.here hx rfl (hb hby at_182) rfl (by decide) k) ?_
    refine Ends.pre (T' := T42.setTop (mkF m 187 #[.val (.int x0), .val (.int x1), .val (.int x2), .val (.int x3), .val (.int (2 : Int32)), .val (.int (x1 &&& (255 : Int32))), .val (.int (x2 &&& (255 : Int32))), .val (.ref b1), .val (.ref b10), .val (.ref b17), .val (.ref b35), .val (.ref r42)] [(.ref r42)])) (fun t k => XS.aload X42.here hx rfl (hb hby at_185) rfl rfl k) ?_
    refine Ends.pre (T' := T42.setTop (mkF m 188 #[.val (.int x0), .val (.int x1), .val (.int x2), .val (.int x3), .val (.int (2 : Int32)), .val (.int (x1 &&& (255 : Int32))), .val (.int (x2 &&& (255 : Int32))), .val (.ref b1), .val (.ref b10), .val (.ref b17), .val (.ref b35), .val (.ref r42)] [(.int (0 : Int32)), (.ref r42)])) (fun t k => XS.iconst X42.here hx rfl (hb hby at_187) k) ?_
    obtain ⟨cl44, Ar44, q44, S44, N44', H44, G44⟩ := id Vr42
    have hin44 : ¬ ((0 : Int32) < 0 ∨ cl44.slots.size ≤ ((0 : Int32)).toNatClampNeg) := inb_of S44 ⟨by decide, by decide⟩
    refine Ends.pre (T' := T42.setTop (mkF m 189 #[.val (.int x0), .val (.int x1), .val (.int x2), .val (.int x3), .val (.int (2 : Int32)), .val (.int (x1 &&& (255 : Int32))), .val (.int (x2 &&& (255 : Int32))), .val (.ref b1), .val (.ref b10), .val (.ref b17), .val (.ref b35), .val (.ref r42)] [(.int ((x1 &&& (255 : Int32)).toInt8.toInt32))])) (fun t k => X42.baloadBytes hx (j := (0 : Int32)) (v := (.int ((x1 &&& (255 : Int32)).toInt8.toInt32))) Ar44.1 (State.isArrayOf_alike hZ.alike Ar44.2.1) Ar44.2.2 hin44 (H44.at hin44 rfl) (g := (mkF m 188 #[.val (.int x0), .val (.int x1), .val (.int x2), .val (.int x3), .val (.int (2 : Int32)), .val (.int (x1 &&& (255 : Int32))), .val (.int (x2 &&& (255 : Int32))), .val (.ref b1), .val (.ref b10), .val (.ref b17), .val (.ref b35), .val (.ref r42)] [(.int (0 : Int32)), (.ref r42)])) rfl rfl (hb hby at_188) _ k) ?_
    refine Ends.pre (T' := T42.setTop (mkF m 191 #[.val (.int x0), .val (.int x1), .val (.int x2), .val (.int x3), .val (.int (2 : Int32)), .val (.int (x1 &&& (255 : Int32))), .val (.int (x2 &&& (255 : Int32))), .val (.ref b1), .val (.ref b10), .val (.ref b17), .val (.ref b35), .val (.ref r42)] [(.int (x1 &&& (255 : Int32))), (.int ((x1 &&& (255 : Int32)).toInt8.toInt32))])) (fun t k => XS.iload X42.here hx rfl (hb hby at_189) rfl k) ?_
    refine Ends.pre (T' := T42.setTop (mkF m 192 #[.val (.int x0), .val (.int x1), .val (.int x2), .val (.int x3), .val (.int (2 : Int32)), .val (.int (x1 &&& (255 : Int32))), .val (.int (x2 &&& (255 : Int32))), .val (.ref b1), .val (.ref b10), .val (.ref b17), .val (.ref b35), .val (.ref r42)] [(.int ((x1 &&& (255 : Int32)).toInt8.toInt32)), (.int ((x1 &&& (255 : Int32)).toInt8.toInt32))])) (fun t k => XS.i2b X42.here hx rfl (hb hby at_191) rfl k) ?_
    refine Ends.pre (T' := T42.setTop (mkF m 197 #[.val (.int x0), .val (.int x1), .val (.int x2), .val (.int x3), .val (.int (2 : Int32)), .val (.int (x1 &&& (255 : Int32))), .val (.int (x2 &&& (255 : Int32))), .val (.ref b1), .val (.ref b10), .val (.ref b17), .val (.ref b35), .val (.ref r42)] [])) (fun t k => XS.icmpYes X42.here hx rfl (pc0 := 192) (pc' := 197) rfl (hb hby at_192) rfl (Jvm.Free.XT.ii_eq_t rfl) (by decide) (by decide) k) ?_
    refine Ends.pre (T' := T42.setTop (mkF m 199 #[.val (.int x0), .val (.int x1), .val (.int x2), .val (.int x3), .val (.int (2 : Int32)), .val (.int (x1 &&& (255 : Int32))), .val (.int (x2 &&& (255 : Int32))), .val (.ref b1), .val (.ref b10), .val (.ref b17), .val (.ref b35), .val (.ref r42)] [(.int (2 : Int32))])) (fun t k => XS.iload X42.here hx rfl (hb hby at_197) rfl k) ?_
    refine Ends.pre (T' := T42.setTop (mkF m 200 #[.val (.int x0), .val (.int x1), .val (.int x2), .val (.int x3), .val (.int (2 : Int32)), .val (.int (x1 &&& (255 : Int32))), .val (.int (x2 &&& (255 : Int32))), .val (.ref b1), .val (.ref b10), .val (.ref b17), .val (.ref b35), .val (.ref r42)] [(.int (2 : Int32)), (.int (2 : Int32))])) (fun t k => XS.iconst X42.here hx rfl (hb hby at_199) k) ?_
    refine Ends.pre (T' := T42.setTop (mkF m 203 #[.val (.int x0), .val (.int x1), .val (.int x2), .val (.int x3), .val (.int (2 : Int32)), .val (.int (x1 &&& (255 : Int32))), .val (.int (x2 &&& (255 : Int32))), .val (.ref b1), .val (.ref b10), .val (.ref b17), .val (.ref b35), .val (.ref r42)] [])) (fun t k => XS.icmpNo X42.here hx rfl (hb hby at_200) rfl (by decide) k) ?_
    refine Ends.pre (T' := T42.setTop (mkF m 205 #[.val (.int x0), .val (.int x1), .val (.int x2), .val (.int x3), .val (.int (2 : Int32)), .val (.int (x1 &&& (255 : Int32))), .val (.int (x2 &&& (255 : Int32))), .val (.ref b1), .val (.ref b10), .val (.ref b17), .val (.ref b35), .val (.ref r42)] [(.ref r42)])) (fun t k => XS.aload X42.here hx rfl (hb hby at_203) rfl rfl k) ?_
    refine Ends.pre (T' := T42.setTop (mkF m 206 #[.val (.int x0), .val (.int x1), .val (.int x2), .val (.int x3), .val (.int (2 : Int32)), .val (.int (x1 &&& (255 : Int32))), .val (.int (x2 &&& (255 : Int32))), .val (.ref b1), .val (.ref b10), .val (.ref b17), .val (.ref b35), .val (.ref r42)] [(.int (1 : Int32)), (.ref r42)])) (fun t k => XS.iconst X42.here hx rfl (hb hby at_205) k) ?_
    obtain ⟨cl45, Ar45, q45, S45, N45', H45, G45⟩ := id Vr42
    have hin45 : ¬ ((1 : Int32) < 0 ∨ cl45.slots.size ≤ ((1 : Int32)).toNatClampNeg) := inb_of S45 ⟨by decide, by decide⟩
    refine Ends.pre (T' := T42.setTop (mkF m 207 #[.val (.int x0), .val (.int x1), .val (.int x2), .val (.int x3), .val (.int (2 : Int32)), .val (.int (x1 &&& (255 : Int32))), .val (.int (x2 &&& (255 : Int32))), .val (.ref b1), .val (.ref b10), .val (.ref b17), .val (.ref b35), .val (.ref r42)] [(.int ((x2 &&& (255 : Int32)).toInt8.toInt32))])) (fun t k => X42.baloadBytes hx (j := (1 : Int32)) (v := (.int ((x2 &&& (255 : Int32)).toInt8.toInt32))) Ar45.1 (State.isArrayOf_alike hZ.alike Ar45.2.1) Ar45.2.2 hin45 (H45.at hin45 rfl) (g := (mkF m 206 #[.val (.int x0), .val (.int x1), .val (.int x2), .val (.int x3), .val (.int (2 : Int32)), .val (.int (x1 &&& (255 : Int32))), .val (.int (x2 &&& (255 : Int32))), .val (.ref b1), .val (.ref b10), .val (.ref b17), .val (.ref b35), .val (.ref r42)] [(.int (1 : Int32)), (.ref r42)])) rfl rfl (hb hby at_206) _ k) ?_
    refine Ends.pre (T' := T42.setTop (mkF m 209 #[.val (.int x0), .val (.int x1), .val (.int x2), .val (.int x3), .val (.int (2 : Int32)), .val (.int (x1 &&& (255 : Int32))), .val (.int (x2 &&& (255 : Int32))), .val (.ref b1), .val (.ref b10), .val (.ref b17), .val (.ref b35), .val (.ref r42)] [(.int (x2 &&& (255 : Int32))), (.int ((x2 &&& (255 : Int32)).toInt8.toInt32))])) (fun t k => XS.iload X42.here hx rfl (hb hby at_207) rfl k) ?_
    refine Ends.pre (T' := T42.setTop (mkF m 210 #[.val (.int x0), .val (.int x1), .val (.int x2), .val (.int x3), .val (.int (2 : Int32)), .val (.int (x1 &&& (255 : Int32))), .val (.int (x2 &&& (255 : Int32))), .val (.ref b1), .val (.ref b10), .val (.ref b17), .val (.ref b35), .val (.ref r42)] [(.int ((x2 &&& (255 : Int32)).toInt8.toInt32)), (.int ((x2 &&& (255 : Int32)).toInt8.toInt32))])) (fun t k => XS.i2b X42.here hx rfl (hb hby at_209) rfl k) ?_
    refine Ends.pre (T' := T42.setTop (mkF m 215 #[.val (.int x0), .val (.int x1), .val (.int x2), .val (.int x3), .val (.int (2 : Int32)), .val (.int (x1 &&& (255 : Int32))), .val (.int (x2 &&& (255 : Int32))), .val (.ref b1), .val (.ref b10), .val (.ref b17), .val (.ref b35), .val (.ref r42)] [])) (fun t k => XS.icmpYes X42.here hx rfl (pc0 := 210) (pc' := 215) rfl (hb hby at_210) rfl (Jvm.Free.XT.ii_eq_t rfl) (by decide) (by decide) k) ?_
    refine Ends.pre (T' := T42.setTop (mkF m 216 #[.val (.int x0), .val (.int x1), .val (.int x2), .val (.int x3), .val (.int (2 : Int32)), .val (.int (x1 &&& (255 : Int32))), .val (.int (x2 &&& (255 : Int32))), .val (.ref b1), .val (.ref b10), .val (.ref b17), .val (.ref b35), .val (.ref r42)] [(.int (1 : Int32))])) (fun t k => XS.iconst X42.here hx rfl (hb hby at_215) k) ?_
    exact Ends.retW (w := (.int (1 : Int32))) X42 hx Bd.notSynchronized Bd.returns rfl (Or.inl ⟨rfl, Or.inr (Or.inl rfl), _, rfl⟩) (hb hby at_216) rfl hZ hEL hS0 (Nat.le_trans (Nat.le_trans (Nat.le_trans (Nat.le_trans (Nat.le_trans (Nat.le_trans (Nat.le_trans (Nat.le_trans (Nat.le_trans (Nat.le_trans (Nat.le_trans (Nat.le_trans hk0 E1.1) (Keep.of_wr W3).1) (Keep.of_wr W5).1) (Keep.of_wr W7).1) (Keep.of_wr W9).1) E10.1) (Keep.of_wr W13).1) (Keep.of_wr W16).1) E17.1) E35.1) Kc39.1) Kc42.1) hh CR42 ⟨rfl, N42⟩ (by decide) (by decide)
set_option maxRecDepth 65536 in
set_option maxHeartbeats 40000000 in
theorem comes_1 {Post : Tables → Env → Array Value → State → Outcome → State → Prop} (hpost : ∀ tb e args s v u, (limb_1_1.after args s (.returned v) u = true ∧ limb_1_2.after args s (.returned v) u = true ∧ True) → ReturnedEndW s (.returned v) u (Jvm.fieldLocs frame_1_writes args s ++ Jvm.arrayLocs frame_1_arrays args s ++ Jvm.staticLocs frame_1_statics s) 24 1152 → Post tb e args s (.returned v) u) :
    ArmFor flags0 classFile x code maxLocals ret World_1 tables_1 room_1 Calls_1 rest_1 Pre_1 Post := by
  intro l hfl _ _ p e ha hc hk s m args below hf hA hF happ hP
  obtain ⟨hcalls, hrest, hpre⟩ := hP
  obtain ⟨-, -, -, hnamed, -, -, -, hat⟩ := (Spec.applies_iff hf).mp happ
  obtain ⟨hg, hn⟩ := and_e (Cond.before_iff.mp (show (Jvm.Cond.and given_1 narrow_1).before args s = true from hpre))
  obtain ⟨gg1, gg2⟩ := and_e hg
  obtain ⟨gg3, gg4⟩ := and_e gg2
  obtain ⟨gg5, gg6⟩ := and_e gg4
  obtain ⟨gg7, gg8⟩ := and_e gg6
  obtain ⟨w0, w1, w2, w3, rfl⟩ : ∃ w0 w1 w2 w3 : Value, args = #[w0, w1, w2, w3] := by
    have hs : args.size = 4 := by simpa [Cond.value, given_1] using gg1
    obtain ⟨L⟩ := args
    match L, hs with
    | [w0, w1, w2, w3], _ => exact ⟨w0, w1, w2, w3, rfl⟩
  have hw := fun d (hd : d ∈ tables_1) => atoms_spec (ws := Jvm.Cond.code x code maxLocals ret :: tables_1) hat d (List.mem_cons_of_mem _ hd)
  have hfit : Fit s := fun {y c} hc i hi => by
    obtain ⟨ha, rfl⟩ := Array.getElem?_eq_some_iff.mp hc
    have q := List.all_eq_true.mp ((Array.all_eq_true_iff_forall_mem.mp hF) _ (Array.getElem_mem ha)) i (List.mem_range.mpr hi)
    simpa [Array.getElem?_eq_getElem hi] using q
  obtain ⟨hsets, hown0⟩ := atoms_of _ (rest_1_c_eq ▸ (show rest_1_c.before _ s = true from hrest))
  have hr0 := Cond.before_iff.mp hown0
  obtain ⟨i0, ei0⟩ := is_v gg3
  obtain rfl : w0 = (.int i0) := Option.some.inj ei0
  obtain ⟨i1, ei1⟩ := is_v gg5
  obtain rfl : w1 = (.int i1) := Option.some.inj ei1
  obtain ⟨i2, ei2⟩ := is_v gg7
  obtain rfl : w2 = (.int i2) := Option.some.inj ei2
  obtain ⟨i3, ei3⟩ := is_v gg8
  obtain rfl : w3 = (.int i3) := Option.some.inj ei3
  obtain ⟨cz, ecz⟩ := is_v (Cond.before_iff.mp (hsets _ (List.mem_of_getElem? (i := 1) rfl)))
  have SCS : Sta s s.heap "java/lang/String" "COMPACT_STRINGS" "Z" (.int cz) := Sta.start ecz (Or.inl (hsets _ (List.mem_of_getElem? (i := 0) rfl)))
  have hcz : ¬ cz = 0 := gotF (Cond.eq_ints ecz (Term.int_eval (0))) (not_v (Cond.before_iff.mp (hsets _ (List.mem_of_getElem? (i := 2) rfl))))
  obtain ⟨fm, efm, hfm⟩ := isR_v (Cond.before_iff.mp (hsets _ (List.mem_of_getElem? (i := 8) rfl)))
  have SFM : Sta s s.heap "jdk/internal/util/Preconditions" "SIOOBE_FORMATTER" "Ljava/util/function/BiFunction;" fm := Sta.start efm (Or.inl (hsets _ (List.mem_of_getElem? (i := 7) rfl)))
  have hcw := (hsets _ (List.mem_of_getElem? (i := 2) rfl))
  have hCH : CHv s consts_1 s.vm s.heap := CHv.start (own_EW hw) (fun p hp => hcalls.1 p hp) hcw (hw _ (List.mem_of_getElem? (i := 20) rfl)) (hw _ (List.mem_of_getElem? (i := 7) rfl))
  obtain ⟨n, o, h1, h2, h3, _, L, rfl, ⟨rfl, N⟩, -, hq⟩ := rm0 l s _ hw tables_1 i0 i1 i2 i3 cz fm s.heap s.heap.size (Nat.le_refl _) SCS hcz SFM hfm p e ha hc hk s m _ below hf ((Spec.applies_iff_loose hf).mp happ).1 ⟨rfl, State.Warmed39.refl s, rfl, hCH⟩ trivial
  refine ⟨n, _, h1, h2, h3, hpost _ _ _ _ _ _ ⟨Cond.after_iff.mpr rfl, Cond.after_iff.mpr (eq_i res_at (Term.int_eval (1)) rfl), trivial⟩ ⟨hq.1, hq.2.1, hq.2.2.1, (hq.2.2.2.sift fun y hy => Or.inr (N y hy)).mono (by decide) (by decide)⟩⟩
theorem main_1_1 : Claimed_1_1 := comes_1 fun _ _ _ _ _ _ h hF => ⟨h.1, hF⟩
theorem main_1_2 : Claimed_1_2 := comes_1 fun _ _ _ _ _ _ h hF => ⟨h.2.1, hF⟩
end Jvm.Pilot.@@N@@
namespace Jvm.Pilot.@@N@@
open Jvm Jvm.ClassFile Sem Op Lib Jvm.Free Jvm.Stand Jvm.Pilot.@@N@@.Jvm.D
/-! MADE BY PROGRAM (witnessworld.py) out of the Statement's table words and the real class files: 20 classes; the members and pool entries that the words name. The judged class is class 1, her method 2. -/
namespace start1
open Jvm.ClassFile
def u (s : String) : CpInfo := .utf8 (stringToUtf16 s)
/-- a pool by its gaps: so many unusable entries, then the entry; so many at the end -/
def gap : Nat → List CpInfo → List CpInfo
  | 0, r => r
  | n + 1, r => .unusable :: gap n r
def poolList (es : List (Nat × CpInfo)) (last : Nat) : List CpInfo := es.foldr (fun e r => gap e.1 (e.2 :: r)) (gap last [])
def pool (es : List (Nat × CpInfo)) (last : Nat) : Array CpInfo := ⟨poolList es last⟩
def fileOf (pool : Array CpInfo) (this : Nat) (attrs : Array Attribute := #[]) (ms : Array MethodInfo := #[]) (fl : Nat := 33) (sup : Nat := 0) (ifs : Array Nat := #[]) (fds : Array FieldInfo := #[]) : ClassFile where
  minorVersion := 0
  majorVersion := 65
  constantPool := pool
  accessFlags := fl
  thisClass := this
  superClass := sup
  interfaces := ifs
  fields := fds
  methods := ms
  attributes := attrs
def plain (name : String) (sup : Option ClassId) : Class where
  name := name
  kind := .ordinary
  loader := none
  accessFlags := 33
  super := sup
  interfaces := #[]
  cf := none
  fields := #[]
  methods := #[]
  instanceTypes := #[]
  staticTypes := #[]
  resolved := #[]
  callSites := []
  init := .initialized
  statics := none
  mirror := none

def pool0 : Array CpInfo := pool [(5, u "<init>"), (0, u "()V"), (1, .class_ 10), (1, u "java/lang/Object")] 113

def k0c0 : Code := { maxStack := 0, maxLocals := 1, code := object_method_1_code, exceptionTable := #[], attributes := #[] }
def k0m0 : Method := { name := "<init>", desc := "()V", sig := { parameters := [], returnType := none }, accessFlags := 1, code := some k0c0 }
/-- java/lang/Object -/
def k0 : Class := { plain "java/lang/Object" none with
  accessFlags := 33
  interfaces := #[]
  cf := some (fileOf pool0 8 #[] #[{ accessFlags := 1, nameIndex := 5, descriptorIndex := 6, attributes := #[] }] 33 0 #[] #[])
  fields := #[]
  methods := #[k0m0]
  instanceTypes := #[]
  staticTypes := #[]
  resolved := Array.replicate 124 none
  statics := none }

def pool1 : Array CpInfo := pool [(2, .class_ 4), (1, u "java/lang/Object"), (0, u "<init>"), (0, u "()V"), (0, .integer 2147483647), (0, .methodref 9 10), (0, .class_ 11), (0, .nameAndType 12 13), (0, u "com/example/wireform/wireform/HexParsePinLaw"), (0, u "hexChar"), (0, u "(II)C"), (0, .class_ 15), (0, u "java/lang/String"), (0, .methodref 14 17), (0, .nameAndType 5 18), (0, u "([C)V"), (0, .methodref 20 21), (0, .class_ 22), (0, .nameAndType 23 24), (0, u "com/example/wireform/wireform/Hex"), (0, u "parse"), (0, u "(Ljava/lang/String;)[B"), (3, u "law"), (0, u "(IIII)Z")] 6

def k1m0 : Method := { name := "<init>", desc := "()V", sig := { parameters := [], returnType := none }, accessFlags := 1, code := none }
def k1c1 : Code := { maxStack := 3, maxLocals := 2, code := method_2_code, exceptionTable := #[], attributes := #[] }
def k1m1 : Method := { name := "hexChar", desc := "(II)C", sig := { parameters := [.int, .int], returnType := some .char }, accessFlags := 10, code := some k1c1 }
def k1c2 : Code := { maxStack := 5, maxLocals := 12, code := code, exceptionTable := #[], attributes := #[] }
def k1m2 : Method := { name := "law", desc := "(IIII)Z", sig := { parameters := [.int, .int, .int, .int], returnType := some .boolean }, accessFlags := 9, code := some k1c2 }
/-- com/example/wireform/wireform/HexParsePinLaw -/
def k1 : Class := { plain "com/example/wireform/wireform/HexParsePinLaw" (some 0) with
  accessFlags := 49
  interfaces := #[]
  cf := some (fileOf pool1 9 #[] #[{ accessFlags := 1, nameIndex := 5, descriptorIndex := 6, attributes := #[] }, { accessFlags := 10, nameIndex := 12, descriptorIndex := 13, attributes := #[] }, { accessFlags := 9, nameIndex := 28, descriptorIndex := 29, attributes := #[] }] 49 2 #[] #[])
  fields := #[]
  methods := #[k1m0, k1m1, k1m2]
  instanceTypes := #[]
  staticTypes := #[]
  resolved := Array.replicate 36 none
  statics := none }

def pool2 : Array CpInfo := pool [(1, .class_ 2), (0, u "java/io/Serializable"), (0, .class_ 4), (0, u "java/lang/Object")] 2

/-- java/io/Serializable -/
def k2 : Class := { plain "java/io/Serializable" (some 0) with
  accessFlags := 1537
  interfaces := #[]
  cf := some (fileOf pool2 1 #[] #[] 1537 3 #[] #[])
  fields := #[]
  methods := #[]
  instanceTypes := #[]
  staticTypes := #[]
  resolved := Array.replicate 7 none
  statics := none }

def pool3 : Array CpInfo := pool [(1, .class_ 2), (0, u "java/lang/Comparable"), (0, .class_ 4), (0, u "java/lang/Object")] 7

/-- java/lang/Comparable -/
def k3 : Class := { plain "java/lang/Comparable" (some 0) with
  accessFlags := 1537
  interfaces := #[]
  cf := some (fileOf pool3 1 #[] #[] 1537 3 #[] #[])
  fields := #[]
  methods := #[]
  instanceTypes := #[]
  staticTypes := #[]
  resolved := Array.replicate 12 none
  statics := none }

def pool4 : Array CpInfo := pool [(2, .class_ 4), (1, u "java/lang/CharSequence"), (42, .class_ 48), (0, u "java/lang/CharSequence$1CodePointIterator"), (10, .class_ 60), (0, u "java/lang/CharSequence$1CharIterator"), (5, .class_ 67), (0, u "java/lang/Object")] 63

/-- java/lang/CharSequence -/
def k4 : Class := { plain "java/lang/CharSequence" (some 0) with
  accessFlags := 1537
  interfaces := #[]
  cf := some (fileOf pool4 2 #[.nestMembers #[47, 59]] #[] 1537 66 #[] #[])
  fields := #[]
  methods := #[]
  instanceTypes := #[]
  staticTypes := #[]
  resolved := Array.replicate 131 none
  statics := none }

def pool5 : Array CpInfo := pool [(1, .class_ 2), (0, u "java/lang/constant/Constable"), (0, .class_ 4), (0, u "java/lang/Object")] 6

/-- java/lang/constant/Constable -/
def k5 : Class := { plain "java/lang/constant/Constable" (some 0) with
  accessFlags := 1537
  interfaces := #[]
  cf := some (fileOf pool5 1 #[] #[] 1537 3 #[] #[])
  fields := #[]
  methods := #[]
  instanceTypes := #[]
  staticTypes := #[]
  resolved := Array.replicate 11 none
  statics := none }

def pool6 : Array CpInfo := pool [(1, .class_ 2), (0, u "java/lang/constant/ConstantDesc"), (0, .class_ 4), (0, u "java/lang/Object")] 32

/-- java/lang/constant/ConstantDesc -/
def k6 : Class := { plain "java/lang/constant/ConstantDesc" (some 0) with
  accessFlags := 1537
  interfaces := #[]
  cf := some (fileOf pool6 1 #[] #[] 1537 3 #[] #[])
  fields := #[]
  methods := #[]
  instanceTypes := #[]
  staticTypes := #[]
  resolved := Array.replicate 37 none
  statics := none }

def pool7 : Array CpInfo := pool [(1, .methodref 2 3), (0, .class_ 4), (0, .nameAndType 5 6), (0, u "java/lang/Object"), (0, u "<init>"), (0, u "()V"), (0, .string 8), (0, u ""), (0, .fieldref 10 11), (0, .class_ 12), (0, .nameAndType 13 14), (0, u "java/lang/String"), (0, u "value"), (0, u "[B"), (0, .fieldref 10 16), (0, .nameAndType 17 18), (0, u "coder"), (0, u "B"), (2, u "hash"), (0, u "I"), (2, u "hashIsZero"), (0, u "Z"), (0, .methodref 10 28), (0, .nameAndType 5 29), (0, u "([CIILjava/lang/Void;)V"), (8, .fieldref 10 39), (0, .nameAndType 40 26), (0, u "COMPACT_STRINGS"), (1, .class_ 44), (1, u "java/lang/StringUTF16"), (0, u "compress"), (1, .methodref 42 48), (0, .nameAndType 49 50), (0, u "coderFromArrayLen"), (0, u "([BI)B"), (56, .class_ 109), (1, u "java/lang/StringLatin1"), (32, u "()Z"), (34, .methodref 42 178), (0, .nameAndType 45 179), (0, u "([CII)[B"), (154, u "()I"), (0, .methodref 10 336), (0, .nameAndType 17 337), (0, u "()B"), (25, u "([BI)C"), (27, u "(II)V"), (35, u "(I)C"), (64, .methodref 10 493), (0, .nameAndType 494 142), (0, u "isLatin1"), (0, .methodref 107 496), (0, .nameAndType 497 363), (0, u "charAt"), (3, u "checkIndex"), (5, u "length"), (67, .class_ 576), (0, u "java/lang/CharSequence"), (22, u "CASE_INSENSITIVE_ORDER"), (0, u "Ljava/util/Comparator;"), (409, u "([C)V"), (42, .fieldref 1054 1055), (0, .class_ 1056), (0, .nameAndType 1057 1058), (0, u "jdk/internal/util/Preconditions"), (0, u "SIOOBE_FORMATTER"), (0, u "Ljava/util/function/BiFunction;"), (0, .methodref 1054 1060), (0, .nameAndType 501 1061), (0, u "(IILjava/util/function/BiFunction;)I"), (39, u "serialPersistentFields"), (0, u "[Ljava/io/ObjectStreamField;"), (0, .class_ 1104), (0, u "java/lang/String$CaseInsensitiveComparator"), (1, .class_ 1107), (0, u "java/io/Serializable"), (0, .class_ 1109), (0, u "java/lang/Comparable"), (0, .class_ 1111), (0, u "java/lang/constant/Constable"), (0, .class_ 1113), (0, u "java/lang/constant/ConstantDesc"), (2, u "serialVersionUID"), (0, u "J"), (3, u "REPL"), (0, u "C"), (2, u "LATIN1"), (1, u "UTF16")] 323

def k7m0 : Method := { name := "<init>", desc := "()V", sig := { parameters := [], returnType := none }, accessFlags := 1, code := none }
def k7c1 : Code := { maxStack := 5, maxLocals := 2, code := jdk_42_method_3_code, exceptionTable := #[], attributes := #[] }
def k7m1 : Method := { name := "<init>", desc := "([C)V", sig := { parameters := [(.array .char)], returnType := none }, accessFlags := 1, code := some k7c1 }
def k7c2 : Code := { maxStack := 2, maxLocals := 1, code := jdk_42_method_54_code, exceptionTable := #[], attributes := #[] }
def k7m2 : Method := { name := "length", desc := "()I", sig := { parameters := [], returnType := some .int }, accessFlags := 1, code := some k7c2 }
def k7c3 : Code := { maxStack := 2, maxLocals := 2, code := jdk_42_method_56_code, exceptionTable := #[], attributes := #[] }
def k7m3 : Method := { name := "charAt", desc := "(I)C", sig := { parameters := [.int], returnType := some .char }, accessFlags := 1, code := some k7c3 }
def k7c4 : Code := { maxStack := 4, maxLocals := 6, code := jdk_42_method_149_code, exceptionTable := #[], attributes := #[] }
def k7m4 : Method := { name := "<init>", desc := "([CIILjava/lang/Void;)V", sig := { parameters := [(.array .char), .int, .int, (.object "java/lang/Void")], returnType := none }, accessFlags := 2, code := some k7c4 }
def k7c5 : Code := { maxStack := 1, maxLocals := 1, code := jdk_42_method_152_code, exceptionTable := #[], attributes := #[] }
def k7m5 : Method := { name := "coder", desc := "()B", sig := { parameters := [], returnType := some .byte }, accessFlags := 0, code := some k7c5 }
def k7c6 : Code := { maxStack := 1, maxLocals := 1, code := jdk_42_method_154_code, exceptionTable := #[], attributes := #[] }
def k7m6 : Method := { name := "isLatin1", desc := "()Z", sig := { parameters := [], returnType := some .boolean }, accessFlags := 0, code := some k7c6 }
def k7c7 : Code := { maxStack := 3, maxLocals := 2, code := jdk_42_method_155_code, exceptionTable := #[], attributes := #[] }
def k7m7 : Method := { name := "checkIndex", desc := "(II)V", sig := { parameters := [.int, .int], returnType := none }, accessFlags := 8, code := some k7c7 }
/-- java/lang/String -/
def k7 : Class := { plain "java/lang/String" (some 0) with
  accessFlags := 49
  interfaces := #[2, 3, 4, 5, 6]
  cf := some (fileOf pool7 10 #[.nestMembers #[1103]] #[{ accessFlags := 1, nameIndex := 5, descriptorIndex := 6, attributes := #[] }, { accessFlags := 1, nameIndex := 5, descriptorIndex := 1010, attributes := #[] }, { accessFlags := 1, nameIndex := 507, descriptorIndex := 334, attributes := #[] }, { accessFlags := 1, nameIndex := 497, descriptorIndex := 427, attributes := #[] }, { accessFlags := 2, nameIndex := 5, descriptorIndex := 29, attributes := #[] }, { accessFlags := 0, nameIndex := 17, descriptorIndex := 337, attributes := #[] }, { accessFlags := 0, nameIndex := 494, descriptorIndex := 142, attributes := #[] }, { accessFlags := 8, nameIndex := 501, descriptorIndex := 391, attributes := #[] }] 49 2 #[1106, 1108, 575, 1110, 1112] #[{ accessFlags := 18, nameIndex := 13, descriptorIndex := 14, attributes := #[] }, { accessFlags := 18, nameIndex := 17, descriptorIndex := 18, attributes := #[] }, { accessFlags := 2, nameIndex := 21, descriptorIndex := 22, attributes := #[] }, { accessFlags := 2, nameIndex := 25, descriptorIndex := 26, attributes := #[] }, { accessFlags := 26, nameIndex := 1116, descriptorIndex := 1117, attributes := #[] }, { accessFlags := 24, nameIndex := 40, descriptorIndex := 26, attributes := #[] }, { accessFlags := 26, nameIndex := 1101, descriptorIndex := 1102, attributes := #[] }, { accessFlags := 26, nameIndex := 1121, descriptorIndex := 1122, attributes := #[] }, { accessFlags := 25, nameIndex := 599, descriptorIndex := 600, attributes := #[] }, { accessFlags := 24, nameIndex := 1125, descriptorIndex := 18, attributes := #[] }, { accessFlags := 24, nameIndex := 1127, descriptorIndex := 18, attributes := #[] }])
  fields := #[{ name := "value", type := (.array .byte), accessFlags := 18, slot := 0, constantValue := 0 }, { name := "coder", type := .byte, accessFlags := 18, slot := 1, constantValue := 0 }, { name := "hash", type := .int, accessFlags := 2, slot := 2, constantValue := 0 }, { name := "hashIsZero", type := .boolean, accessFlags := 2, slot := 3, constantValue := 0 }, { name := "serialVersionUID", type := .long, accessFlags := 26, slot := 0, constantValue := 0 }, { name := "COMPACT_STRINGS", type := .boolean, accessFlags := 24, slot := 1, constantValue := 0 }, { name := "serialPersistentFields", type := (.array (.object "java/io/ObjectStreamField")), accessFlags := 26, slot := 2, constantValue := 0 }, { name := "REPL", type := .char, accessFlags := 26, slot := 3, constantValue := 0 }, { name := "CASE_INSENSITIVE_ORDER", type := (.object "java/util/Comparator"), accessFlags := 25, slot := 4, constantValue := 0 }, { name := "LATIN1", type := .byte, accessFlags := 24, slot := 5, constantValue := 0 }, { name := "UTF16", type := .byte, accessFlags := 24, slot := 6, constantValue := 0 }]
  methods := #[k7m0, k7m1, k7m2, k7m3, k7m4, k7m5, k7m6, k7m7]
  instanceTypes := #[(.array .byte), .byte, .int, .boolean]
  staticTypes := #[.long, .boolean, (.array (.object "java/io/ObjectStreamField")), .char, (.object "java/util/Comparator"), .byte, .byte]
  resolved := Array.replicate 1451 none
  statics := some 0 }

def pool8 : Array CpInfo := pool [(2, .class_ 4), (1, u "java/lang/Object"), (0, u "<init>"), (0, u "()V"), (1, .class_ 10), (1, u "com/example/wireform/wireform/Hex"), (0, u "DIGITS"), (0, u "[C"), (0, .class_ 14), (0, u "java/lang/String"), (3, .methodref 13 19), (0, .nameAndType 20 21), (0, u "length"), (0, u "()I"), (9, .methodref 8 32), (0, .nameAndType 33 34), (0, u "digit"), (0, u "(Ljava/lang/String;I)I"), (0, .methodref 13 36), (0, .nameAndType 37 38), (0, u "charAt"), (0, u "(I)C"), (15, u "parse"), (0, u "(Ljava/lang/String;)[B")] 22

def k8m0 : Method := { name := "<init>", desc := "()V", sig := { parameters := [], returnType := none }, accessFlags := 2, code := none }
def k8c1 : Code := { maxStack := 6, maxLocals := 3, code := prog_2_method_3_code, exceptionTable := #[], attributes := #[] }
def k8m1 : Method := { name := "parse", desc := "(Ljava/lang/String;)[B", sig := { parameters := [(.object "java/lang/String")], returnType := some (.array .byte) }, accessFlags := 8, code := some k8c1 }
def k8c2 : Code := { maxStack := 4, maxLocals := 4, code := prog_2_method_4_code, exceptionTable := #[], attributes := #[] }
def k8m2 : Method := { name := "digit", desc := "(Ljava/lang/String;I)I", sig := { parameters := [(.object "java/lang/String"), .int], returnType := some .int }, accessFlags := 10, code := some k8c2 }
/-- com/example/wireform/wireform/Hex -/
def k8 : Class := { plain "com/example/wireform/wireform/Hex" (some 0) with
  accessFlags := 48
  interfaces := #[]
  cf := some (fileOf pool8 8 #[] #[{ accessFlags := 2, nameIndex := 5, descriptorIndex := 6, attributes := #[] }, { accessFlags := 8, nameIndex := 54, descriptorIndex := 55, attributes := #[] }, { accessFlags := 10, nameIndex := 33, descriptorIndex := 34, attributes := #[] }] 48 2 #[] #[{ accessFlags := 26, nameIndex := 11, descriptorIndex := 12, attributes := #[] }])
  fields := #[{ name := "DIGITS", type := (.array .char), accessFlags := 26, slot := 0, constantValue := 0 }]
  methods := #[k8m0, k8m1, k8m2]
  instanceTypes := #[]
  staticTypes := #[(.array .char)]
  resolved := Array.replicate 78 none
  statics := none }

def pool9 : Array CpInfo := pool [(6, .class_ 8), (1, u "java/lang/Object"), (0, u "<init>"), (0, u "()V"), (1, .class_ 14), (1, u "java/lang/StringUTF16"), (31, u "$assertionsDisabled"), (0, u "Z"), (13, u "HI_BYTE_SHIFT"), (0, u "I"), (2, u "LO_BYTE_SHIFT"), (49, .methodref 12 116), (0, .nameAndType 117 118), (0, u "compress"), (0, u "([CI[BII)I"), (3, u "([CII)[B"), (138, u "coderFromArrayLen"), (0, u "([BI)B"), (106, .class_ 371), (1, u "java/lang/StringUTF16$LinesSpliterator"), (58, u "MAX_LENGTH"), (196, .class_ 628), (0, u "java/lang/StringUTF16$CodePointsSpliterator"), (0, .class_ 630), (0, u "java/lang/StringUTF16$CharsSpliterator")] 4

def k9m0 : Method := { name := "<init>", desc := "()V", sig := { parameters := [], returnType := none }, accessFlags := 0, code := none }
def k9c1 : Code := { maxStack := 2, maxLocals := 2, code := jdk_52_method_15_code, exceptionTable := #[], attributes := #[] }
def k9m1 : Method := { name := "coderFromArrayLen", desc := "([BI)B", sig := { parameters := [(.array .byte), .int], returnType := some .byte }, accessFlags := 8, code := some k9c1 }
def k9c2 : Code := { maxStack := 5, maxLocals := 6, code := jdk_52_method_16_code, exceptionTable := #[], attributes := #[] }
def k9m2 : Method := { name := "compress", desc := "([CII)[B", sig := { parameters := [(.array .char), .int, .int], returnType := some (.array .byte) }, accessFlags := 9, code := some k9c2 }
def k9c3 : Code := { maxStack := 3, maxLocals := 7, code := jdk_52_method_21_code, exceptionTable := #[], attributes := #[] }
def k9m3 : Method := { name := "compress", desc := "([CI[BII)I", sig := { parameters := [(.array .char), .int, (.array .byte), .int, .int], returnType := some .int }, accessFlags := 9, code := some k9c3 }
/-- java/lang/StringUTF16 -/
def k9 : Class := { plain "java/lang/StringUTF16" (some 0) with
  accessFlags := 48
  interfaces := #[]
  cf := some (fileOf pool9 12 #[.nestMembers #[627, 629, 369]] #[{ accessFlags := 0, nameIndex := 9, descriptorIndex := 10, attributes := #[] }, { accessFlags := 8, nameIndex := 261, descriptorIndex := 262, attributes := #[] }, { accessFlags := 9, nameIndex := 117, descriptorIndex := 122, attributes := #[] }, { accessFlags := 9, nameIndex := 117, descriptorIndex := 118, attributes := #[] }] 48 6 #[] #[{ accessFlags := 26, nameIndex := 61, descriptorIndex := 62, attributes := #[] }, { accessFlags := 26, nameIndex := 65, descriptorIndex := 62, attributes := #[] }, { accessFlags := 24, nameIndex := 430, descriptorIndex := 62, attributes := #[] }, { accessFlags := 4120, nameIndex := 46, descriptorIndex := 47, attributes := #[] }])
  fields := #[{ name := "HI_BYTE_SHIFT", type := .int, accessFlags := 26, slot := 0, constantValue := 0 }, { name := "LO_BYTE_SHIFT", type := .int, accessFlags := 26, slot := 1, constantValue := 0 }, { name := "MAX_LENGTH", type := .int, accessFlags := 24, slot := 2, constantValue := 0 }, { name := "$assertionsDisabled", type := .boolean, accessFlags := 4120, slot := 3, constantValue := 0 }]
  methods := #[k9m0, k9m1, k9m2, k9m3]
  instanceTypes := #[]
  staticTypes := #[.int, .int, .int, .boolean]
  resolved := Array.replicate 635 none
  statics := none }

def pool10 : Array CpInfo := pool [(1, .class_ 2), (0, u "java/lang/String"), (1, .class_ 6), (1, u "java/lang/Object"), (0, u "<init>"), (0, u "()V"), (0, .methodref 1 10), (0, .nameAndType 11 12), (0, u "checkIndex"), (0, u "(II)V"), (1, .class_ 16), (1, u "java/lang/StringLatin1"), (36, u "([BI)C"), (67, u "$assertionsDisabled"), (0, u "Z"), (98, .class_ 223), (1, u "java/lang/StringLatin1$LinesSpliterator"), (28, u "charAt"), (137, .class_ 391), (0, u "java/lang/StringLatin1$CharsSpliterator")] 3

def k10m0 : Method := { name := "<init>", desc := "()V", sig := { parameters := [], returnType := none }, accessFlags := 0, code := none }
def k10c1 : Code := { maxStack := 2, maxLocals := 2, code := jdk_43_method_2_code, exceptionTable := #[], attributes := #[] }
def k10m1 : Method := { name := "charAt", desc := "([BI)C", sig := { parameters := [(.array .byte), .int], returnType := some .char }, accessFlags := 9, code := some k10c1 }
/-- java/lang/StringLatin1 -/
def k10 : Class := { plain "java/lang/StringLatin1" (some 0) with
  accessFlags := 48
  interfaces := #[]
  cf := some (fileOf pool10 14 #[.nestMembers #[390, 221]] #[{ accessFlags := 0, nameIndex := 7, descriptorIndex := 8, attributes := #[] }, { accessFlags := 9, nameIndex := 252, descriptorIndex := 53, attributes := #[] }] 48 4 #[] #[{ accessFlags := 4120, nameIndex := 121, descriptorIndex := 122, attributes := #[] }])
  fields := #[{ name := "$assertionsDisabled", type := .boolean, accessFlags := 4120, slot := 0, constantValue := 0 }]
  methods := #[k10m0, k10m1]
  instanceTypes := #[]
  staticTypes := #[.boolean]
  resolved := Array.replicate 395 none
  statics := none }

def pool11 : Array CpInfo := pool [(2, .class_ 4), (1, u "java/lang/Object"), (0, u "<init>"), (0, u "()V"), (17, .class_ 26), (1, u "jdk/internal/util/Preconditions"), (6, u "checkIndex"), (21, .class_ 56), (0, u "jdk/internal/util/Preconditions$4"), (57, .class_ 115), (0, u "jdk/internal/util/Preconditions$1"), (7, u "SIOOBE_FORMATTER"), (0, u "Ljava/util/function/BiFunction;"), (0, .class_ 126), (0, u "jdk/internal/util/Preconditions$2"), (3, u "AIOOBE_FORMATTER"), (0, .class_ 132), (0, u "jdk/internal/util/Preconditions$3"), (3, u "IOOBE_FORMATTER"), (41, u "(IILjava/util/function/BiFunction;)I")] 15

def k11m0 : Method := { name := "<init>", desc := "()V", sig := { parameters := [], returnType := none }, accessFlags := 1, code := none }
def k11c1 : Code := { maxStack := 3, maxLocals := 3, code := jdk_41_method_11_code, exceptionTable := #[], attributes := #[] }
def k11m1 : Method := { name := "checkIndex", desc := "(IILjava/util/function/BiFunction;)I", sig := { parameters := [.int, .int, (.object "java/util/function/BiFunction")], returnType := some .int }, accessFlags := 9, code := some k11c1 }
/-- jdk/internal/util/Preconditions -/
def k11 : Class := { plain "jdk/internal/util/Preconditions" (some 0) with
  accessFlags := 33
  interfaces := #[]
  cf := some (fileOf pool11 24 #[.nestMembers #[55, 131, 125, 114]] #[{ accessFlags := 1, nameIndex := 5, descriptorIndex := 6, attributes := #[] }, { accessFlags := 9, nameIndex := 33, descriptorIndex := 178, attributes := #[] }] 33 2 #[] #[{ accessFlags := 25, nameIndex := 123, descriptorIndex := 124, attributes := #[] }, { accessFlags := 25, nameIndex := 130, descriptorIndex := 124, attributes := #[] }, { accessFlags := 25, nameIndex := 136, descriptorIndex := 124, attributes := #[] }])
  fields := #[{ name := "SIOOBE_FORMATTER", type := (.object "java/util/function/BiFunction"), accessFlags := 25, slot := 0, constantValue := 0 }, { name := "AIOOBE_FORMATTER", type := (.object "java/util/function/BiFunction"), accessFlags := 25, slot := 1, constantValue := 0 }, { name := "IOOBE_FORMATTER", type := (.object "java/util/function/BiFunction"), accessFlags := 25, slot := 2, constantValue := 0 }]
  methods := #[k11m0, k11m1]
  instanceTypes := #[]
  staticTypes := #[(.object "java/util/function/BiFunction"), (.object "java/util/function/BiFunction"), (.object "java/util/function/BiFunction")]
  resolved := Array.replicate 194 none
  statics := some 1 }

def pool12 : Array CpInfo := pool [(9, u "<init>"), (6, .class_ 18), (1, u "java/lang/Object"), (0, u "()V"), (1, .class_ 23), (1, u "jdk/internal/util/ArraysSupport"), (0, u "LOG2_ARRAY_LONG_INDEX_SCALE"), (0, u "I"), (2, u "U"), (0, u "Ljdk/internal/misc/Unsafe;"), (8, u "BIG_ENDIAN"), (0, u "Z"), (8, u "LOG2_BYTE_BIT_SIZE"), (4, u "LOG2_ARRAY_INT_INDEX_SCALE"), (54, u "JLA"), (0, u "Ljdk/internal/access/JavaLangAccess;"), (11, u "LOG2_ARRAY_BOOLEAN_INDEX_SCALE"), (9, u "LOG2_ARRAY_BYTE_INDEX_SCALE"), (5, u "LOG2_ARRAY_CHAR_INDEX_SCALE"), (5, u "LOG2_ARRAY_SHORT_INDEX_SCALE"), (18, u "LOG2_ARRAY_FLOAT_INDEX_SCALE"), (24, u "LOG2_ARRAY_DOUBLE_INDEX_SCALE"), (89, u "T_BOOLEAN"), (2, u "T_CHAR"), (1, u "T_FLOAT"), (1, u "T_DOUBLE"), (1, u "T_BYTE"), (1, u "T_SHORT"), (1, u "T_INT"), (1, u "T_LONG"), (1, u "SOFT_MAX_ARRAY_LENGTH")] 83

def k12m0 : Method := { name := "<init>", desc := "()V", sig := { parameters := [], returnType := none }, accessFlags := 2, code := none }
/-- jdk/internal/util/ArraysSupport -/
def k12 : Class := { plain "jdk/internal/util/ArraysSupport" (some 0) with
  accessFlags := 33
  interfaces := #[]
  cf := some (fileOf pool12 21 #[] #[{ accessFlags := 2, nameIndex := 9, descriptorIndex := 19, attributes := #[] }] 33 16 #[] #[{ accessFlags := 24, nameIndex := 28, descriptorIndex := 29, attributes := #[] }, { accessFlags := 26, nameIndex := 38, descriptorIndex := 39, attributes := #[] }, { accessFlags := 25, nameIndex := 121, descriptorIndex := 25, attributes := #[] }, { accessFlags := 25, nameIndex := 131, descriptorIndex := 25, attributes := #[] }, { accessFlags := 25, nameIndex := 137, descriptorIndex := 25, attributes := #[] }, { accessFlags := 25, nameIndex := 143, descriptorIndex := 25, attributes := #[] }, { accessFlags := 25, nameIndex := 53, descriptorIndex := 25, attributes := #[] }, { accessFlags := 25, nameIndex := 24, descriptorIndex := 25, attributes := #[] }, { accessFlags := 25, nameIndex := 162, descriptorIndex := 25, attributes := #[] }, { accessFlags := 25, nameIndex := 187, descriptorIndex := 25, attributes := #[] }, { accessFlags := 26, nameIndex := 48, descriptorIndex := 25, attributes := #[] }, { accessFlags := 25, nameIndex := 277, descriptorIndex := 25, attributes := #[] }, { accessFlags := 25, nameIndex := 280, descriptorIndex := 25, attributes := #[] }, { accessFlags := 25, nameIndex := 282, descriptorIndex := 25, attributes := #[] }, { accessFlags := 25, nameIndex := 284, descriptorIndex := 25, attributes := #[] }, { accessFlags := 25, nameIndex := 286, descriptorIndex := 25, attributes := #[] }, { accessFlags := 25, nameIndex := 288, descriptorIndex := 25, attributes := #[] }, { accessFlags := 25, nameIndex := 290, descriptorIndex := 25, attributes := #[] }, { accessFlags := 25, nameIndex := 292, descriptorIndex := 25, attributes := #[] }, { accessFlags := 26, nameIndex := 108, descriptorIndex := 109, attributes := #[] }, { accessFlags := 25, nameIndex := 294, descriptorIndex := 25, attributes := #[] }])
  fields := #[{ name := "U", type := (.object "jdk/internal/misc/Unsafe"), accessFlags := 24, slot := 0, constantValue := 0 }, { name := "BIG_ENDIAN", type := .boolean, accessFlags := 26, slot := 1, constantValue := 0 }, { name := "LOG2_ARRAY_BOOLEAN_INDEX_SCALE", type := .int, accessFlags := 25, slot := 2, constantValue := 0 }, { name := "LOG2_ARRAY_BYTE_INDEX_SCALE", type := .int, accessFlags := 25, slot := 3, constantValue := 0 }, { name := "LOG2_ARRAY_CHAR_INDEX_SCALE", type := .int, accessFlags := 25, slot := 4, constantValue := 0 }, { name := "LOG2_ARRAY_SHORT_INDEX_SCALE", type := .int, accessFlags := 25, slot := 5, constantValue := 0 }, { name := "LOG2_ARRAY_INT_INDEX_SCALE", type := .int, accessFlags := 25, slot := 6, constantValue := 0 }, { name := "LOG2_ARRAY_LONG_INDEX_SCALE", type := .int, accessFlags := 25, slot := 7, constantValue := 0 }, { name := "LOG2_ARRAY_FLOAT_INDEX_SCALE", type := .int, accessFlags := 25, slot := 8, constantValue := 0 }, { name := "LOG2_ARRAY_DOUBLE_INDEX_SCALE", type := .int, accessFlags := 25, slot := 9, constantValue := 0 }, { name := "LOG2_BYTE_BIT_SIZE", type := .int, accessFlags := 26, slot := 10, constantValue := 0 }, { name := "T_BOOLEAN", type := .int, accessFlags := 25, slot := 11, constantValue := 0 }, { name := "T_CHAR", type := .int, accessFlags := 25, slot := 12, constantValue := 0 }, { name := "T_FLOAT", type := .int, accessFlags := 25, slot := 13, constantValue := 0 }, { name := "T_DOUBLE", type := .int, accessFlags := 25, slot := 14, constantValue := 0 }, { name := "T_BYTE", type := .int, accessFlags := 25, slot := 15, constantValue := 0 }, { name := "T_SHORT", type := .int, accessFlags := 25, slot := 16, constantValue := 0 }, { name := "T_INT", type := .int, accessFlags := 25, slot := 17, constantValue := 0 }, { name := "T_LONG", type := .int, accessFlags := 25, slot := 18, constantValue := 0 }, { name := "JLA", type := (.object "jdk/internal/access/JavaLangAccess"), accessFlags := 26, slot := 19, constantValue := 0 }, { name := "SOFT_MAX_ARRAY_LENGTH", type := .int, accessFlags := 25, slot := 20, constantValue := 0 }]
  methods := #[k12m0]
  instanceTypes := #[]
  staticTypes := #[(.object "jdk/internal/misc/Unsafe"), .boolean, .int, .int, .int, .int, .int, .int, .int, .int, .int, .int, .int, .int, .int, .int, .int, .int, .int, (.object "jdk/internal/access/JavaLangAccess"), .int]
  resolved := Array.replicate 378 none
  statics := none }

def pool13 : Array CpInfo := pool [(1, u "java/lang/Cloneable"), (0, .class_ 1), (0, u "java/lang/Object"), (0, .class_ 3)] 3

/-- java/lang/Cloneable -/
def k13 : Class := { plain "java/lang/Cloneable" (some 0) with
  accessFlags := 1537
  interfaces := #[]
  cf := some (fileOf pool13 2 #[] #[] 1537 4 #[] #[])
  fields := #[]
  methods := #[]
  instanceTypes := #[]
  staticTypes := #[]
  resolved := Array.replicate 8 none
  statics := none }

/-- the primitive byte -/
def k14 : Class := { plain "byte" none with kind := .primitive 'B', accessFlags := 0x411 }
/-- [B -/
def k15 : Class := { plain "[B" (some 0) with kind := .array 14 .byte, interfaces := #[13, 2], accessFlags := 1041 }

/-- the primitive char -/
def k16 : Class := { plain "char" none with kind := .primitive 'C', accessFlags := 0x411 }
/-- [C -/
def k17 : Class := { plain "[C" (some 0) with kind := .array 16 .char, interfaces := #[13, 2], accessFlags := 1041 }

/-- the primitive int -/
def k18 : Class := { plain "int" none with kind := .primitive 'I', accessFlags := 0x411 }
/-- [I -/
def k19 : Class := { plain "[I" (some 0) with kind := .array 18 .int, interfaces := #[13, 2], accessFlags := 1041 }

def heap : Heap := #[{ cls := 7, slots := #[.long 0, .int 1, .null, .int 0, .null, .int 0, .int 0], vm := .statics 7 },
  { cls := 11, slots := #[.null, .null, .null], vm := .statics 11 }]
def classes : Array Class := #[k0, k1, k2, k3, k4, k5, k6, k7, k8, k9, k10, k11, k12, k13, k14, k15, k16, k17, k18, k19]
def interned : List (Array UInt16 × Addr) := []
def slotsUsed : Nat := 10
def theMethod : MethodId := ⟨1, 2⟩
def args0 : Array Value := #[.int 1, .int 1, .int 1, .int 1]
def aboutOver (below : List Frame) : State where
  vm := { classes := classes, interned := interned.toArray }
  heap := heap
  slotsUsed := slotsUsed
  threads := #[{ frames := .invoking theMethod args0 :: below }]
def below0 : List Frame := [.native { method := ⟨0, 0⟩, args := #[] }]
def about1 : State := aboutOver below0
def p0 : Program := .bare "" "" ""
def e0 : Env := launch0.env 0 0 0
theorem w_frames : about1.frames = Frame.invoking theMethod args0 :: below0 := rfl
set_option maxRecDepth 65536 in
theorem w_args : argsFit about1.vm theMethod args0 = true := by decide +kernel
set_option maxRecDepth 65536 in
theorem w_heap : heapFits about1 = true := by decide +kernel
set_option maxRecDepth 65536 in
theorem w_runnable : about1.curStatus? = some .runnable := by decide +kernel
set_option maxRecDepth 65536 in
theorem w_alone : about1.alone = true := by decide +kernel
set_option maxRecDepth 65536 in
theorem w_named : about1.methodNamed? x = some theMethod := by decide +kernel
set_option maxRecDepth 65536 in
theorem w_hears : about1.hears theMethod below0 = true := by decide +kernel
set_option maxRecDepth 65536 in
theorem w_ripe : about1.ripe theMethod args0 below0 = true := by decide +kernel
theorem w_running : about1.status = .running := rfl
set_option maxRecDepth 65536 in
theorem w_room : about1.hasRoom e0.platform room_1 = true :=
  launch0.hasRoom_least _ room_1 (by decide +kernel) (by decide +kernel) (by decide +kernel) (by decide +kernel) (by decide +kernel) (by decide +kernel)
theorem allAtoms_all (ts : List Jvm.Cond) (a : Array Jvm.Value) (st : Jvm.State) : (allAtoms ts).before a st = ts.all (fun c => c.before a st) := by
  induction ts with
  | nil => rfl
  | cons c t ih =>
    show (Jvm.Cond.and c (allAtoms t)).before a st = _
    rw [Jvm.Cond.before_and, ih, List.all_cons]
def words1 : List Jvm.Cond := Jvm.Cond.code x code maxLocals ret :: tables_1
/-- a 'code' word, met by the world's own term for the bytes: nothing is compared byte by byte -/
theorem code_word {y : MethodName} {bytes : ByteArray} {mx : Nat} {rt : Option FieldType} {a : Array Value} {s : State} {m : MethodId} {meth : Method} {c : Code} (h1 : s.methodNamed? y = some m) (h2 : s.vm.method? m = some meth) (h3 : meth.code = some c) (h4 : c.code = bytes)
    (h5 : (c.maxLocals == mx && c.exceptionTable.isEmpty && decide (c.maxStack ≤ mostOperands) && decide (meth.sig.returnType = rt) && !meth.locks && decide (parseMethodDescriptor y.desc = some meth.sig)) = true) : (Jvm.Cond.code y bytes mx rt).before a s = true := by
  simp only [Bool.and_eq_true, beq_iff_eq, Bool.not_eq_true', decide_eq_true_eq] at h5
  obtain ⟨⟨⟨⟨⟨g1, g2⟩, g3⟩, g4⟩, g5⟩, g6⟩ := h5
  simp [Cond.before, Cond.holds, Cond.value, h1, h2, h3, h4, g1, g2, g3, g4, g5, g6]
def isCode : Jvm.Cond → Bool
  | .code _ _ _ _ => true
  | _ => false
theorem all_split {L : List Jvm.Cond} {P : Jvm.Cond → Bool} (h1 : L.all (fun c => isCode c || P c) = true) (h2 : ∀ c ∈ L.filter isCode, P c = true) : L.all P = true := by
  refine List.all_eq_true.mpr fun c hc => ?_
  have h := List.all_eq_true.mp h1 c hc
  rcases Bool.eq_false_or_eq_true (isCode c) with hi | hi
  · exact h2 c (List.mem_filter.mpr ⟨hc, hi⟩)
  · simpa [hi] using h
set_option maxRecDepth 65536 in
theorem w_c0 : (Jvm.Cond.code x code maxLocals ret).before args0 about1 = true := code_word (m := ⟨1, 2⟩) (meth := k1m2) (c := k1c2) (by decide +kernel) rfl rfl rfl (by decide +kernel)
set_option maxRecDepth 65536 in
theorem w_c1 : (Jvm.Cond.code ({ cls := "com/example/wireform/wireform/HexParsePinLaw", name := "hexChar", desc := "(II)C" } : Jvm.MethodName) method_2_code (2 : Nat) (Option.some Jvm.ClassFile.FieldType.char)).before args0 about1 = true := code_word (m := ⟨1, 1⟩) (meth := k1m1) (c := k1c1) (by decide +kernel) rfl rfl rfl (by decide +kernel)
set_option maxRecDepth 65536 in
theorem w_c2 : (Jvm.Cond.code ({ cls := "java/lang/String", name := "<init>", desc := "([C)V" } : Jvm.MethodName) jdk_42_method_3_code (2 : Nat) (Option.none : Option Jvm.ClassFile.FieldType)).before args0 about1 = true := code_word (m := ⟨7, 1⟩) (meth := k7m1) (c := k7c1) (by decide +kernel) rfl rfl rfl (by decide +kernel)
set_option maxRecDepth 65536 in
theorem w_c3 : (Jvm.Cond.code ({ cls := "java/lang/String", name := "<init>", desc := "([CIILjava/lang/Void;)V" } : Jvm.MethodName) jdk_42_method_149_code (6 : Nat) (Option.none : Option Jvm.ClassFile.FieldType)).before args0 about1 = true := code_word (m := ⟨7, 4⟩) (meth := k7m4) (c := k7c4) (by decide +kernel) rfl rfl rfl (by decide +kernel)
set_option maxRecDepth 65536 in
theorem w_c4 : (Jvm.Cond.code ({ cls := "java/lang/Object", name := "<init>", desc := "()V" } : Jvm.MethodName) object_method_1_code (1 : Nat) (Option.none : Option Jvm.ClassFile.FieldType)).before args0 about1 = true := code_word (m := ⟨0, 0⟩) (meth := k0m0) (c := k0c0) (by decide +kernel) rfl rfl rfl (by decide +kernel)
set_option maxRecDepth 65536 in
theorem w_c5 : (Jvm.Cond.code ({ cls := "com/example/wireform/wireform/Hex", name := "parse", desc := "(Ljava/lang/String;)[B" } : Jvm.MethodName) prog_2_method_3_code (3 : Nat) (Option.some (Jvm.ClassFile.FieldType.array Jvm.ClassFile.FieldType.byte))).before args0 about1 = true := code_word (m := ⟨8, 1⟩) (meth := k8m1) (c := k8c1) (by decide +kernel) rfl rfl rfl (by decide +kernel)
set_option maxRecDepth 65536 in
theorem w_c6 : (Jvm.Cond.code ({ cls := "java/lang/String", name := "length", desc := "()I" } : Jvm.MethodName) jdk_42_method_54_code (1 : Nat) (Option.some Jvm.ClassFile.FieldType.int)).before args0 about1 = true := code_word (m := ⟨7, 2⟩) (meth := k7m2) (c := k7c2) (by decide +kernel) rfl rfl rfl (by decide +kernel)
set_option maxRecDepth 65536 in
theorem w_c7 : (Jvm.Cond.code ({ cls := "java/lang/String", name := "coder", desc := "()B" } : Jvm.MethodName) jdk_42_method_152_code (1 : Nat) (Option.some Jvm.ClassFile.FieldType.byte)).before args0 about1 = true := code_word (m := ⟨7, 5⟩) (meth := k7m5) (c := k7c5) (by decide +kernel) rfl rfl rfl (by decide +kernel)
set_option maxRecDepth 65536 in
theorem w_c8 : (Jvm.Cond.code ({ cls := "java/lang/StringUTF16", name := "compress", desc := "([CII)[B" } : Jvm.MethodName) jdk_52_method_16_code (6 : Nat) (Option.some (Jvm.ClassFile.FieldType.array Jvm.ClassFile.FieldType.byte))).before args0 about1 = true := code_word (m := ⟨9, 2⟩) (meth := k9m2) (c := k9c2) (by decide +kernel) rfl rfl rfl (by decide +kernel)
set_option maxRecDepth 65536 in
theorem w_c9 : (Jvm.Cond.code ({ cls := "java/lang/StringUTF16", name := "compress", desc := "([CI[BII)I" } : Jvm.MethodName) jdk_52_method_21_code (7 : Nat) (Option.some Jvm.ClassFile.FieldType.int)).before args0 about1 = true := code_word (m := ⟨9, 3⟩) (meth := k9m3) (c := k9c3) (by decide +kernel) rfl rfl rfl (by decide +kernel)
set_option maxRecDepth 65536 in
theorem w_c10 : (Jvm.Cond.code ({ cls := "java/lang/StringUTF16", name := "coderFromArrayLen", desc := "([BI)B" } : Jvm.MethodName) jdk_52_method_15_code (2 : Nat) (Option.some Jvm.ClassFile.FieldType.byte)).before args0 about1 = true := code_word (m := ⟨9, 1⟩) (meth := k9m1) (c := k9c1) (by decide +kernel) rfl rfl rfl (by decide +kernel)
set_option maxRecDepth 65536 in
theorem w_c11 : (Jvm.Cond.code ({ cls := "com/example/wireform/wireform/Hex", name := "digit", desc := "(Ljava/lang/String;I)I" } : Jvm.MethodName) prog_2_method_4_code (4 : Nat) (Option.some Jvm.ClassFile.FieldType.int)).before args0 about1 = true := code_word (m := ⟨8, 2⟩) (meth := k8m2) (c := k8c2) (by decide +kernel) rfl rfl rfl (by decide +kernel)
set_option maxRecDepth 65536 in
theorem w_c12 : (Jvm.Cond.code ({ cls := "java/lang/String", name := "charAt", desc := "(I)C" } : Jvm.MethodName) jdk_42_method_56_code (2 : Nat) (Option.some Jvm.ClassFile.FieldType.char)).before args0 about1 = true := code_word (m := ⟨7, 3⟩) (meth := k7m3) (c := k7c3) (by decide +kernel) rfl rfl rfl (by decide +kernel)
set_option maxRecDepth 65536 in
theorem w_c13 : (Jvm.Cond.code ({ cls := "java/lang/String", name := "isLatin1", desc := "()Z" } : Jvm.MethodName) jdk_42_method_154_code (1 : Nat) (Option.some Jvm.ClassFile.FieldType.boolean)).before args0 about1 = true := code_word (m := ⟨7, 6⟩) (meth := k7m6) (c := k7c6) (by decide +kernel) rfl rfl rfl (by decide +kernel)
set_option maxRecDepth 65536 in
theorem w_c14 : (Jvm.Cond.code ({ cls := "java/lang/StringLatin1", name := "charAt", desc := "([BI)C" } : Jvm.MethodName) jdk_43_method_2_code (2 : Nat) (Option.some Jvm.ClassFile.FieldType.char)).before args0 about1 = true := code_word (m := ⟨10, 1⟩) (meth := k10m1) (c := k10c1) (by decide +kernel) rfl rfl rfl (by decide +kernel)
set_option maxRecDepth 65536 in
theorem w_c15 : (Jvm.Cond.code ({ cls := "java/lang/String", name := "checkIndex", desc := "(II)V" } : Jvm.MethodName) jdk_42_method_155_code (2 : Nat) (Option.none : Option Jvm.ClassFile.FieldType)).before args0 about1 = true := code_word (m := ⟨7, 7⟩) (meth := k7m7) (c := k7c7) (by decide +kernel) rfl rfl rfl (by decide +kernel)
set_option maxRecDepth 65536 in
theorem w_c16 : (Jvm.Cond.code ({ cls := "jdk/internal/util/Preconditions", name := "checkIndex", desc := "(IILjava/util/function/BiFunction;)I" } : Jvm.MethodName) jdk_41_method_11_code (3 : Nat) (Option.some Jvm.ClassFile.FieldType.int)).before args0 about1 = true := code_word (m := ⟨11, 1⟩) (meth := k11m1) (c := k11c1) (by decide +kernel) rfl rfl rfl (by decide +kernel)
def codes1 : List Jvm.Cond := [Jvm.Cond.code x code maxLocals ret, Jvm.Cond.code ({ cls := "com/example/wireform/wireform/HexParsePinLaw", name := "hexChar", desc := "(II)C" } : Jvm.MethodName) method_2_code (2 : Nat) (Option.some Jvm.ClassFile.FieldType.char), Jvm.Cond.code ({ cls := "java/lang/String", name := "<init>", desc := "([C)V" } : Jvm.MethodName) jdk_42_method_3_code (2 : Nat) (Option.none : Option Jvm.ClassFile.FieldType), Jvm.Cond.code ({ cls := "java/lang/String", name := "<init>", desc := "([CIILjava/lang/Void;)V" } : Jvm.MethodName) jdk_42_method_149_code (6 : Nat) (Option.none : Option Jvm.ClassFile.FieldType), Jvm.Cond.code ({ cls := "java/lang/Object", name := "<init>", desc := "()V" } : Jvm.MethodName) object_method_1_code (1 : Nat) (Option.none : Option Jvm.ClassFile.FieldType), Jvm.Cond.code ({ cls := "com/example/wireform/wireform/Hex", name := "parse", desc := "(Ljava/lang/String;)[B" } : Jvm.MethodName) prog_2_method_3_code (3 : Nat) (Option.some (Jvm.ClassFile.FieldType.array Jvm.ClassFile.FieldType.byte)), Jvm.Cond.code ({ cls := "java/lang/String", name := "length", desc := "()I" } : Jvm.MethodName) jdk_42_method_54_code (1 : Nat) (Option.some Jvm.ClassFile.FieldType.int), Jvm.Cond.code ({ cls := "java/lang/String", name := "coder", desc := "()B" } : Jvm.MethodName) jdk_42_method_152_code (1 : Nat) (Option.some Jvm.ClassFile.FieldType.byte), Jvm.Cond.code ({ cls := "java/lang/StringUTF16", name := "compress", desc := "([CII)[B" } : Jvm.MethodName) jdk_52_method_16_code (6 : Nat) (Option.some (Jvm.ClassFile.FieldType.array Jvm.ClassFile.FieldType.byte)), Jvm.Cond.code ({ cls := "java/lang/StringUTF16", name := "compress", desc := "([CI[BII)I" } : Jvm.MethodName) jdk_52_method_21_code (7 : Nat) (Option.some Jvm.ClassFile.FieldType.int), Jvm.Cond.code ({ cls := "java/lang/StringUTF16", name := "coderFromArrayLen", desc := "([BI)B" } : Jvm.MethodName) jdk_52_method_15_code (2 : Nat) (Option.some Jvm.ClassFile.FieldType.byte), Jvm.Cond.code ({ cls := "com/example/wireform/wireform/Hex", name := "digit", desc := "(Ljava/lang/String;I)I" } : Jvm.MethodName) prog_2_method_4_code (4 : Nat) (Option.some Jvm.ClassFile.FieldType.int), Jvm.Cond.code ({ cls := "java/lang/String", name := "charAt", desc := "(I)C" } : Jvm.MethodName) jdk_42_method_56_code (2 : Nat) (Option.some Jvm.ClassFile.FieldType.char), Jvm.Cond.code ({ cls := "java/lang/String", name := "isLatin1", desc := "()Z" } : Jvm.MethodName) jdk_42_method_154_code (1 : Nat) (Option.some Jvm.ClassFile.FieldType.boolean), Jvm.Cond.code ({ cls := "java/lang/StringLatin1", name := "charAt", desc := "([BI)C" } : Jvm.MethodName) jdk_43_method_2_code (2 : Nat) (Option.some Jvm.ClassFile.FieldType.char), Jvm.Cond.code ({ cls := "java/lang/String", name := "checkIndex", desc := "(II)V" } : Jvm.MethodName) jdk_42_method_155_code (2 : Nat) (Option.none : Option Jvm.ClassFile.FieldType), Jvm.Cond.code ({ cls := "jdk/internal/util/Preconditions", name := "checkIndex", desc := "(IILjava/util/function/BiFunction;)I" } : Jvm.MethodName) jdk_41_method_11_code (3 : Nat) (Option.some Jvm.ClassFile.FieldType.int)]
set_option maxRecDepth 65536 in
theorem codes_eq : words1.filter isCode = codes1 := rfl
theorem w_codes : ∀ c ∈ words1.filter isCode, c.before args0 about1 = true := by
  rw [codes_eq]
  intro c hc
  simp only [codes1, List.mem_cons, List.not_mem_nil, or_false] at hc
  rcases hc with rfl | rfl | rfl | rfl | rfl | rfl | rfl | rfl | rfl | rfl | rfl | rfl | rfl | rfl | rfl | rfl | rfl
  · exact w_c0
  · exact w_c1
  · exact w_c2
  · exact w_c3
  · exact w_c4
  · exact w_c5
  · exact w_c6
  · exact w_c7
  · exact w_c8
  · exact w_c9
  · exact w_c10
  · exact w_c11
  · exact w_c12
  · exact w_c13
  · exact w_c14
  · exact w_c15
  · exact w_c16
set_option maxRecDepth 65536 in
theorem w_t1 : (words1.take 24).all (fun c => isCode c || c.before args0 about1) = true := by decide +kernel
set_option maxRecDepth 65536 in
theorem w_t2 : ((words1.drop 24).take 24).all (fun c => isCode c || c.before args0 about1) = true := by decide +kernel
set_option maxRecDepth 65536 in
theorem w_t3 : (((words1.drop 24).drop 24).take 24).all (fun c => isCode c || c.before args0 about1) = true := by decide +kernel
set_option maxRecDepth 65536 in
theorem w_t4 : (((words1.drop 24).drop 24).drop 24).all (fun c => isCode c || c.before args0 about1) = true := by decide +kernel
theorem w_tables : (allAtoms (Jvm.Cond.code x code maxLocals ret :: tables_1)).before args0 about1 = true := by
  rw [allAtoms_all]
  show words1.all (fun c => c.before args0 about1) = true
  refine all_split ?_ w_codes
  rw [← List.take_append_drop 24 words1, List.all_append, w_t1, ← List.take_append_drop 24 (words1.drop 24), List.all_append, w_t2, ← List.take_append_drop 24 ((words1.drop 24).drop 24), List.all_append, w_t3, w_t4]
  rfl
set_option maxRecDepth 65536 in
theorem w_rest : rest_1_c.before args0 about1 = true := by decide +kernel
set_option maxRecDepth 65536 in
theorem w_case : (Jvm.Cond.and given_1 narrow_1).before args0 about1 = true := by decide +kernel
set_option maxRecDepth 65536 in
theorem w_consts : constsHeld consts_1 about1 := Jvm.Lit.constsHeldB_iff.mp (by decide +kernel)
theorem w_applies : (headSpec (Jvm.Cond.code x code maxLocals ret :: tables_1) room_1).applies x e0.platform about1 = true :=
  (Spec.applies_iff w_frames).mpr ⟨w_running, w_runnable, w_alone, w_named, w_hears, w_ripe, w_room, w_tables⟩
theorem atStart : AtStart classFile x code maxLocals ret World_1 tables_1 room_1 Calls_1 rest_1 Pre_1 launch0 p0 e0 about1 theMethod args0 below0 :=
  ⟨lists_1, trivial, launch0.admits_env _ _ _, launch0.least_env, fairChoices_fair.cas, fairChoices_fair.clock, w_frames, w_args, w_heap, w_applies, ⟨w_consts, trivial⟩, w_rest, w_case⟩
end start1
theorem witness_1 : WitnessClaimed_1 := ⟨start1.p0, start1.e0, start1.about1, start1.theMethod, start1.args0, start1.below0, start1.atStart⟩
end Jvm.Pilot.@@N@@
