import JvmDerived
import JvmDerived.Pilot.@@N@@Statement
import JvmDerived.Pilot.@@N@@Code
set_option linter.unusedVariables false
set_option linter.unusedSimpArgs false
/- laws to paste: Road.backV, Road.eqW, Road.codOf (cut by pick.py; bodies as the Statement names them) -/
namespace Jvm.Pilot.@@N@@
namespace StrChars
open Jvm Sem ClassFile Op Lib Jvm.Stand Jvm.Free.XT Jvm.Free.ALB Jvm.Free.JM Jvm.Free
open Jvm.Lib.Cold (StaticIs)
/-- a char array whose places are chars -/
def Ch (a : Addr) (A : Cell) (U : State) : Prop := Arr .char a A U ∧ Typed .char A
theorem Ch.mv {a : Addr} {A : Cell} {U U' : State} (h : Ch a A U) (hal : U.vm.Alike U'.vm) (hh : U'.heap = U.heap) : Ch a A U' := ⟨h.1.mv hal hh, h.2⟩
theorem Ch.keep {a : Addr} {A : Cell} {U U' : State} (h : Ch a A U) (hal : U.vm.Alike U'.vm) (hk : U'.heap[a]? = some A) : Ch a A U' := ⟨h.1.keep hal hk, h.2⟩
/-- what place i of a char[]'s cell holds -/
def cv (A : Cell) (i : Nat) : Int32 := match A.slots[i]? with | some (.int x) => x | _ => 0
theorem Ch.get {a : Addr} {A : Cell} {U : State} (h : Ch a A U) {i : Nat} (hi : i < A.slots.size) : A.slots[i]? = some (.int (cv A i)) := by
  have e := Array.getElem?_eq_getElem hi
  have f := h.2 i _ e
  unfold cv; rw [e]
  generalize A.slots[i] = v at f
  cases v <;> simp [fits] at f ⊢
/-- the byte that i2b leaves of a char -/
def lo8 (x : Int32) : Int32 := x.toInt8.toInt32
theorem fits_lo8 (y : Int32) : fits .byte (.int (lo8 y)) = true := by
  have h1 := y.toInt8.le_toInt
  have h2 := y.toInt8.toInt_lt
  simp only [lo8, fits, Bool.and_eq_true, decide_eq_true_eq, Int32.le_iff_toInt_le, Int8.toInt_toInt32, show (-128 : Int32).toInt = -128 from by decide, show (127 : Int32).toInt = 127 from by decide]
  omega
/-- A' is A but that each place j of lo .. hi - 1 holds f j -/
def Laid (A A' : Cell) (lo hi : Nat) (f : Nat → Value) : Prop := A'.cls = A.cls ∧ A'.vm = A.vm ∧ A'.slots.size = A.slots.size ∧ ∀ i, A'.slots[i]? = if lo ≤ i ∧ i < hi then some (f i) else A.slots[i]?
theorem Laid.zero (A : Cell) (lo : Nat) (f : Nat → Value) : Laid A A lo (lo + 0) f := ⟨rfl, rfl, rfl, fun i => by rw [if_neg (by omega)]⟩
theorem Laid.step {A Ak : Cell} {lo k : Nat} {f : Nat → Value} {v : Value} (h : Laid A Ak lo k f) (hlo : lo ≤ k) (hk : k < Ak.slots.size) (hv : v = f k) : Laid A (Ak.setSlot k v) lo (k + 1) f := by
  refine ⟨h.1, h.2.1, by simpa [Cell.setSlot] using h.2.2.1, fun i => ?_⟩
  by_cases e : k = i
  · subst e; rw [Cell.slots_setSlot_self v hk, if_pos (by omega), hv]
  · rw [Cell.slots_setSlot_ne v e, h.2.2.2 i]
    by_cases q : lo ≤ i ∧ i < k
    · rw [if_pos q, if_pos (by omega)]
    · rw [if_neg q, if_neg (by omega)]
def U16 : String := "java/lang/StringUTF16"
namespace Cmp5
def yN : MethodName := ⟨"java/lang/StringUTF16", "compress", "([CI[BII)I"⟩
abbrev yB : ByteArray := jdk_52_method_21_code
theorem d0 : decode yB 0 = .ok (.iconst 0, 1) := by decide +kernel
theorem d1 : decode yB 1 = .ok (.istore 5, 2) := by decide +kernel
theorem d3 : decode yB 3 = .ok (.iload 5, 2) := by decide +kernel
theorem d5 : decode yB 5 = .ok (.iload 4, 2) := by decide +kernel
theorem d7 : decode yB 7 = .ok (.if_icmp (.ge) 37, 3) := by decide +kernel
theorem d10 : decode yB 10 = .ok (.aload_n 0, 1) := by decide +kernel
theorem d11 : decode yB 11 = .ok (.iload_n 1, 1) := by decide +kernel
theorem d12 : decode yB 12 = .ok (.caload, 1) := by decide +kernel
theorem d13 : decode yB 13 = .ok (.istore 6, 2) := by decide +kernel
theorem d15 : decode yB 15 = .ok (.iload 6, 2) := by decide +kernel
theorem d17 : decode yB 17 = .ok (.sipush 255, 3) := by decide +kernel
theorem d20 : decode yB 20 = .ok (.if_icmp (.le) 6, 3) := by decide +kernel
theorem d26 : decode yB 26 = .ok (.aload_n 2, 1) := by decide +kernel
theorem d27 : decode yB 27 = .ok (.iload_n 3, 1) := by decide +kernel
theorem d28 : decode yB 28 = .ok (.iload 6, 2) := by decide +kernel
theorem d30 : decode yB 30 = .ok (.i2b, 1) := by decide +kernel
theorem d31 : decode yB 31 = .ok (.bastore, 1) := by decide +kernel
theorem d32 : decode yB 32 = .ok (.iinc 1 1, 3) := by decide +kernel
theorem d35 : decode yB 35 = .ok (.iinc 3 1, 3) := by decide +kernel
theorem d38 : decode yB 38 = .ok (.iinc 5 1, 3) := by decide +kernel
theorem d41 : decode yB 41 = .ok (.goto (-38), 3) := by decide +kernel
theorem d44 : decode yB 44 = .ok (.iload 4, 2) := by decide +kernel
theorem d46 : decode yB 46 = .ok (.ireturn, 1) := by decide +kernel
def site : List Cond := []
def tab : Cond := tabOf yN yB 7 (some .int) site
def P (b : Addr) (A : Cell) (d : Addr) (B : Cell) (o q len : Nat) (args : Array Value) (s : State) : Prop := args = #[.ref b, .int (Int32.ofNat o), .ref d, .int (Int32.ofNat q), .int (Int32.ofNat len)] ∧ Ch b A s ∧ Arr .byte d B s ∧ b ≠ d ∧ o + len ≤ A.slots.size ∧ q + len ≤ B.slots.size ∧ ∀ i, i < len → ¬ 255 < cv A (o + i)
def E (b : Addr) (A : Cell) (d : Addr) (B : Cell) (o q len : Nat) (r : Option Value) (s u : State) : Prop := r = some (.int (Int32.ofNat len)) ∧ ∃ B', Put d B' s u ∧ Laid B B' q (q + len) (fun j => Value.int (lo8 (cv A (o + (j - q)))))
/-- no char of the range above 255: len; the places written hold each char's low byte -/
theorem law (l : Launch) (b : Addr) (A : Cell) (d : Addr) (B : Cell) (o q len : Nat) : Law l yN 5 5 0 0 yB 7 (some .int) site (P b A d B o q len) (E b A d B o q len) (copyLocs d q len) 0 0 := by
  refine Law.of_walk (plainFor_of_name (by decide +kernel)) (by decide +kernel) (by decide +kernel) (by decide) (fun _ _ h => by rw [h.1]; rfl) (fun _ U U' hal hh h => ⟨h.1, h.2.1.mv hal hh, h.2.2.1.mv hal hh, h.2.2.2⟩) (fun r U U' V V' h1 hal h2 h => ⟨h.1, h.2.elim fun B' q => ⟨B', q.1.mv h1 h2, q.2⟩⟩) ?_
  intro p e s m args below meth c s₁ X0 hexec hbytes hml hret hlk hnm hown hh0 W hP
  obtain ⟨rfl, hA, hB, hne, l1, l2, hp⟩ := hP
  have c1 : Steps p.tables e below (s₁.setTop (entryFrame m #[.ref b, .int (Int32.ofNat o), .ref d, .int (Int32.ofNat q), .int (Int32.ofNat len)] 7)) (s₁.setTop (mkF m 0 #[.val (.ref b), .val (.int (Int32.ofNat o)), .val (.ref d), .val (.int (Int32.ofNat q)), .val (.int (Int32.ofNat len)), .unset, .unset] [])) := entry rfl
  have hA0 := hA.1.mv X0.warmed.alike hh0
  have hB0 := hB.mv X0.warmed.alike hh0
  have a31 := hA.1.2.2.2
  have c2 : Steps p.tables e below (s₁.setTop (entryFrame m #[.ref b, .int (Int32.ofNat o), .ref d, .int (Int32.ofNat q), .int (Int32.ofNat len)] 7)) (s₁.setTop (mkF m 3 #[.val (.ref b), .val (.int (Int32.ofNat o)), .val (.ref d), .val (.int (Int32.ofNat q)), .val (.int (Int32.ofNat len)), .val (.int 0), .unset] [])) := c1.trans (by
    refine iconstV X0.here hexec rfl 0 (hb hbytes d0) (by decide) ?_
    refine XS.istore X0.here hexec rfl (hb hbytes d1) rfl rfl ?_
    exact Steps.refl _)
  have loop : ∀ (r i : Nat), i + r = len → ∀ (z : Slot), (z = .unset ∨ ∃ w, z = .val w ∧ w.category = 1) → ∀ (Tl : State) (Bk : Cell), Stand p l e { frames := 0, locals := 0, cells := 0, slots := 0 } s m #[.ref b, .int (Int32.ofNat o), .ref d, .int (Int32.ofNat q), .int (Int32.ofNat len)] below meth c Tl ([] ++ copyLocs d q i) 0 0 → Put d Bk s₁ Tl → Laid B Bk q (q + i) (fun j => Value.int (lo8 (cv A (o + (j - q))))) →
      Steps p.tables e below (s₁.setTop (entryFrame m #[.ref b, .int (Int32.ofNat o), .ref d, .int (Int32.ofNat q), .int (Int32.ofNat len)] 7)) (Tl.setTop (mkF m 3 #[.val (.ref b), .val (.int (Int32.ofNat (o + i))), .val (.ref d), .val (.int (Int32.ofNat (q + i))), .val (.int (Int32.ofNat len)), .val (.int (Int32.ofNat i)), z] [])) → ∃ (T' : State) (B' : Cell) (z' : Slot), Stand p l e { frames := 0, locals := 0, cells := 0, slots := 0 } s m #[.ref b, .int (Int32.ofNat o), .ref d, .int (Int32.ofNat q), .int (Int32.ofNat len)] below meth c T' ([] ++ copyLocs d q len) 0 0 ∧ Put d B' s₁ T' ∧ Laid B B' q (q + len) (fun j => Value.int (lo8 (cv A (o + (j - q))))) ∧
      Steps p.tables e below (s₁.setTop (entryFrame m #[.ref b, .int (Int32.ofNat o), .ref d, .int (Int32.ofNat q), .int (Int32.ofNat len)] 7)) (T'.setTop (mkF m 3 #[.val (.ref b), .val (.int (Int32.ofNat (o + len))), .val (.ref d), .val (.int (Int32.ofNat (q + len))), .val (.int (Int32.ofNat len)), .val (.int (Int32.ofNat len)), z'] [])) := by
    intro r
    induction r with
    | zero =>
      intro i hi z hz Tl Bk Xl pl fl cl
      have hil : i = len := by omega
      rw [hil] at Xl fl cl
      exact ⟨Tl, Bk, z, Xl, pl, fl, cl⟩
    | succ r ih =>
      intro i hi z hz Tl Bk Xl pl fl cl
      have all := X0.warmed.alike.symm.trans Xl.warmed.alike
      have hAl := hA0.keep all (pl.other hne hA0.1)
      have hBk := hB0.like all pl.1 fl.1 fl.2.1 fl.2.2.1
      have hlt : q + i < Bk.slots.size := by rw [fl.2.2.1]; omega
      have c3 : Steps p.tables e below (s₁.setTop (entryFrame m #[.ref b, .int (Int32.ofNat o), .ref d, .int (Int32.ofNat q), .int (Int32.ofNat len)] 7)) (Tl.setTop (mkF m 12 #[.val (.ref b), .val (.int (Int32.ofNat (o + i))), .val (.ref d), .val (.int (Int32.ofNat (q + i))), .val (.int (Int32.ofNat len)), .val (.int (Int32.ofNat i)), z] [.int (Int32.ofNat (o + i)), .ref b])) := cl.trans (by
        refine XS.iload Xl.here hexec rfl (hb hbytes d3) rfl ?_
        refine XS.iload Xl.here hexec rfl (hb hbytes d5) rfl ?_
        refine XS.icmpNo Xl.here hexec rfl (hb hbytes d7) rfl (ii_ge_f (lt32 (by omega) (by omega))) ?_
        refine XS.aloadN Xl.here hexec rfl (hb hbytes d10) rfl rfl ?_
        refine XS.iloadN Xl.here hexec rfl (hb hbytes d11) rfl ?_
        exact Steps.refl _)
      have c4 : Steps p.tables e below (s₁.setTop (entryFrame m #[.ref b, .int (Int32.ofNat o), .ref d, .int (Int32.ofNat q), .int (Int32.ofNat len)] 7)) (Tl.setTop (mkF m 13 #[.val (.ref b), .val (.int (Int32.ofNat (o + i))), .val (.ref d), .val (.int (Int32.ofNat (q + i))), .val (.int (Int32.ofNat len)), .val (.int (Int32.ofNat i)), z] [.int (cv A (o + i))])) := c3.trans (by
        refine Xl.aget hexec hAl rfl (hA.get (i := o + i) (by omega)) rfl rfl (hb hbytes d12) ?_
        exact Steps.refl _)
      have c5 : Steps p.tables e below (s₁.setTop (entryFrame m #[.ref b, .int (Int32.ofNat o), .ref d, .int (Int32.ofNat q), .int (Int32.ofNat len)] 7)) (Tl.setTop (mkF m 15 #[.val (.ref b), .val (.int (Int32.ofNat (o + i))), .val (.ref d), .val (.int (Int32.ofNat (q + i))), .val (.int (Int32.ofNat len)), .val (.int (Int32.ofNat i)), .val (.int (cv A (o + i)))] [])) := c4.trans (by
        refine XS.istoreS Xl.here hexec rfl (hb hbytes d13) rfl rfl hz ?_
        exact Steps.refl _)
      have c6 : Steps p.tables e below (s₁.setTop (entryFrame m #[.ref b, .int (Int32.ofNat o), .ref d, .int (Int32.ofNat q), .int (Int32.ofNat len)] 7)) (Tl.setTop (mkF m 31 #[.val (.ref b), .val (.int (Int32.ofNat (o + i))), .val (.ref d), .val (.int (Int32.ofNat (q + i))), .val (.int (Int32.ofNat len)), .val (.int (Int32.ofNat i)), .val (.int (cv A (o + i)))] [.int (lo8 (cv A (o + i))), .int (Int32.ofNat (q + i)), .ref d])) := c5.trans (by
        refine XS.iload Xl.here hexec rfl (hb hbytes d15) rfl ?_
        refine sipushV Xl.here hexec rfl 255 (hb hbytes d17) (by decide) ?_
        refine XS.icmpYes Xl.here hexec rfl (pc0 := 20) rfl (hb hbytes d20) rfl (ii_le_t (hp i (by omega))) (by decide) rfl ?_
        refine XS.aloadN Xl.here hexec rfl (hb hbytes d26) rfl rfl ?_
        refine XS.iloadN Xl.here hexec rfl (hb hbytes d27) rfl ?_
        refine XS.iload Xl.here hexec rfl (hb hbytes d28) rfl ?_
        refine i2b Xl.here hexec rfl (hb hbytes d30) rfl ?_
        exact Steps.refl _)
      obtain ⟨T7, X7, p7, st7⟩ := Xl.aput hexec hBk rfl hlt rfl (fits_lo8 (cv A (o + i))) (g := (mkF m 31 #[.val (.ref b), .val (.int (Int32.ofNat (o + i))), .val (.ref d), .val (.int (Int32.ofNat (q + i))), .val (.int (Int32.ofNat len)), .val (.int (Int32.ofNat i)), .val (.int (cv A (o + i)))] [.int (lo8 (cv A (o + i))), .int (Int32.ofNat (q + i)), .ref d])) rfl (rest := []) rfl (hb hbytes d31)
      have c8 : Steps p.tables e below (s₁.setTop (entryFrame m #[.ref b, .int (Int32.ofNat o), .ref d, .int (Int32.ofNat q), .int (Int32.ofNat len)] 7)) (T7.setTop (mkF m 32 #[.val (.ref b), .val (.int (Int32.ofNat (o + i))), .val (.ref d), .val (.int (Int32.ofNat (q + i))), .val (.int (Int32.ofNat len)), .val (.int (Int32.ofNat i)), .val (.int (cv A (o + i)))] [])) := c6.trans (st7 _ (Steps.refl _))
      have c9 : Steps p.tables e below (s₁.setTop (entryFrame m #[.ref b, .int (Int32.ofNat o), .ref d, .int (Int32.ofNat q), .int (Int32.ofNat len)] 7)) (T7.setTop (mkF m 3 #[.val (.ref b), .val (.int (Int32.ofNat (o + i) + 1)), .val (.ref d), .val (.int (Int32.ofNat (q + i) + 1)), .val (.int (Int32.ofNat len)), .val (.int (Int32.ofNat i + 1)), .val (.int (cv A (o + i)))] [])) := c8.trans (by
        refine iincV X7.here hexec rfl 1 (hb hbytes d32) (by decide) rfl rfl ?_
        refine iincV X7.here hexec rfl 1 (hb hbytes d35) (by decide) rfl rfl ?_
        refine iincV X7.here hexec rfl 1 (hb hbytes d38) (by decide) rfl rfl ?_
        refine XS.goto X7.here hexec rfl (pc0 := 41) rfl (hb hbytes d41) (by decide) rfl ?_
        exact Steps.refl _)
      have c10 : Steps p.tables e below (s₁.setTop (entryFrame m #[.ref b, .int (Int32.ofNat o), .ref d, .int (Int32.ofNat q), .int (Int32.ofNat len)] 7)) (T7.setTop (mkF m 3 #[.val (.ref b), .val (.int (Int32.ofNat (o + (i + 1)))), .val (.ref d), .val (.int (Int32.ofNat (q + (i + 1)))), .val (.int (Int32.ofNat len)), .val (.int (Int32.ofNat (i + 1))), .val (.int (cv A (o + i)))] [])) := by
        have := c9
        rw [succ32, succ32, succ32] at this
        exact this
      exact ih (i + 1) (by omega) _ (Or.inr ⟨_, rfl, rfl⟩) T7 _ (by rw [copyLocs_step, ← List.append_assoc]; exact X7) (pl.trans p7) (fl.step (by omega) hlt (by simp)) c10
  obtain ⟨T9, B9, z9, X9, p9, f9, g9⟩ := loop len 0 (by omega) .unset (Or.inl rfl) s₁ B (by simpa [copyLocs] using X0) ⟨hB0.1, fun _ _ => rfl, rfl⟩ (Laid.zero _ _ _) c2
  have c11 : Steps p.tables e below (s₁.setTop (entryFrame m #[.ref b, .int (Int32.ofNat o), .ref d, .int (Int32.ofNat q), .int (Int32.ofNat len)] 7)) (T9.setTop (mkF m 46 #[.val (.ref b), .val (.int (Int32.ofNat (o + len))), .val (.ref d), .val (.int (Int32.ofNat (q + len))), .val (.int (Int32.ofNat len)), .val (.int (Int32.ofNat len)), z9] [.int (Int32.ofNat len)])) := g9.trans (by
    refine XS.iload X9.here hexec rfl (hb hbytes d3) rfl ?_
    refine XS.iload X9.here hexec rfl (hb hbytes d5) rfl ?_
    refine XS.icmpYes X9.here hexec rfl (pc0 := 7) rfl (hb hbytes d7) rfl (ii_ge_t (nlt32 (by omega) (Nat.le_refl _))) (by decide) rfl ?_
    refine XS.iload X9.here hexec rfl (hb hbytes d44) rfl ?_
    exact Steps.refl _)
  exact ⟨T9, some (.int (Int32.ofNat len)), _, _, _, X9, by simp, rfl, rfl, (fun h => by cases h), ⟨rfl, B9, p9.from hh0, f9⟩, fun fs hl => c11.trans (X9.ireturnOut hexec hret rfl (Or.inl rfl) (hb hbytes d46) hl)⟩
end Cmp5
namespace Cmp3
def yN : MethodName := ⟨"java/lang/StringUTF16", "compress", "([CII)[B"⟩
abbrev yB : ByteArray := jdk_52_method_16_code
theorem d0 : decode yB 0 = .ok (.iload_n 2, 1) := by decide +kernel
theorem d1 : decode yB 1 = .ok (.newarray .byte, 2) := by decide +kernel
theorem d3 : decode yB 3 = .ok (.astore_n 3, 1) := by decide +kernel
theorem d4 : decode yB 4 = .ok (.aload_n 0, 1) := by decide +kernel
theorem d5 : decode yB 5 = .ok (.iload_n 1, 1) := by decide +kernel
theorem d6 : decode yB 6 = .ok (.aload_n 3, 1) := by decide +kernel
theorem d7 : decode yB 7 = .ok (.iconst 0, 1) := by decide +kernel
theorem d8 : decode yB 8 = .ok (.iload_n 2, 1) := by decide +kernel
theorem d9 : decode yB 9 = .ok (.invokestatic 115, 3) := by decide +kernel
theorem d12 : decode yB 12 = .ok (.istore 4, 2) := by decide +kernel
theorem d14 : decode yB 14 = .ok (.iload 4, 2) := by decide +kernel
theorem d16 : decode yB 16 = .ok (.iload_n 2, 1) := by decide +kernel
theorem d17 : decode yB 17 = .ok (.if_icmp (.eq) 40, 3) := by decide +kernel
theorem d57 : decode yB 57 = .ok (.aload_n 3, 1) := by decide +kernel
theorem d58 : decode yB 58 = .ok (.areturn, 1) := by decide +kernel
def site : List Cond := [.arrayClass .byte, Cmp5.tab] ++ staticW U16 115 Cmp5.yN
def tab : Cond := tabOf yN yB 6 (some (.array .byte)) site
def P (b : Addr) (A : Cell) (o len : Nat) (args : Array Value) (s : State) : Prop := args = #[.ref b, .int (Int32.ofNat o), .int (Int32.ofNat len)] ∧ Ch b A s ∧ o + len ≤ A.slots.size ∧ len ≤ 536870912 ∧ ∀ i, i < len → ¬ 255 < cv A (o + i)
def E (b : Addr) (A : Cell) (o len : Nat) (r : Option Value) (s u : State) : Prop := NewArr .byte "[B" len (fun j => .int (lo8 (cv A (o + j)))) r s u ∧ u.heap.size = s.heap.size + 1
/-- no char of the range above 255: a new byte[] of their low bytes -/
theorem law (l : Launch) (b : Addr) (A : Cell) (o len : Nat) : Law l yN 3 3 1 18 yB 6 (some (.array .byte)) site (P b A o len) (E b A o len) [] 1 len := by
  refine Law.of_walk (plainFor_of_name (by decide +kernel)) (by decide +kernel) (by decide +kernel) (by decide) (fun _ _ h => by rw [h.1]; rfl) (fun _ U U' hal hh h => ⟨h.1, h.2.1.mv hal hh, h.2.2⟩) (fun r U U' V V' h1 hal h2 h => ⟨NewArr.mv r U U' V V' h1 hal h2 h.1, by rw [h1, h2]; exact h.2⟩) ?_
  intro p e s m args below meth c s₁ X0 hexec hbytes hml hret hlk hnm hown hh0 W hP
  obtain ⟨rfl, hA, l1, l2, hp⟩ := hP
  have a31 := hA.1.2.2.2
  have c1 : Steps p.tables e below (s₁.setTop (entryFrame m #[.ref b, .int (Int32.ofNat o), .int (Int32.ofNat len)] 6)) (s₁.setTop (mkF m 0 #[.val (.ref b), .val (.int (Int32.ofNat o)), .val (.int (Int32.ofNat len)), .unset, .unset, .unset] [])) := entry rfl
  have c2 : Steps p.tables e below (s₁.setTop (entryFrame m #[.ref b, .int (Int32.ofNat o), .int (Int32.ofNat len)] 6)) (s₁.setTop (mkF m 1 #[.val (.ref b), .val (.int (Int32.ofNat o)), .val (.int (Int32.ofNat len)), .unset, .unset, .unset] [.int (Int32.ofNat len)])) := c1.trans (by
    refine XS.iloadN X0.here hexec rfl (hb hbytes d0) rfl ?_
    exact Steps.refl _)
  obtain ⟨T3, B3, X3, ba3, bs3, bv3, bh3, bf3, st3⟩ := X0.anew hexec (atype := .byte) (wk W (.arrayClass .byte)) rfl (by show len * 1 ≤ _; omega) (by omega) (g := (mkF m 1 #[.val (.ref b), .val (.int (Int32.ofNat o)), .val (.int (Int32.ofNat len)), .unset, .unset, .unset] [.int (Int32.ofNat len)])) rfl (hb hbytes d1) (rest := []) rfl (Nat.le_refl _) (by show 0 + len ≤ len; omega)
  rw [hh0] at ba3 st3
  have kp3 : XT.Kept s T3 := (XT.Kept.of_eq hh0).push bh3
  have hA3 := hA.keep X3.warmed.alike (kp3 _ _ hA.1.1)
  have hne : b ≠ s.heap.size := hA.1.ne
  have c4 : Steps p.tables e below (s₁.setTop (entryFrame m #[.ref b, .int (Int32.ofNat o), .int (Int32.ofNat len)] 6)) (T3.setTop (mkF m 3 #[.val (.ref b), .val (.int (Int32.ofNat o)), .val (.int (Int32.ofNat len)), .unset, .unset, .unset] [.ref s.heap.size])) := c2.trans (st3 _ (Steps.refl _))
  have c5 : Steps p.tables e below (s₁.setTop (entryFrame m #[.ref b, .int (Int32.ofNat o), .int (Int32.ofNat len)] 6)) (T3.setTop (mkF m 9 #[.val (.ref b), .val (.int (Int32.ofNat o)), .val (.int (Int32.ofNat len)), .val (.ref s.heap.size), .unset, .unset] [.int (Int32.ofNat len), .int 0, .ref s.heap.size, .int (Int32.ofNat o), .ref b])) := c4.trans (by
    refine XS.astoreN X3.here hexec rfl (hb hbytes d3) rfl rfl rfl ?_
    refine XS.aloadN X3.here hexec rfl (hb hbytes d4) rfl rfl ?_
    refine XS.iloadN X3.here hexec rfl (hb hbytes d5) rfl ?_
    refine XS.aloadN X3.here hexec rfl (hb hbytes d6) rfl rfl ?_
    refine iconstV X3.here hexec rfl 0 (hb hbytes d7) (by decide) ?_
    refine XS.iloadN X3.here hexec rfl (hb hbytes d8) rfl ?_
    exact Steps.refl _)
  obtain ⟨v6, T6, X6, E6, g6⟩ := X3.callS hexec (Cmp5.law l b A s.heap.size B3 o 0 len) hown (wks W (staticW U16 115 Cmp5.yN)) (wk W Cmp5.tab) (W := 0) (Nat.le_of_ble_eq_true rfl) (Nat.le_of_ble_eq_true rfl) (Nat.le_refl _) (by show 0 + len + 0 ≤ len; omega) (g := (mkF m 9 #[.val (.ref b), .val (.int (Int32.ofNat o)), .val (.int (Int32.ofNat len)), .val (.ref s.heap.size), .unset, .unset] [.int (Int32.ofNat len), .int (Int32.ofNat 0), .ref s.heap.size, .int (Int32.ofNat o), .ref b])) rfl (by rw [hml]; rfl) c5 (argsL := [.ref b, .int (Int32.ofNat o), .ref s.heap.size, .int (Int32.ofNat 0), .int (Int32.ofNat len)]) (rest := []) rfl rfl (by show 2 * 0 + 0 ≤ _; decide) (hb hbytes d9) (⟨rfl, hA3, ba3, hne, l1, by rw [bs3]; simp, hp⟩)
  obtain ⟨rfl, B6, p6, f6⟩ := E6
  have c7 : Steps p.tables e below (s₁.setTop (entryFrame m #[.ref b, .int (Int32.ofNat o), .int (Int32.ofNat len)] 6)) (T6.setTop (mkF m 12 #[.val (.ref b), .val (.int (Int32.ofNat o)), .val (.int (Int32.ofNat len)), .val (.ref s.heap.size), .unset, .unset] [.int (Int32.ofNat len)])) := g6
  have c8 : Steps p.tables e below (s₁.setTop (entryFrame m #[.ref b, .int (Int32.ofNat o), .int (Int32.ofNat len)] 6)) (T6.setTop (mkF m 58 #[.val (.ref b), .val (.int (Int32.ofNat o)), .val (.int (Int32.ofNat len)), .val (.ref s.heap.size), .val (.int (Int32.ofNat len)), .unset] [.ref s.heap.size])) := c7.trans (by
    refine XS.istore X6.here hexec rfl (hb hbytes d12) rfl rfl ?_
    refine XS.iload X6.here hexec rfl (hb hbytes d14) rfl ?_
    refine XS.iloadN X6.here hexec rfl (hb hbytes d16) rfl ?_
    refine XS.icmpYes X6.here hexec rfl (pc0 := 17) rfl (hb hbytes d17) rfl (ii_eq_t rfl) (by decide) rfl ?_
    refine XS.aloadN X6.here hexec rfl (hb hbytes d57) rfl rfl ?_
    exact Steps.refl _)
  have X8 := X6.wide (L' := []) (cells' := 1) (slots' := len) (fun x hx hlt => by
    simp only [List.nil_append, copyLocs, List.mem_map, List.mem_range] at hx
    obtain ⟨i, -, rfl⟩ := hx
    exact absurd hlt (Nat.lt_irrefl _)) (Nat.le_refl _) (by omega)
  exact ⟨T6, some (.ref s.heap.size), _, _, _, X8, rfl, rfl, rfl, (fun h => by cases h), ⟨⟨rfl, B6, ba3.like (X3.warmed.alike.symm.trans X6.warmed.alike) p6.1 f6.1 f6.2.1 f6.2.2.1, f6.2.1.trans bv3, by rw [X6.warmed.alike.findClass, f6.1]; exact bf3, by rw [f6.2.2.1, bs3]; simp, fun j hj => by rw [f6.2.2.2 j, if_pos (by omega)]; rfl, kp3.put p6 (Nat.le_refl _)⟩, by rw [p6.2.2, bh3, hh0]; simp⟩, fun fs hl => c8.trans (X8.areturnOut hexec rfl hret rfl (hb hbytes d58) hl)⟩
end Cmp3
namespace CodL
def yN : MethodName := ⟨"java/lang/StringUTF16", "coderFromArrayLen", "([BI)B"⟩
abbrev yB : ByteArray := jdk_52_method_15_code
theorem d0 : decode yB 0 = .ok (.iload_n 1, 1) := by decide +kernel
theorem d1 : decode yB 1 = .ok (.aload_n 0, 1) := by decide +kernel
theorem d2 : decode yB 2 = .ok (.arraylength, 1) := by decide +kernel
theorem d3 : decode yB 3 = .ok (.isub, 1) := by decide +kernel
theorem d4 : decode yB 4 = .ok (.bipush 31, 2) := by decide +kernel
theorem d6 : decode yB 6 = .ok (.iushr, 1) := by decide +kernel
theorem d7 : decode yB 7 = .ok (.i2b, 1) := by decide +kernel
theorem d8 : decode yB 8 = .ok (.ireturn, 1) := by decide +kernel
def site : List Cond := []
def tab : Cond := tabOf yN yB 2 (some .byte) site
def P (d : Addr) (B : Cell) (args : Array Value) (s : State) : Prop := args = #[.ref d, .int (Int32.ofNat B.slots.size)] ∧ Arr .byte d B s
def E (r : Option Value) (s u : State) : Prop := XT.PureE (some (.int 0)) r s u
/-- an array as long as the number of chars: LATIN1 -/
theorem law (l : Launch) (d : Addr) (B : Cell) : Law l yN 2 2 0 0 yB 2 (some .byte) site (P d B) E [] 0 0 := by
  refine Law.of_walk (plainFor_of_name (by decide +kernel)) (by decide +kernel) (by decide +kernel) (by decide) (fun _ _ h => by rw [h.1]; rfl) (fun _ U U' hal hh h => ⟨h.1, h.2.mv hal hh⟩) (fun r U U' V V' h1 hal h2 h => XT.PureE.mv r U U' V V' h1 hal h2 h) ?_
  intro p e s m args below meth c s₁ X0 hexec hbytes hml hret hlk hnm hown hh0 W hP
  obtain ⟨rfl, hB⟩ := hP
  have hB0 := hB.mv X0.warmed.alike hh0
  have c1 : Steps p.tables e below (s₁.setTop (entryFrame m #[.ref d, .int (Int32.ofNat B.slots.size)] 2)) (s₁.setTop (mkF m 0 #[.val (.ref d), .val (.int (Int32.ofNat B.slots.size))] [])) := entry rfl
  have c2 : Steps p.tables e below (s₁.setTop (entryFrame m #[.ref d, .int (Int32.ofNat B.slots.size)] 2)) (s₁.setTop (mkF m 2 #[.val (.ref d), .val (.int (Int32.ofNat B.slots.size))] [.ref d, .int (Int32.ofNat B.slots.size)])) := c1.trans (by
    refine XS.iloadN X0.here hexec rfl (hb hbytes d0) rfl ?_
    refine XS.aloadN X0.here hexec rfl (hb hbytes d1) rfl rfl ?_
    exact Steps.refl _)
  have c3 : Steps p.tables e below (s₁.setTop (entryFrame m #[.ref d, .int (Int32.ofNat B.slots.size)] 2)) (s₁.setTop (mkF m 8 #[.val (.ref d), .val (.int (Int32.ofNat B.slots.size))] [.int (lo8 (ushr (Int32.ofNat B.slots.size - Int32.ofNat B.slots.size) 31))])) := c2.trans (by
    refine X0.alen hexec hB0 rfl rfl (hb hbytes d2) ?_
    refine XS.isub X0.here hexec rfl (hb hbytes d3) rfl ?_
    refine bipushV X0.here hexec rfl 31 (hb hbytes d4) (by decide) ?_
    refine iushr X0.here hexec rfl (hb hbytes d6) rfl ?_
    refine i2b X0.here hexec rfl (hb hbytes d7) rfl ?_
    exact Steps.refl _)
  have e0 : lo8 (ushr (Int32.ofNat B.slots.size - Int32.ofNat B.slots.size) 31) = 0 := by rw [Int32.sub_self]; decide
  rw [e0] at c3
  exact ⟨s₁, some (.int 0), _, _, _, X0, rfl, rfl, rfl, (fun h => by cases h), ⟨rfl, hh0⟩, fun fs hl => c3.trans (X0.ireturnOut hexec hret rfl (Or.inr (Or.inr (Or.inl rfl))) (hb hbytes d8) hl)⟩
end CodL
/-- the String at a is Latin-1 over a new byte[] (the heap's one new cell): the low bytes of the len chars of A from o on; every cell but a is kept -/
def Got (a : Addr) (D : Cell) (fV fC : Field) (A : Cell) (o len : Nat) (r : Option Value) (s u : State) : Prop := r = none ∧ ∃ D' V : Cell, Blank "java/lang/String" a D' u ∧ Same D D' [fV.slot, fC.slot] ∧ D'.slots[fV.slot]? = some (.ref s.heap.size) ∧ D'.slots[fC.slot]? = some (.int 0) ∧ Arr .byte s.heap.size V u ∧ V.vm = .none ∧ u.vm.findClass "[B" = some V.cls ∧ V.slots.size = len ∧ (∀ j, j < len → V.slots[j]? = some (.int (lo8 (cv A (o + j))))) ∧ (∀ (y : Addr) (c : Cell), y ≠ a → s.heap[y]? = some c → u.heap[y]? = some c) ∧ u.heap.size = s.heap.size + 1
theorem Got.mv {a : Addr} {D A : Cell} {fV fC : Field} {o len : Nat} : ∀ r (U U' V V' : State), U'.heap = U.heap → V.vm.Alike V'.vm → V'.heap = V.heap → Got a D fV fC A o len r U V → Got a D fV fC A o len r U' V' :=
  fun r U U' V V' h1 hal h2 ⟨e0, D', X, a1, a2, a3, a4, a5, a6, a7, a8, a9, a10, a11⟩ => ⟨e0, D', X, a1.mv hal h2, a2, by rw [h1]; exact a3, a4, by rw [h1]; exact a5.mv hal h2, a6, by rw [hal.findClass]; exact a7, a8, a9, by rw [h1, h2]; exact a10, by rw [h1, h2]; exact a11⟩
namespace New4
def yN : MethodName := ⟨"java/lang/String", "<init>", "([CIILjava/lang/Void;)V"⟩
abbrev yB : ByteArray := jdk_42_method_149_code
theorem d0 : decode yB 0 = .ok (.aload_n 0, 1) := by decide +kernel
theorem d1 : decode yB 1 = .ok (.invokespecial 1, 3) := by decide +kernel
theorem d4 : decode yB 4 = .ok (.iload_n 3, 1) := by decide +kernel
theorem d5 : decode yB 5 = .ok (.ifCond (.ne) 22, 3) := by decide +kernel
theorem d27 : decode yB 27 = .ok (.getstatic 38, 3) := by decide +kernel
theorem d30 : decode yB 30 = .ok (.ifCond (.eq) 28, 3) := by decide +kernel
theorem d33 : decode yB 33 = .ok (.aload_n 1, 1) := by decide +kernel
theorem d34 : decode yB 34 = .ok (.iload_n 2, 1) := by decide +kernel
theorem d35 : decode yB 35 = .ok (.iload_n 3, 1) := by decide +kernel
theorem d36 : decode yB 36 = .ok (.invokestatic 177, 3) := by decide +kernel
theorem d39 : decode yB 39 = .ok (.astore 5, 2) := by decide +kernel
theorem d41 : decode yB 41 = .ok (.aload_n 0, 1) := by decide +kernel
theorem d42 : decode yB 42 = .ok (.aload 5, 2) := by decide +kernel
theorem d44 : decode yB 44 = .ok (.iload_n 3, 1) := by decide +kernel
theorem d45 : decode yB 45 = .ok (.invokestatic 47, 3) := by decide +kernel
theorem d48 : decode yB 48 = .ok (.putfield 15, 3) := by decide +kernel
theorem d51 : decode yB 51 = .ok (.aload_n 0, 1) := by decide +kernel
theorem d52 : decode yB 52 = .ok (.aload 5, 2) := by decide +kernel
theorem d54 : decode yB 54 = .ok (.putfield 9, 3) := by decide +kernel
theorem d57 : decode yB 57 = .ok (.return_, 1) := by decide +kernel
def site : List Cond := [.fieldLink "java/lang/String" 38 "java/lang/String" "COMPACT_STRINGS" "Z", Cmp3.tab, CodL.tab, .laysFinal "java/lang/String" "java/lang/String" "value" "[B", .fieldLink "java/lang/String" 9 "java/lang/String" "value" "[B", .laysFinal "java/lang/String" "java/lang/String" "coder" "B", .fieldLink "java/lang/String" 15 "java/lang/String" "coder" "B"] ++ objW "java/lang/String" 1 ++ staticW "java/lang/String" 177 Cmp3.yN ++ staticW "java/lang/String" 47 CodL.yN
def tab : Cond := tabOf yN yB 6 none site
def P (a : Addr) (D : Cell) (fV fC : Field) (b : Addr) (A : Cell) (z : Int32) (o len : Nat) (args : Array Value) (s : State) : Prop := args = #[.ref a, .ref b, .int (Int32.ofNat o), .int (Int32.ofNat len), .null] ∧ Blank "java/lang/String" a D s ∧ Found "java/lang/String" "value" "[B" fV s ∧ Found "java/lang/String" "coder" "B" fC s ∧ Ch b A s ∧ StaticIs s "java/lang/String" "COMPACT_STRINGS" "Z" (.int z) ∧ ¬ z = 0 ∧ 0 < len ∧ o + len ≤ A.slots.size ∧ len ≤ 536870912 ∧ ∀ i, i < len → ¬ 255 < cv A (o + i)
def E (a : Addr) (D : Cell) (fV fC : Field) (A : Cell) (o len : Nat) (r : Option Value) (s u : State) : Prop := Got a D fV fC A o len r s u
/-- len > 0, no char of the range above 255: a Latin-1 String of their low bytes -/
theorem law (l : Launch) (a : Addr) (D : Cell) (fV fC : Field) (b : Addr) (A : Cell) (z : Int32) (o len : Nat) : Law l yN 5 4 2 35 yB 6 none site (P a D fV fC b A z o len) (E a D fV fC A o len) [⟨a, fC.slot⟩, ⟨a, fV.slot⟩] 1 len := by
  refine Law.of_walk (plainFor_of_name (by decide +kernel)) (by decide +kernel) (by decide +kernel) (by decide) (fun _ _ h => by rw [h.1]; rfl) (fun _ U U' hal hh h => ⟨h.1, h.2.1.mv hal hh, h.2.2.1.al hal, h.2.2.2.1.al hal, h.2.2.2.2.1.mv hal hh, h.2.2.2.2.2.1.there hal hh, h.2.2.2.2.2.2⟩) (fun r U U' V V' h1 hal h2 h => Got.mv r U U' V V' h1 hal h2 h) ?_
  intro p e s m args below meth c s₁ X0 hexec hbytes hml hret hlk hnm hown hh0 W hP
  obtain ⟨rfl, hB, f1, f2, hA, s1, hz, l0, l1, l2, hp⟩ := hP
  have a31 := hA.1.2.2.2
  have c1 : Steps p.tables e below (s₁.setTop (entryFrame m #[.ref a, .ref b, .int (Int32.ofNat o), .int (Int32.ofNat len), .null] 6)) (s₁.setTop (mkF m 0 #[.val (.ref a), .val (.ref b), .val (.int (Int32.ofNat o)), .val (.int (Int32.ofNat len)), .val .null, .unset] [])) := entry rfl
  have c2 : Steps p.tables e below (s₁.setTop (entryFrame m #[.ref a, .ref b, .int (Int32.ofNat o), .int (Int32.ofNat len), .null] 6)) (s₁.setTop (mkF m 1 #[.val (.ref a), .val (.ref b), .val (.int (Int32.ofNat o)), .val (.int (Int32.ofNat len)), .val .null, .unset] [.ref a])) := c1.trans (by
    refine XS.aloadN X0.here hexec rfl (hb hbytes d0) rfl rfl ?_
    exact Steps.refl _)
  obtain ⟨T3, X3, q3, st3⟩ := X0.oinit hexec hown (wks W (objW "java/lang/String" 1)) (g := (mkF m 1 #[.val (.ref a), .val (.ref b), .val (.int (Int32.ofNat o)), .val (.int (Int32.ofNat len)), .val .null, .unset] [.ref a])) rfl (by rw [hml]; rfl) (rest := []) rfl (hb hbytes d1) (W := 0) (by show 2 * 0 + 0 ≤ _; decide) (Nat.le_of_ble_eq_true rfl) (Nat.le_of_ble_eq_true rfl)
  have hh3 := q3.trans hh0
  have c4 : Steps p.tables e below (s₁.setTop (entryFrame m #[.ref a, .ref b, .int (Int32.ofNat o), .int (Int32.ofNat len), .null] 6)) (T3.setTop (mkF m 27 #[.val (.ref a), .val (.ref b), .val (.int (Int32.ofNat o)), .val (.int (Int32.ofNat len)), .val .null, .unset] [])) := (c2.trans (st3 _ (Steps.refl _))).trans (by
    refine XS.iloadN X3.here hexec rfl (hb hbytes d4) rfl ?_
    refine XS.ifYes X3.here hexec rfl (pc0 := 5) rfl (hb hbytes d5) rfl (i0_ne_t (nz32 (by omega) l0)) (by decide) rfl ?_
    exact Steps.refl _)
  obtain ⟨T5, X5, q5, st5⟩ := X3.sget hexec hown (wk W (.fieldLink "java/lang/String" 38 "java/lang/String" "COMPACT_STRINGS" "Z")) s1 (fun _ _ h => by rw [hh3]; exact h) (g := (mkF m 27 #[.val (.ref a), .val (.ref b), .val (.int (Int32.ofNat o)), .val (.int (Int32.ofNat len)), .val .null, .unset] [])) rfl (hb hbytes d27)
  have hh5 := q5.trans hh3
  have c6 : Steps p.tables e below (s₁.setTop (entryFrame m #[.ref a, .ref b, .int (Int32.ofNat o), .int (Int32.ofNat len), .null] 6)) (T5.setTop (mkF m 30 #[.val (.ref a), .val (.ref b), .val (.int (Int32.ofNat o)), .val (.int (Int32.ofNat len)), .val .null, .unset] [.int z])) := c4.trans (st5 _ (Steps.refl _))
  have c7 : Steps p.tables e below (s₁.setTop (entryFrame m #[.ref a, .ref b, .int (Int32.ofNat o), .int (Int32.ofNat len), .null] 6)) (T5.setTop (mkF m 36 #[.val (.ref a), .val (.ref b), .val (.int (Int32.ofNat o)), .val (.int (Int32.ofNat len)), .val .null, .unset] [.int (Int32.ofNat len), .int (Int32.ofNat o), .ref b])) := c6.trans (by
    refine XS.ifNo X5.here hexec rfl (hb hbytes d30) rfl (i0_eq_f hz) ?_
    refine XS.aloadN X5.here hexec rfl (hb hbytes d33) rfl rfl ?_
    refine XS.iloadN X5.here hexec rfl (hb hbytes d34) rfl ?_
    refine XS.iloadN X5.here hexec rfl (hb hbytes d35) rfl ?_
    exact Steps.refl _)
  obtain ⟨v8, T8, X8, E8, g8⟩ := X5.callS hexec (Cmp3.law l b A o len) hown (wks W (staticW "java/lang/String" 177 Cmp3.yN)) (wk W Cmp3.tab) (W := 0) (Nat.le_of_ble_eq_true rfl) (Nat.le_of_ble_eq_true rfl) (Nat.le_refl _) (by show 0 + len ≤ len; omega) (g := (mkF m 36 #[.val (.ref a), .val (.ref b), .val (.int (Int32.ofNat o)), .val (.int (Int32.ofNat len)), .val .null, .unset] [.int (Int32.ofNat len), .int (Int32.ofNat o), .ref b])) rfl (by rw [hml]; rfl) c7 (argsL := [.ref b, .int (Int32.ofNat o), .int (Int32.ofNat len)]) (rest := []) rfl rfl (by show 2 * 0 + 0 ≤ _; decide) (hb hbytes d36) (⟨rfl, hA.mv X5.warmed.alike hh5, l1, l2, hp⟩)
  obtain ⟨e8, z8⟩ := E8
  obtain ⟨rfl, N, n1, n2, n3, n4, n5, n6⟩ := NewArr.mv _ T5 s _ _ hh5.symm (Vm.Alike.refl _) rfl e8
  rw [hh5] at z8
  have hB1 := hB.keep X8.warmed.alike (n6 _ _ hB.1)
  have hne : s.heap.size ≠ a := (Nat.ne_of_lt (Array.getElem?_eq_some_iff.mp hB.1).1).symm
  have c9 : Steps p.tables e below (s₁.setTop (entryFrame m #[.ref a, .ref b, .int (Int32.ofNat o), .int (Int32.ofNat len), .null] 6)) (T8.setTop (mkF m 39 #[.val (.ref a), .val (.ref b), .val (.int (Int32.ofNat o)), .val (.int (Int32.ofNat len)), .val .null, .unset] [.ref s.heap.size])) := g8
  have c10 : Steps p.tables e below (s₁.setTop (entryFrame m #[.ref a, .ref b, .int (Int32.ofNat o), .int (Int32.ofNat len), .null] 6)) (T8.setTop (mkF m 45 #[.val (.ref a), .val (.ref b), .val (.int (Int32.ofNat o)), .val (.int (Int32.ofNat len)), .val .null, .val (.ref s.heap.size)] [.int (Int32.ofNat N.slots.size), .ref s.heap.size, .ref a])) := by
    have hc : Steps p.tables e below (s₁.setTop (entryFrame m #[.ref a, .ref b, .int (Int32.ofNat o), .int (Int32.ofNat len), .null] 6)) (T8.setTop (mkF m 45 #[.val (.ref a), .val (.ref b), .val (.int (Int32.ofNat o)), .val (.int (Int32.ofNat len)), .val .null, .val (.ref s.heap.size)] [.int (Int32.ofNat len), .ref s.heap.size, .ref a])) := c9.trans (by
      refine XS.astore X8.here hexec rfl (hb hbytes d39) rfl rfl rfl ?_
      refine XS.aloadN X8.here hexec rfl (hb hbytes d41) rfl rfl ?_
      refine XS.aload X8.here hexec rfl (hb hbytes d42) rfl rfl ?_
      refine XS.iloadN X8.here hexec rfl (hb hbytes d44) rfl ?_
      exact Steps.refl _)
    rw [n4]; exact hc
  obtain ⟨v11, T11, X11, E11, g11⟩ := X8.callS hexec (CodL.law l s.heap.size N) hown (wks W (staticW "java/lang/String" 47 CodL.yN)) (wk W CodL.tab) (W := 1) (Nat.le_of_ble_eq_true rfl) (Nat.le_of_ble_eq_true rfl) (Nat.le_refl _) (by show 0 + len + 0 ≤ len; omega) (g := (mkF m 45 #[.val (.ref a), .val (.ref b), .val (.int (Int32.ofNat o)), .val (.int (Int32.ofNat len)), .val .null, .val (.ref s.heap.size)] [.int (Int32.ofNat N.slots.size), .ref s.heap.size, .ref a])) rfl (by rw [hml]; rfl) c10 (argsL := [.ref s.heap.size, .int (Int32.ofNat N.slots.size)]) (rest := [.ref a]) rfl rfl (by show 2 * 0 + (1 + 0) ≤ _; decide) (hb hbytes d45) (⟨rfl, n1⟩)
  obtain ⟨rfl, q11⟩ := E11
  have hB11 := hB1.mv (X8.warmed.alike.symm.trans X11.warmed.alike) q11
  have c12 : Steps p.tables e below (s₁.setTop (entryFrame m #[.ref a, .ref b, .int (Int32.ofNat o), .int (Int32.ofNat len), .null] 6)) (T11.setTop (mkF m 48 #[.val (.ref a), .val (.ref b), .val (.int (Int32.ofNat o)), .val (.int (Int32.ofNat len)), .val .null, .val (.ref s.heap.size)] [.int 0, .ref a])) := g11
  obtain ⟨T13, X13, p13, bl13, sl13, st13⟩ := X11.finit hexec hown (wk W (.fieldLink "java/lang/String" 15 "java/lang/String" "coder" "B")) (Or.inr ⟨_, (wk W (.laysFinal "java/lang/String" "java/lang/String" "coder" "B"))⟩) (Or.inl ⟨rfl, hnm⟩) f2 (Or.inl rfl) hB11 (t := .byte) (by decide +kernel) rfl (g := (mkF m 48 #[.val (.ref a), .val (.ref b), .val (.int (Int32.ofNat o)), .val (.int (Int32.ofNat len)), .val .null, .val (.ref s.heap.size)] [.int 0, .ref a])) rfl (rest := []) rfl (hb hbytes d48)
  have c14 : Steps p.tables e below (s₁.setTop (entryFrame m #[.ref a, .ref b, .int (Int32.ofNat o), .int (Int32.ofNat len), .null] 6)) (T13.setTop (mkF m 54 #[.val (.ref a), .val (.ref b), .val (.int (Int32.ofNat o)), .val (.int (Int32.ofNat len)), .val .null, .val (.ref s.heap.size)] [.ref s.heap.size, .ref a])) := (c12.trans (st13 _ (Steps.refl _))).trans (by
    refine XS.aloadN X13.here hexec rfl (hb hbytes d51) rfl rfl ?_
    refine XS.aload X13.here hexec rfl (hb hbytes d52) rfl rfl ?_
    exact Steps.refl _)
  obtain ⟨T15, X15, p15, bl15, sl15, st15⟩ := X13.finit hexec hown (wk W (.fieldLink "java/lang/String" 9 "java/lang/String" "value" "[B")) (Or.inr ⟨_, (wk W (.laysFinal "java/lang/String" "java/lang/String" "value" "[B"))⟩) (Or.inl ⟨rfl, hnm⟩) f1 (Or.inl rfl) bl13 (t := (.array .byte)) (by decide +kernel) rfl (g := (mkF m 54 #[.val (.ref a), .val (.ref b), .val (.int (Int32.ofNat o)), .val (.int (Int32.ofNat len)), .val .null, .val (.ref s.heap.size)] [.ref s.heap.size, .ref a])) rfl (rest := []) rfl (hb hbytes d54)
  have c16 : Steps p.tables e below (s₁.setTop (entryFrame m #[.ref a, .ref b, .int (Int32.ofNat o), .int (Int32.ofNat len), .null] 6)) (T15.setTop (mkF m 57 #[.val (.ref a), .val (.ref b), .val (.int (Int32.ofNat o)), .val (.int (Int32.ofNat len)), .val .null, .val (.ref s.heap.size)] [])) := c14.trans (st15 _ (Steps.refl _))
  have ap := apart (Or.inr ⟨_, (wk W (.laysFinal "java/lang/String" "java/lang/String" "value" "[B"))⟩) (Or.inr ⟨_, (wk W (.laysFinal "java/lang/String" "java/lang/String" "coder" "B"))⟩) f1 f2 (t₁ := .array .byte) (t₂ := .byte) (by decide +kernel) (by decide +kernel) (by decide)
  have al := X8.warmed.alike.symm.trans X15.warmed.alike
  have n7 : T11.heap[s.heap.size]? = some N := by rw [q11]; exact n1.1
  exact ⟨T15, none, _, _, _, X15, by simp, rfl, by omega, (fun _ => rfl), ⟨rfl, _, N, bl15, ((Same.refl D _).set _ (by simp)).set _ (by simp), sl15, (Cell.slots_setSlot_ne _ ap).trans sl13, n1.keep al (p15.other hne (p13.other hne n7)), n2, by rw [al.findClass]; exact n3, n4, n5, fun y c h1 h2 => p15.other h1 (p13.other h1 (by rw [q11]; exact n6 y c h2)), by rw [p15.2.2, p13.2.2, q11]; exact z8⟩, fun fs hl => c16.trans (X15.returnOut hexec hret (hb hbytes d57) hl)⟩
end New4
namespace New1
def yN : MethodName := ⟨"java/lang/String", "<init>", "([C)V"⟩
abbrev yB : ByteArray := jdk_42_method_3_code
theorem d0 : decode yB 0 = .ok (.aload_n 0, 1) := by decide +kernel
theorem d1 : decode yB 1 = .ok (.aload_n 1, 1) := by decide +kernel
theorem d2 : decode yB 2 = .ok (.iconst 0, 1) := by decide +kernel
theorem d3 : decode yB 3 = .ok (.aload_n 1, 1) := by decide +kernel
theorem d4 : decode yB 4 = .ok (.arraylength, 1) := by decide +kernel
theorem d5 : decode yB 5 = .ok (.aconst_null, 1) := by decide +kernel
theorem d6 : decode yB 6 = .ok (.invokespecial 27, 3) := by decide +kernel
theorem d9 : decode yB 9 = .ok (.return_, 1) := by decide +kernel
def site : List Cond := [New4.tab] ++ initW "java/lang/String" 27 New4.yN
def tab : Cond := tabOf yN yB 2 none site
def P (a : Addr) (D : Cell) (fV fC : Field) (b : Addr) (A : Cell) (z : Int32) (args : Array Value) (s : State) : Prop := args = #[.ref a, .ref b] ∧ Blank "java/lang/String" a D s ∧ Found "java/lang/String" "value" "[B" fV s ∧ Found "java/lang/String" "coder" "B" fC s ∧ Ch b A s ∧ StaticIs s "java/lang/String" "COMPACT_STRINGS" "Z" (.int z) ∧ ¬ z = 0 ∧ 0 < A.slots.size ∧ A.slots.size ≤ 536870912 ∧ ∀ i, i < A.slots.size → ¬ 255 < cv A i
def E (a : Addr) (D : Cell) (fV fC : Field) (A : Cell) (r : Option Value) (s u : State) : Prop := Got a D fV fC A 0 A.slots.size r s u
/-- new String(chars), not empty, no char above 255: a Latin-1 String of their low bytes -/
theorem law (l : Launch) (a : Addr) (D : Cell) (fV fC : Field) (b : Addr) (A : Cell) (z : Int32) : Law l yN 2 1 3 52 yB 2 none site (P a D fV fC b A z) (E a D fV fC A) [⟨a, fC.slot⟩, ⟨a, fV.slot⟩] 1 A.slots.size := by
  refine Law.of_walk (plainFor_of_name (by decide +kernel)) (by decide +kernel) (by decide +kernel) (by decide) (fun _ _ h => by rw [h.1]; rfl) (fun _ U U' hal hh h => ⟨h.1, h.2.1.mv hal hh, h.2.2.1.al hal, h.2.2.2.1.al hal, h.2.2.2.2.1.mv hal hh, h.2.2.2.2.2.1.there hal hh, h.2.2.2.2.2.2⟩) (fun r U U' V V' h1 hal h2 h => Got.mv r U U' V V' h1 hal h2 h) ?_
  intro p e s m args below meth c s₁ X0 hexec hbytes hml hret hlk hnm hown hh0 W hP
  obtain ⟨rfl, hB, f1, f2, hA, s1, hz, l0, l2, hp⟩ := hP
  have c1 : Steps p.tables e below (s₁.setTop (entryFrame m #[.ref a, .ref b] 2)) (s₁.setTop (mkF m 0 #[.val (.ref a), .val (.ref b)] [])) := entry rfl
  have c2 : Steps p.tables e below (s₁.setTop (entryFrame m #[.ref a, .ref b] 2)) (s₁.setTop (mkF m 6 #[.val (.ref a), .val (.ref b)] [.null, .int (Int32.ofNat A.slots.size), .int 0, .ref b, .ref a])) := c1.trans (by
    refine XS.aloadN X0.here hexec rfl (hb hbytes d0) rfl rfl ?_
    refine XS.aloadN X0.here hexec rfl (hb hbytes d1) rfl rfl ?_
    refine iconstV X0.here hexec rfl 0 (hb hbytes d2) (by decide) ?_
    refine XS.aloadN X0.here hexec rfl (hb hbytes d3) rfl rfl ?_
    refine X0.alen hexec (hA.1.mv X0.warmed.alike hh0) rfl rfl (hb hbytes d4) ?_
    refine XS.aconstNull X0.here hexec rfl (hb hbytes d5) ?_
    exact Steps.refl _)
  obtain ⟨v3, T3, X3, E3, g3⟩ := X0.callN hexec (New4.law l a D fV fC b A z 0 A.slots.size) rfl hown (wks W (initW "java/lang/String" 27 New4.yN)) (W New4.tab (by simp only [site, List.mem_cons, List.mem_append, true_or, or_true])) (W := 0) (Nat.le_of_ble_eq_true rfl) (Nat.le_of_ble_eq_true rfl) (Nat.le_refl _) (by show 0 + A.slots.size ≤ A.slots.size; omega) (g := (mkF m 6 #[.val (.ref a), .val (.ref b)] [.null, .int (Int32.ofNat A.slots.size), .int (Int32.ofNat 0), .ref b, .ref a])) rfl (by rw [hml]; rfl) c2 (argsL := [.ref b, .int (Int32.ofNat 0), .int (Int32.ofNat A.slots.size), .null]) (rest := []) rfl rfl (by show 2 * 0 + 0 ≤ _; decide) (hb hbytes d6) (⟨rfl, hB.mv X0.warmed.alike hh0, f1.al X0.warmed.alike, f2.al X0.warmed.alike, hA.mv X0.warmed.alike hh0, s1.there X0.warmed.alike hh0, hz, l0, by omega, l2, fun i hi => by rw [Nat.zero_add]; exact hp i hi⟩)
  have e0 := Got.mv _ s₁ s _ _ hh0.symm (Vm.Alike.refl _) rfl E3
  obtain rfl := e0.1
  have c4 : Steps p.tables e below (s₁.setTop (entryFrame m #[.ref a, .ref b] 2)) (T3.setTop (mkF m 9 #[.val (.ref a), .val (.ref b)] [])) := g3
  exact ⟨T3, none, _, _, _, X3, by simp, rfl, by omega, (fun _ => rfl), e0, fun fs hl => c4.trans (X3.returnOut hexec hret (hb hbytes d9) hl)⟩
theorem pays {l : Launch} {R : Room} {p : Program} {e : Env} {below : List Frame} {s : State} {sargs : Array Value} {len W : Nat} (a : Addr) (D : Cell) (fV fC : Field) (b : Addr) (A : Cell) (z : Int32) (htab : tab.before sargs s = true) (hfr : 4 ≤ R.frames) (hlo : W + 65 ≤ R.locals) :
    Back l R p e below s sargs yN len W (fun A₁ a₁ => A₁.cells + 1 ≤ R.cells ∧ A₁.slots + A.slots.size ≤ R.slots ∧ P a D fV fC b A z a₁ A₁.U) (fun A₁ _ v₁ B₁ => E a D fV fC A v₁ A₁.U B₁.U ∧ B₁.locs = A₁.locs ++ [⟨a, fC.slot⟩, ⟨a, fV.slot⟩] ∧ B₁.cells = A₁.cells + 1 ∧ B₁.slots = A₁.slots + A.slots.size) :=
  (law l a D fV fC b A z).pays htab hfr (by omega)
end New1
/-- the byte, read back as charAt reads it, is the char -/
theorem lo8_mask {x : Int32} (h0 : ¬ x < 0) (h1 : ¬ 255 < x) : lo8 x &&& 255 = x := by
  have t : ∀ k : Fin 256, lo8 (Int32.ofNat k.val) &&& 255 = Int32.ofNat k.val := by decide +kernel
  rw [Int32.lt_iff_toInt_lt] at h0 h1
  have e0 : (0 : Int32).toInt = 0 := rfl
  have e1 : (255 : Int32).toInt = 255 := rfl
  obtain ⟨k, hk⟩ : ∃ k : Nat, x.toInt = k := ⟨x.toInt.toNat, by omega⟩
  have hx : x = Int32.ofNat k := Int32.toInt_inj.mp (by rw [hk, Int32.toInt_ofNat_small (by omega)])
  rw [hx]
  exact t ⟨k, by omega⟩
end StrChars
namespace StrChars.Road
open Jvm Sem ClassFile Op Lib Jvm.Stand Jvm.Free Jvm.Free.XT
open Jvm.Lib.Cold (StaticIs)
abbrev ST : String := "java/lang/String"
/-- every table word that New1's law asks, flat -/
abbrev words : List Jvm.Cond := [.code New1.yN New1.yB 2 none, .initialized ST, .methodLink ST 27 New4.yN, .instanceMethod New4.yN,
  .code New4.yN New4.yB 6 none, .fieldLink ST 38 ST "COMPACT_STRINGS" "Z", .laysFinal ST ST "value" "[B", .fieldLink ST 9 ST "value" "[B", .laysFinal ST ST "coder" "B", .fieldLink ST 15 ST "coder" "B",
  .methodLink ST 1 Lib.objectInit, .instanceMethod Lib.objectInit, .code Lib.objectInit ⟨#[0xb1]⟩ 1 none, .methodLink ST 177 Cmp3.yN, .static Cmp3.yN, .methodLink ST 47 CodL.yN, .static CodL.yN,
  .code Cmp3.yN Cmp3.yB 6 (some (.array .byte)), .initialized U16, .arrayClass .byte, .methodLink U16 115 Cmp5.yN, .static Cmp5.yN, .code Cmp5.yN Cmp5.yB 7 (some .int), .code CodL.yN CodL.yB 2 (some .byte)]
theorem tab_of {a : Array Value} {s : State} (h : ∀ w ∈ words, w.before a s = true) : New1.tab.before a s = true := by
  have h5 : Cmp5.tab.before a s = true := unparts (wk h (.code Cmp5.yN Cmp5.yB 7 (some .int))) (wks h (.initialized Cmp5.yN.cls :: Cmp5.site))
  have hc : CodL.tab.before a s = true := unparts (wk h (.code CodL.yN CodL.yB 2 (some .byte))) (wks h (.initialized CodL.yN.cls :: CodL.site))
  have q5 : ∀ w ∈ Cmp5.tab :: words, w.before a s = true := fun w hw => (List.mem_cons.mp hw).elim (fun e => e ▸ h5) (h w)
  have h3 : Cmp3.tab.before a s = true := unparts (wk q5 (.code Cmp3.yN Cmp3.yB 6 (some (.array .byte)))) (wks q5 (.initialized Cmp3.yN.cls :: Cmp3.site))
  have q3 : ∀ w ∈ Cmp3.tab :: CodL.tab :: words, w.before a s = true := fun w hw => (List.mem_cons.mp hw).elim (fun e => e ▸ h3) fun hw => (List.mem_cons.mp hw).elim (fun e => e ▸ hc) (h w)
  have h4 : New4.tab.before a s = true := unparts (wk q3 (.code New4.yN New4.yB 6 none)) (wks q3 (.initialized New4.yN.cls :: New4.site))
  have q4 : ∀ w ∈ New4.tab :: words, w.before a s = true := fun w hw => (List.mem_cons.mp hw).elim (fun e => e ▸ h4) (h w)
  exact unparts (wk q4 (.code New1.yN New1.yB 2 none)) (wks q4 (.initialized New1.yN.cls :: New1.site))
/-- the words ride from the start Z to the walk's own state -/
theorem moved {Z s : State} {a0 args : Array Value} (hZ : Z.Warmed39 s.vm) (hw : ∀ d ∈ words, d.before a0 Z = true) : ∀ d ∈ words, d.before args s = true := fun d hd => by
  have q := hw d hd
  have t : ∀ d ∈ words, d = .arrayClass .byte ∨ (d.onTables && d.keepsFace) = true := by decide +kernel
  rcases t d hd with rfl | t
  · exact RoadKit.mvA hZ q
  · exact RoadKit.mv hZ q t
/-- WHAT COMES BACK, over the tables of the start Z: h the heap at the call, h' behind it -/
def Q (Z : State) (x : Addr) (A : Cell) (h : Heap) (v : Option Value) (h' : Heap) (L : List Loc) : Prop := v = none ∧ (∀ y ∈ L, y.base = x) ∧ RoadKit.Keep h h' [x] ∧ h'.size = h.size + 1 ∧ RoadKit.Exa Z h' x ST ∧ RoadKit.Fld Z h' x ST "value" "[B" (.ref h.size) ∧ RoadKit.Fld Z h' x ST "coder" "B" (.int 0) ∧
  (∃ V : Cell, RoadKit.Arr Z h' h.size V .byte ∧ V.vm = .none ∧ Z.vm.findClass "[B" = some V.cls ∧ V.slots.size = A.slots.size ∧ ∀ j, j < A.slots.size → V.slots[j]? = some (.int (lo8 (cv A j)))) ∧
  ∀ (O n d : String) (w : Value), RoadKit.Fld Z h x O n d w → RoadKit.slotOf Z O n d ≠ RoadKit.slotOf Z ST "value" "[B" → RoadKit.slotOf Z O n d ≠ RoadKit.slotOf Z ST "coder" "B" → RoadKit.Fld Z h' x O n d w
/-- **new String(chars) AT A CALL, IN THE ROAD'S FORM**: for specialBack behind newO: x the fresh String, b the char[] with the cell A -/
theorem back {p : Program} {l : Launch} {e : Env} {R : Room} {s : State} {args : Array Value} {below : List Frame} {len W : Nat} {Z : State} {a0 : Array Value} {h : Heap} (hZ : Z.Warmed39 s.vm) (hw : ∀ d ∈ words, d.before a0 Z = true) {kI : Nat} (wi : (Jvm.Cond.instantiable ST kI).before a0 Z = true)
    {x b : Addr} {A : Cell} {z : Int32} {v0 c0 : Value} (E : RoadKit.Exa Z h x ST) (V : RoadKit.Fld Z h x ST "value" "[B" v0) (C : RoadKit.Fld Z h x ST "coder" "B" c0) (K : RoadKit.Arr Z h b A .char) (hty : Typed .char A) (S : RoadKit.Sta Z h ST "COMPACT_STRINGS" "Z" (.int z)) (hz : ¬ z = 0)
    (l0 : 0 < A.slots.size) (l2 : A.slots.size ≤ 536870912) (hp : ∀ i, i < A.slots.size → ¬ 255 < cv A i) (hfr : 4 ≤ R.frames) (hlo : W + 65 ≤ R.locals) :
    Back l R p e below s args New1.yN len W (fun P a => a = #[.ref x, .ref b] ∧ P.U.heap = h ∧ P.cells + 1 ≤ R.cells ∧ P.slots + A.slots.size ≤ R.slots)
      (fun P _ v B => ∃ L, Q Z x A h v B.U.heap L ∧ B.locs = P.locs ++ L ∧ B.cells = P.cells + 1 ∧ B.slots = P.slots + A.slots.size) := by
  intro m meth c P g ig mk a X hg hsize hdg hW hn hp'
  obtain ⟨rfl, rfl, r1, r2⟩ := hp'
  have al : Z.vm.Alike P.U.vm := hZ.alike.trans X.warmed.alike
  obtain ⟨D, cfV, kV, iV, fV, hD, gV, stV, knV, obV, asV, slV⟩ := id V
  obtain ⟨D', cfC, kC, iC, fC, hD', gC, stC, -, -, asC, slC⟩ := id C
  cases hD.symm.trans hD'
  obtain ⟨D2, kD, e1, e2, e3, e4, e5⟩ := id E
  cases hD.symm.trans e1
  obtain ⟨c2, k2, i1, i2, i3, -⟩ := Cond.instantiable_spec wi
  cases e2.symm.trans i1
  cases e3.symm.trans i2
  obtain ⟨kU, u1, u2⟩ := al.2.2 _ _ e3
  have hB : Blank ST x D P.U := ⟨hD, ⟨knV, fun q hq => by rw [hq] at obV; cases obV⟩, by rw [al.findClass]; exact e2, kU, u1, by rw [u2]; exact i3, by rw [u2]; exact e5 i3⟩
  have F1 : Found ST "value" "[B" fV P.U := ⟨SBG.found_only al ⟨cfV, kV, iV, gV⟩, stV⟩
  have F2 : Found ST "coder" "B" fC P.U := ⟨SBG.found_only al ⟨cfC, kC, iC, gC⟩, stC⟩
  have hA : Ch b A P.U := ⟨⟨K.1, State.isArrayOf_alike al K.2.1, K.2.2, by omega⟩, hty⟩
  have hS : StaticIs P.U ST "COMPACT_STRINGS" "Z" (.int z) := by
    obtain ⟨cfS, iS, kS, fS, st, cS, t1, t2, t3, t4, t5, t6, t7⟩ := S
    exact StaticIs.there (s := { Z with heap := P.U.heap }) ⟨cfS, iS, kS, fS, st, cS, t1, t2, t3, t4, t5, (fun q => by rw [q] at t6; cases t6), t7⟩ al rfl
  obtain ⟨v, B, X', ⟨⟨hv, E', V', q1, q2, q3, q4, q5, q6, q7, q8, q9, q10, q11⟩, hl, hc, hs⟩, st⟩ := New1.pays x D fV fC b A z (tab_of (moved hZ hw)) hfr hlo m meth c P g ig mk _ X hg hsize hdg hW hn ⟨r1, r2, rfl, hB, F1, F2, hA, hS, hz, l0, l2, hp⟩
  have al' : Z.vm.Alike B.U.vm := hZ.alike.trans X'.warmed.alike
  have hsz : E'.slots.size = D.slots.size := by
    obtain ⟨-, -, -, kB, w1, w2, w3⟩ := q1
    obtain ⟨kB', y1, y2⟩ := al'.2.2 _ _ e3
    rw [q2.2.1] at w1
    cases w1.symm.trans y1
    rw [w3, e5 i3, y2]
  refine ⟨v, B, X', ⟨_, ⟨hv, ?_, ⟨by omega, fun y cy hy hn' => q10 y cy (by simpa using hn') hy, fun y cy hy => ?_⟩, q11, ⟨E', _, q1.1, by rw [q2.2.1]; exact e2, by rw [q2.2.1]; exact e3, by rw [q2.1]; exact obV, fun _ => by rw [hsz]; exact e5 i3⟩,
    ⟨E', cfV, kV, iV, fV, q1.1, gV, stV, by rw [q2.1]; exact knV, by rw [q2.1]; exact obV, by rw [q2.2.1]; exact asV, q3⟩, ⟨E', cfC, kC, iC, fC, q1.1, gC, stC, by rw [q2.1]; exact knV, by rw [q2.1]; exact obV, by rw [q2.2.1]; exact asC, q4⟩,
    ⟨V', ⟨q5.1, State.isArrayOf_alike al'.symm q5.2.1, q5.2.2.1⟩, q6, by rw [← al'.findClass]; exact q7, q8, fun j hj => by have := q9 j hj; rwa [Nat.zero_add] at this⟩, fun O n d w F n1 n2 => ?_⟩, hl, hc, hs⟩, st⟩
  · intro y hy
    simp only [List.mem_cons, List.not_mem_nil, or_false] at hy
    rcases hy with rfl | rfl <;> rfl
  · by_cases q : y = x
    · subst q
      cases hD.symm.trans hy
      exact ⟨E', q1.1, q2.2.1, q2.1, hsz⟩
    · exact ⟨cy, q10 y cy q hy, rfl, rfl, rfl⟩
  · obtain ⟨D3, cf, k, i, f, g1, g2, g3, g4, g5, g6, g7⟩ := F
    cases hD.symm.trans g1
    simp only [RoadKit.slotOf, g2, gV, gC, Option.map_some, Option.getD_some] at n1 n2
    exact ⟨E', cf, k, i, f, q1.1, g2, g3, by rw [q2.1]; exact g4, by rw [q2.1]; exact g5, by rw [q2.2.1]; exact g6, by rw [q2.2.2 f.slot (by simp [n1, n2])]; exact g7⟩
end StrChars.Road
namespace StrChars.Road
open Jvm Sem ClassFile Op Lib Jvm.Stand Jvm.Free Jvm.Free.XT
/-- WHAT COMES BACK, the byte[] as a list of values -/
def QA (Z : State) (x : Addr) (zn : Int32) (cs : List Int32) (h : Heap) (v : Option Value) (h' : Heap) (L : List Loc) : Prop := v = none ∧ (∀ y ∈ L, y.base = x) ∧ RoadKit.Keep h h' [x] ∧ h'.size = h.size + 1 ∧ RoadKit.Exa Z h' x ST ∧ RoadKit.Fld Z h' x ST "value" "[B" (.ref h.size) ∧ RoadKit.Fld Z h' x ST "coder" "B" (.int 0) ∧
  (∃ kb, Z.vm.findClass "[B" = some kb ∧ RoadKit.Arv Z h' h.size kb .byte zn (cs.map fun c => .int (lo8 c)) (.int 0)) ∧
  ∀ (O n d : String) (w : Value), RoadKit.Fld Z h x O n d w → RoadKit.slotOf Z O n d ≠ RoadKit.slotOf Z ST "value" "[B" → RoadKit.slotOf Z O n d ≠ RoadKit.slotOf Z ST "coder" "B" → RoadKit.Fld Z h' x O n d w
/-- **new String(chars) AT A CALL, THE ARRAYS AS LISTS**: the char[] at b holds cs, not empty, no char above 255 -/
theorem backArv {p : Program} {l : Launch} {e : Env} {R : Room} {s : State} {args : Array Value} {below : List Frame} {len W : Nat} {Z : State} {a0 : Array Value} {h : Heap} (hZ : Z.Warmed39 s.vm) (hw : ∀ d ∈ words, d.before a0 Z = true) {kI : Nat} (wi : (Jvm.Cond.instantiable ST kI).before a0 Z = true)
    {x b : Addr} {k : ClassId} {zn z : Int32} {cs : List Int32} {dv v0 c0 : Value} (E : RoadKit.Exa Z h x ST) (V : RoadKit.Fld Z h x ST "value" "[B" v0) (C : RoadKit.Fld Z h x ST "coder" "B" c0) (K : RoadKit.Arv Z h b k .char zn (cs.map Value.int) dv) (S : RoadKit.Sta Z h ST "COMPACT_STRINGS" "Z" (.int z)) (hz : ¬ z = 0)
    (hlen : zn.toNatClampNeg = cs.length) (h0 : 0 < cs.length) (hbig : cs.length ≤ 536870912) (hall : ∀ c ∈ cs, ¬ 255 < c) (hfr : 4 ≤ R.frames) (hlo : W + 65 ≤ R.locals) :
    Back l R p e below s args New1.yN len W (fun P a => a = #[.ref x, .ref b] ∧ P.U.heap = h ∧ P.cells + 1 ≤ R.cells ∧ P.slots + cs.length ≤ R.slots)
      (fun P _ v B => ∃ L, QA Z x zn cs h v B.U.heap L ∧ B.locs = P.locs ++ L ∧ B.cells = P.cells + 1 ∧ B.slots = P.slots + cs.length) := by
  obtain ⟨A, K1, K2, K3, K4, K5, K6⟩ := K
  have e : A.slots.size = cs.length := K3.trans hlen
  have hat : ∀ (i : Nat) (hi : i < cs.length), A.slots[i]? = some (.int cs[i]) := fun i hi => by rw [K5 i (by omega)]; simp [List.getD_eq_getElem?_getD, hi]
  have hcv : ∀ (i : Nat) (hi : i < cs.length), cv A i = cs[i] := fun i hi => by unfold cv; rw [hat i hi]
  have hty : Typed .char A := fun i v hv => by
    have hi : i < A.slots.size := (Array.getElem?_eq_some_iff.mp hv).1
    have q := K5 i hi
    rw [hv] at q
    rw [Option.some.inj q]
    exact K6 i hi
  refine Back.mono (back hZ hw wi E V C K1 hty S hz (by omega) (by omega) (fun i hi => by rw [hcv i (by omega)]; exact hall _ (List.getElem_mem _)) hfr hlo) (fun P a hp => ⟨hp.1, hp.2.1, hp.2.2.1, by rw [e]; exact hp.2.2.2⟩) (fun P a v B hp hq => ?_)
  obtain ⟨L, ⟨q1, q2, q3, q4, q5, q6, q7, ⟨V', v1, v2, v3, v4, v5⟩, q9⟩, hl, hc, hs⟩ := hq
  refine ⟨L, ⟨q1, q2, q3, q4, q5, q6, q7, ⟨V'.cls, v3, V', v1, rfl, by rw [v4, e, hlen], K4, fun i hi => ?_, fun i hi => ?_⟩, q9⟩, hl, hc, by rw [hs, e]⟩
  · have hi' : i < cs.length := by omega
    rw [v5 i (by omega), hcv i hi']; simp [List.getD_eq_getElem?_getD, hi']
  · have hi' : i < cs.length := by omega
    simp only [List.getD_eq_getElem?_getD, List.getElem?_map, List.getElem?_eq_getElem hi', Option.map_some, Option.getD_some]
    exact fits_lo8 _
end StrChars.Road
namespace StrChars.Road
open Jvm Sem ClassFile Op Lib Jvm.Stand Jvm.Free Jvm.Free.XT
/-- WHAT COMES BACK, in the writer's own shape -/
def QV (Z : State) (x : Addr) (N : Int32) (bs : List Int32) (h : Heap) (n0 : Nat) (v : Option Value) (h' : Heap) (L : List Loc) : Prop := v = none ∧ RoadKit.Fr n0 L ∧ RoadKit.Keep h h' [x] ∧ RoadKit.Exa Z h' x ST ∧ RoadKit.Fld Z h' x ST "coder" "B" (.int 0) ∧
  ∃ (t : Addr) (kb : ClassId), n0 ≤ t ∧ h.size ≤ t ∧ ¬ t = x ∧ RoadKit.Fld Z h' x ST "value" "[B" (.ref t) ∧ RoadKit.Arv Z h' t kb .byte N (bs.map Value.int) (.int 0)
/-- **new String(chars) AT A CALL, FOR THE WRITER**: a char[] of n known ints, each 0 to 255 -/
theorem backV {p : Program} {l : Launch} {e : Env} {R : Room} {s : State} {args : Array Value} {below : List Frame} {len W : Nat} {Z : State} {a0 : Array Value} {h : Heap} (hZ : Z.Warmed39 s.vm) (hw : ∀ d ∈ words, d.before a0 Z = true) {kI : Nat} (wi : (Jvm.Cond.instantiable ST kI).before a0 Z = true)
    {x b : Addr} {kC : ClassId} {cs bs : List Int32} {d v0 c0 : Value} {z N : Int32} {n n0 : Nat} (hx0 : n0 ≤ x) (hh0 : n0 ≤ h.size) (E : RoadKit.Exa Z h x ST) (V : RoadKit.Fld Z h x ST "value" "[B" v0) (C : RoadKit.Fld Z h x ST "coder" "B" c0) (K : RoadKit.Arv Z h b kC .char N (cs.map Value.int) d) (S : RoadKit.Sta Z h ST "COMPACT_STRINGS" "Z" (.int z)) (hz : ¬ z = 0)
    (hn : cs.length = n) (hN : N = Int32.ofNat n) (l0 : 0 < n) (l2 : n ≤ 4000) (hp : ∀ c ∈ cs, ¬ c < 0 ∧ ¬ (255 : Int32) < c) (hb : bs = cs.map (fun c => c.toInt8.toInt32)) (hfr : 4 ≤ R.frames) (hlo : W + 65 ≤ R.locals) :
    Back l R p e below s args (⟨"java/lang/String", "<init>", "([C)V"⟩ : MethodName) len W (fun P a => a = #[.ref x, .ref b] ∧ P.U.heap = h ∧ P.cells + 1 ≤ R.cells ∧ P.slots + n ≤ R.slots)
      (fun P _ v B => ∃ L, QV Z x N bs h n0 v B.U.heap L ∧ B.locs = P.locs ++ L ∧ B.cells = P.cells + 1 ∧ B.slots = P.slots + n) := by
  subst hn hN hb
  refine Back.mono (backArv hZ hw wi E V C K S hz (n32 (by omega)) l0 (by omega) (fun c hc => (hp c hc).2) hfr hlo) (fun P a hp => hp) (fun P a v B hp hq => ?_)
  obtain ⟨L, ⟨q1, q2, q3, q4, q5, q6, q7, ⟨kb, v1, v2⟩, q9⟩, hl, hc, hs⟩ := hq
  exact ⟨L, ⟨q1, fun y hy => by rw [q2 y hy]; exact hx0, q3, q5, q7, h.size, kb, hh0, Nat.le_refl _, Nat.ne_of_gt E.lt, q6, by rw [List.map_map]; exact v2⟩, hl, hc, hs⟩
end StrChars.Road
namespace StrChars
open Jvm Sem ClassFile Op Lib Jvm.Stand Jvm.Free.XT Jvm.Free.ALB Jvm.Free.JM Jvm.Free
open Jvm.Lib.Cold (StaticIs)
def hi8 (x : Int32) : Int32 := lo8 (x >>> ((8 : Int32) &&& 31))
/-- what StringUTF16.getChar makes of two bytes -/
def pairCh (u v : Int32) : Int32 := (((u &&& 255) <<< ((0 : Int32) &&& 31)) ||| ((v &&& 255) <<< ((8 : Int32) &&& 31))).toUInt32.toUInt16.toUInt32.toInt32
theorem lo8_and (x : Int32) : (lo8 x &&& 255).toBitVec.toNat = x.toBitVec.toNat % 256 := by
  have h : (lo8 x).toBitVec = (x.toBitVec.signExtend 8).signExtend 32 := by rw [lo8, Int8.toBitVec_toInt32, Int32.toBitVec_toInt8]
  rw [Int32.toBitVec_and, BitVec.toNat_and, h]
  have e : ((x.toBitVec.signExtend 8).signExtend 32).toNat % 256 = x.toBitVec.toNat % 256 := by
    rw [BitVec.toNat_signExtend]
    have hlt := x.toBitVec.isLt
    simp only [BitVec.toNat_setWidth, BitVec.toNat_signExtend]
    split <;> split <;> omega
  rw [← e]
  exact Nat.and_two_pow_sub_one_eq_mod _ 8
theorem pair_says {c : Int32} (h0 : ¬ c < 0) (h1 : ¬ 65535 < c) : pairCh (lo8 c) (hi8 c) = c := by
  rw [Int32.lt_iff_toInt_lt] at h0 h1
  have e0 : (0 : Int32).toInt = 0 := rfl
  have e1 : (65535 : Int32).toInt = 65535 := rfl
  have hc : c.toInt = c.toBitVec.toNat := by
    have := c.toBitVec.isLt
    have e : c.toInt = c.toBitVec.toInt := rfl
    rw [e] at h0 h1
    rw [e]
    rw [BitVec.toInt_eq_toNat_cond] at h0 h1 ⊢
    split at h0 <;> split <;> omega
  have hn : c.toBitVec.toNat < 65536 := by omega
  have a1 := lo8_and c
  have a2 : (hi8 c &&& 255).toBitVec.toNat = c.toBitVec.toNat / 256 := by
    rw [hi8, lo8_and]
    have e : ((8 : Int32) &&& 31) = 8 := by decide
    rw [e, Int32.toBitVec_shiftRight]
    have e2 : ((8 : Int32).toBitVec.smod 32) = 8#32 := by decide
    rw [e2, BitVec.sshiftRight_eq', BitVec.toNat_sshiftRight_of_msb_false (by rw [BitVec.msb_eq_false_iff_two_mul_lt]; omega)]
    show c.toBitVec.toNat >>> 8 % 256 = _
    rw [Nat.shiftRight_eq_div_pow]
    omega
  unfold pairCh
  apply Int32.toBitVec_inj.mp
  apply BitVec.eq_of_toNat_eq
  have f0 : ((0 : Int32) &&& 31) = 0 := by decide
  have f8 : ((8 : Int32) &&& 31) = 8 := by decide
  rw [f0, f8]
  have g : (((lo8 c &&& 255) <<< (0 : Int32)) ||| ((hi8 c &&& 255) <<< (8 : Int32))).toBitVec.toNat = c.toBitVec.toNat := by
    rw [Int32.toBitVec_or, Int32.toBitVec_shiftLeft, Int32.toBitVec_shiftLeft]
    have s0 : ((0 : Int32).toBitVec.smod 32) = 0#32 := by decide
    have s8 : ((8 : Int32).toBitVec.smod 32) = 8#32 := by decide
    rw [s0, s8, BitVec.toNat_or]
    simp only [BitVec.shiftLeft_eq', BitVec.toNat_shiftLeft, a1, a2]
    show (c.toBitVec.toNat % 256) <<< 0 % 2 ^ 32 ||| (c.toBitVec.toNat / 256) <<< 8 % 2 ^ 32 = _
    rw [Nat.shiftLeft_zero, Nat.mod_eq_of_lt (show c.toBitVec.toNat % 256 < 2 ^ 32 by omega), Nat.mod_eq_of_lt (show (c.toBitVec.toNat / 256) <<< 8 < 2 ^ 32 by rw [Nat.shiftLeft_eq]; omega), Nat.or_comm, ← Nat.shiftLeft_add_eq_or_of_lt (by omega), Nat.shiftLeft_eq]
    omega
  show BitVec.toNat (((((lo8 c &&& 255) <<< (0 : Int32)) ||| ((hi8 c &&& 255) <<< (8 : Int32))).toBitVec.setWidth 16).setWidth 32) = _
  rw [BitVec.toNat_setWidth, BitVec.toNat_setWidth, g]
  omega
end StrChars
namespace StrChars
open Jvm Sem ClassFile Op Lib Jvm.Stand Jvm.Free.XT Jvm.Free.ALB Jvm.Free.JM Jvm.Free
open Jvm.Lib.Cold (StaticIs)
/-- the array's cell V codes the n chars f 0 .. f (n - 1) by the coder cd, as the JDK does: coder 1 just where some char is above 255 -/
def Cod (cd : Int32) (n : Nat) (f : Nat → Int32) (V : Cell) : Prop := (cd = 0 ∧ V.slots.size = n ∧ ∀ j, j < n → V.slots[j]? = some (.int (lo8 (f j))) ∧ ¬ 255 < f j) ∨ (cd = 1 ∧ V.slots.size = 2 * n ∧ (∀ j, j < n → V.slots[2 * j]? = some (.int (lo8 (f j))) ∧ V.slots[2 * j + 1]? = some (.int (hi8 (f j)))) ∧ ∃ j, j < n ∧ 255 < f j)
/-- **x is a String of the n chars f 0 .. f (n - 1)**, Latin-1 or UTF-16; its array at t has the cell V -/
def Txt (x t : Addr) (V : Cell) (cd : Int32) (n : Nat) (f : Nat → Int32) (U : State) : Prop := Exact "java/lang/String" x U ∧ Has x "java/lang/String" "value" "[B" (.ref t) U ∧ Has x "java/lang/String" "coder" "B" (.int cd) U ∧ XT.Arr .byte t V U ∧ Cod cd n f V ∧ ∀ j, j < n → ¬ f j < 0 ∧ ¬ 65535 < f j
theorem Txt.mv {x t : Addr} {V : Cell} {cd : Int32} {n : Nat} {f : Nat → Int32} {U U' : State} (h : Txt x t V cd n f U) (hal : U.vm.Alike U'.vm) (hh : U'.heap = U.heap) : Txt x t V cd n f U' := ⟨h.1.mv hal hh, h.2.1.mv hal hh, h.2.2.1.mv hal hh, h.2.2.2.1.mv hal hh, h.2.2.2.2⟩
end StrChars
namespace StrChars.Road
open Jvm Sem ClassFile Op Lib Jvm.Stand Jvm.Free Jvm.Free.XT
open Jvm.Lib.Cold (StaticIs)
theorem consq {a : Array Value} {s : State} {c : Jvm.Cond} {L : List Jvm.Cond} (h0 : c.before a s = true) (h : ∀ w ∈ L, w.before a s = true) : ∀ w ∈ c :: L, w.before a s = true := fun w hw => (List.mem_cons.mp hw).elim (fun e => e ▸ h0) (h w)
/-- the bytes of the chars cs, low before high -/
def wideBytes : List Int32 → List Value
  | [] => []
  | c :: cs => .int (lo8 c) :: .int (hi8 c) :: wideBytes cs
theorem wide_lo (d : Value) : ∀ (cs : List Int32) (j : Nat), j < cs.length → (wideBytes cs).getD (2 * j) d = .int (lo8 (cs.getD j 0))
  | [], j, h => absurd h (Nat.not_lt_zero j)
  | c :: cs, 0, _ => rfl
  | c :: cs, j + 1, h => by
    have q := wide_lo d cs j (by simpa using h)
    rw [show 2 * (j + 1) = 2 * j + 1 + 1 from by omega]
    simpa [wideBytes] using q
theorem wide_hi (d : Value) : ∀ (cs : List Int32) (j : Nat), j < cs.length → (wideBytes cs).getD (2 * j + 1) d = .int (hi8 (cs.getD j 0))
  | [], j, h => absurd h (Nat.not_lt_zero j)
  | c :: cs, 0, _ => rfl
  | c :: cs, j + 1, h => by
    have q := wide_hi d cs j (by simpa using h)
    rw [show 2 * (j + 1) + 1 = 2 * j + 1 + 1 + 1 from by omega]
    simpa [wideBytes] using q
theorem low_at (d : Value) (cs : List Int32) (j : Nat) (h : j < cs.length) : (cs.map fun c => Value.int (lo8 c)).getD j d = .int (lo8 (cs.getD j 0)) := by
  simp [List.getD_eq_getElem?_getD, h]
/-- an array of N2 bytes vs codes the chars cs by the coder cd -/
def CodA (cs : List Int32) (cd N2 : Int32) (vs : List Value) : Prop := (cd = 0 ∧ N2 = Int32.ofNat cs.length ∧ vs = (cs.map fun c => Value.int (lo8 c)) ∧ ∀ c ∈ cs, ¬ 255 < c) ∨ (cd = 1 ∧ N2 = Int32.ofNat (2 * cs.length) ∧ vs = wideBytes cs ∧ ∃ c ∈ cs, 255 < c)
theorem CodA.cod {cs : List Int32} {cd N2 : Int32} {vs : List Value} {V : Cell} (h : CodA cs cd N2 vs) (hn : 2 * cs.length < 2 ^ 31) (hs : V.slots.size = N2.toNatClampNeg) (hv : RoadKit.Has V vs (.int 0)) : Cod cd cs.length (fun j => cs.getD j 0) V := by
  rcases h with ⟨rfl, rfl, rfl, h⟩ | ⟨rfl, rfl, rfl, c, hc, hw⟩
  · rw [n32 (by omega)] at hs
    exact Or.inl ⟨rfl, hs, fun j hj => ⟨by rw [hv j (by omega), low_at _ _ _ hj], by
      have e : cs.getD j 0 = cs[j] := by simp [List.getD_eq_getElem?_getD, hj]
      show ¬ 255 < cs.getD j 0
      rw [e]; exact h _ (List.getElem_mem _)⟩⟩
  · rw [n32 (by omega)] at hs
    obtain ⟨j, hj, rfl⟩ := List.getElem_of_mem hc
    exact Or.inr ⟨rfl, hs, fun j hj => ⟨by rw [hv _ (by omega), wide_lo _ _ _ hj], by rw [hv _ (by omega), wide_hi _ _ _ hj]⟩, j, hj, by
      have e : cs.getD j 0 = cs[j] := by simp [List.getD_eq_getElem?_getD, hj]
      show 255 < cs.getD j 0
      rw [e]; exact hw⟩
/-- an object of exactly java/lang/String, its two fields found: as the laws ask it -/
theorem strObj {Z U : State} {a0 : Array Value} {kI : Nat} (wi : (Jvm.Cond.instantiable ST kI).before a0 Z = true) (al : Z.vm.Alike U.vm) {x : Addr} {v0 c0 : Value} (E : RoadKit.Exa Z U.heap x ST) (V : RoadKit.Fld Z U.heap x ST "value" "[B" v0) (C : RoadKit.Fld Z U.heap x ST "coder" "B" c0) :
    ∃ (D : Cell) (fV fC : Field), Blank ST x D U ∧ Found ST "value" "[B" fV U ∧ Found ST "coder" "B" fC U ∧ D.slots[fV.slot]? = some v0 ∧ D.slots[fC.slot]? = some c0 ∧ RoadKit.slotOf Z ST "value" "[B" = fV.slot ∧ RoadKit.slotOf Z ST "coder" "B" = fC.slot := by
  obtain ⟨D, cfV, kV, iV, fV, hD, gV, stV, knV, obV, asV, slV⟩ := V
  obtain ⟨D', cfC, kC, iC, fC, hD', gC, stC, -, -, asC, slC⟩ := C
  cases hD.symm.trans hD'
  obtain ⟨D2, kD, e1, e2, e3, e4, e5⟩ := E
  cases hD.symm.trans e1
  obtain ⟨c2, k2, i1, i2, i3, -⟩ := Cond.instantiable_spec wi
  cases e2.symm.trans i1
  cases e3.symm.trans i2
  obtain ⟨kU, u1, u2⟩ := al.2.2 _ _ e3
  exact ⟨D, fV, fC, ⟨hD, ⟨knV, fun q hq => by rw [hq] at obV; cases obV⟩, by rw [al.findClass]; exact e2, kU, u1, by rw [u2]; exact i3, by rw [u2]; exact e5 i3⟩, ⟨SBG.found_only al ⟨cfV, kV, iV, gV⟩, stV⟩, ⟨SBG.found_only al ⟨cfC, kC, iC, gC⟩, stC⟩, slV, slC, by simp [RoadKit.slotOf, gV], by simp [RoadKit.slotOf, gC]⟩
theorem sta_is {Z U : State} (al : Z.vm.Alike U.vm) {C n d : String} {v : Value} (S : RoadKit.Sta Z U.heap C n d v) : StaticIs U C n d v := by
  obtain ⟨cfS, iS, kS, fS, st, cS, t1, t2, t3, t4, t5, t6, t7⟩ := S
  exact StaticIs.there (s := { Z with heap := U.heap }) ⟨cfS, iS, kS, fS, st, cS, t1, t2, t3, t4, t5, (fun q => by rw [q] at t6; cases t6), t7⟩ al rfl
end StrChars.Road
namespace StrChars
open Jvm Sem ClassFile Op Lib Jvm.Stand Jvm.Free.XT Jvm.Free.ALB Jvm.Free.JM Jvm.Free
open Jvm.Lib.Cold (StaticIs)
/-- what place i of a byte[]'s cell holds -/
def yv (A : Cell) (i : Nat) : Int32 := match A.slots[i]? with | some (.int x) => x | _ => 0
theorem yv_get {a : Addr} {A : Cell} {U : State} (h : XT.Arr .byte a A U) (ht : Typed .byte A) {i : Nat} (hi : i < A.slots.size) : A.slots[i]? = some (.int (yv A i)) := by
  have e := Array.getElem?_eq_getElem hi
  have f := ht i _ e
  unfold yv; rw [e]
  generalize A.slots[i] = v at f
  cases v <;> simp [fits] at f ⊢
/-- the two arrays are equal, place for place -/
def EqC (A B : Cell) : Prop := A.slots.size = B.slots.size ∧ ∀ i, i < A.slots.size → yv A i = yv B i
/-- a boolean that says whether p -/
def Says01 (q : Prop) (r : Option Value) (s u : State) : Prop := ∃ v : Int32, r = some (.int v) ∧ u.heap = s.heap ∧ ((v = 1 ∧ q) ∨ (v = 0 ∧ ¬ q))
theorem Says01.mv {q : Prop} : ∀ r (U U' V V' : State), U'.heap = U.heap → V.vm.Alike V'.vm → V'.heap = V.heap → Says01 q r U V → Says01 q r U' V' :=
  fun r U U' V V' h1 _ h2 ⟨v, a, b, c⟩ => ⟨v, a, by rw [h1, h2]; exact b, c⟩
namespace LEq
def yN : MethodName := ⟨"java/lang/StringLatin1", "equals", "([B[B)Z"⟩
abbrev yB : ByteArray := jdk_43_method_13_code
theorem d0 : decode yB 0 = .ok (.aload_n 0, 1) := by decide +kernel
theorem d1 : decode yB 1 = .ok (.arraylength, 1) := by decide +kernel
theorem d2 : decode yB 2 = .ok (.aload_n 1, 1) := by decide +kernel
theorem d3 : decode yB 3 = .ok (.arraylength, 1) := by decide +kernel
theorem d4 : decode yB 4 = .ok (.if_icmp (.ne) 30, 3) := by decide +kernel
theorem d7 : decode yB 7 = .ok (.iconst 0, 1) := by decide +kernel
theorem d8 : decode yB 8 = .ok (.istore_n 2, 1) := by decide +kernel
theorem d9 : decode yB 9 = .ok (.iload_n 2, 1) := by decide +kernel
theorem d10 : decode yB 10 = .ok (.aload_n 0, 1) := by decide +kernel
theorem d11 : decode yB 11 = .ok (.arraylength, 1) := by decide +kernel
theorem d12 : decode yB 12 = .ok (.if_icmp (.ge) 20, 3) := by decide +kernel
theorem d15 : decode yB 15 = .ok (.aload_n 0, 1) := by decide +kernel
theorem d16 : decode yB 16 = .ok (.iload_n 2, 1) := by decide +kernel
theorem d17 : decode yB 17 = .ok (.baload, 1) := by decide +kernel
theorem d18 : decode yB 18 = .ok (.aload_n 1, 1) := by decide +kernel
theorem d19 : decode yB 19 = .ok (.iload_n 2, 1) := by decide +kernel
theorem d20 : decode yB 20 = .ok (.baload, 1) := by decide +kernel
theorem d21 : decode yB 21 = .ok (.if_icmp (.eq) 5, 3) := by decide +kernel
theorem d24 : decode yB 24 = .ok (.iconst 0, 1) := by decide +kernel
theorem d25 : decode yB 25 = .ok (.ireturn, 1) := by decide +kernel
theorem d26 : decode yB 26 = .ok (.iinc 2 1, 3) := by decide +kernel
theorem d29 : decode yB 29 = .ok (.goto (-20), 3) := by decide +kernel
theorem d32 : decode yB 32 = .ok (.iconst 1, 1) := by decide +kernel
theorem d33 : decode yB 33 = .ok (.ireturn, 1) := by decide +kernel
theorem d34 : decode yB 34 = .ok (.iconst 0, 1) := by decide +kernel
theorem d35 : decode yB 35 = .ok (.ireturn, 1) := by decide +kernel
def site : List Cond := []
def tab : Cond := tabOf yN yB 3 (some .boolean) site
def P (a : Addr) (A : Cell) (b : Addr) (B : Cell) (args : Array Value) (s : State) : Prop := args = #[.ref a, .ref b] ∧ XT.Arr .byte a A s ∧ Typed .byte A ∧ XT.Arr .byte b B s ∧ Typed .byte B
/-- whether two byte[] are equal, place for place -/
theorem law (l : Launch) (a : Addr) (A : Cell) (b : Addr) (B : Cell) : Law l yN 2 2 0 0 yB 3 (some .boolean) site (P a A b B) (Says01 (EqC A B)) [] 0 0 := by
  refine Law.of_walk (plainFor_of_name (by decide +kernel)) (by decide +kernel) (by decide +kernel) (by decide) (fun _ _ h => by rw [h.1]; rfl) (fun _ U U' hal hh h => ⟨h.1, h.2.1.mv hal hh, h.2.2.1, h.2.2.2.1.mv hal hh, h.2.2.2.2⟩) (fun r U U' V V' h1 hal h2 h => Says01.mv r U U' V V' h1 hal h2 h) ?_
  intro p e s m args below meth c s₁ X0 hexec hbytes hml hret hlk hnm hown hh0 W hP
  obtain ⟨rfl, hA, tA, hB, tB⟩ := hP
  have a31 := hA.2.2.2
  have b31 := hB.2.2.2
  have hA0 := hA.mv X0.warmed.alike hh0
  have hB0 := hB.mv X0.warmed.alike hh0
  have c1 : Steps p.tables e below (s₁.setTop (entryFrame m #[.ref a, .ref b] 3)) (s₁.setTop (mkF m 0 #[.val (.ref a), .val (.ref b), .unset] [])) := entry rfl
  have c2 : Steps p.tables e below (s₁.setTop (entryFrame m #[.ref a, .ref b] 3)) (s₁.setTop (mkF m 4 #[.val (.ref a), .val (.ref b), .unset] [.int (Int32.ofNat B.slots.size), .int (Int32.ofNat A.slots.size)])) := c1.trans (by
    refine XS.aloadN X0.here hexec rfl (hb hbytes d0) rfl rfl ?_
    refine X0.alen hexec hA0 rfl rfl (hb hbytes d1) ?_
    refine XS.aloadN X0.here hexec rfl (hb hbytes d2) rfl rfl ?_
    refine X0.alen hexec hB0 rfl rfl (hb hbytes d3) ?_
    exact Steps.refl _)
  by_cases hs : A.slots.size = B.slots.size
  · have c3 : Steps p.tables e below (s₁.setTop (entryFrame m #[.ref a, .ref b] 3)) (s₁.setTop (mkF m 9 #[.val (.ref a), .val (.ref b), .val (.int 0)] [])) := c2.trans (by
      refine XS.icmpNo X0.here hexec rfl (hb hbytes d4) rfl (ii_ne_f (by rw [hs])) ?_
      refine iconstV X0.here hexec rfl 0 (hb hbytes d7) (by decide) ?_
      refine XS.istoreN X0.here hexec rfl (hb hbytes d8) rfl rfl ?_
      exact Steps.refl _)
    have loop : ∀ (r i : Nat), i + r = A.slots.size → (∀ j, j < i → yv A j = yv B j) → Steps p.tables e below (s₁.setTop (entryFrame m #[.ref a, .ref b] 3)) (s₁.setTop (mkF m 9 #[.val (.ref a), .val (.ref b), .val (.int (Int32.ofNat i))] [])) → ∃ (pc : Nat) (Ls : Array Slot) (v : Int32), (pc = 25 ∨ pc = 33) ∧ ((v = 1 ∧ EqC A B) ∨ (v = 0 ∧ ¬ EqC A B)) ∧ Steps p.tables e below (s₁.setTop (entryFrame m #[.ref a, .ref b] 3)) (s₁.setTop (mkF m pc Ls [.int v])) := by
      intro r
      induction r with
      | zero =>
        intro i hi he cl
        exact ⟨33, _, 1, Or.inr rfl, Or.inl ⟨rfl, hs, fun j hj => he j (by omega)⟩, cl.trans (by
          refine XS.iloadN X0.here hexec rfl (hb hbytes d9) rfl ?_
          refine XS.aloadN X0.here hexec rfl (hb hbytes d10) rfl rfl ?_
          refine X0.alen hexec hA0 rfl rfl (hb hbytes d11) ?_
          refine XS.icmpYes X0.here hexec rfl (pc0 := 12) rfl (hb hbytes d12) rfl (ii_ge_t (nlt32 (by omega) (by omega))) (by decide) rfl ?_
          refine iconstV X0.here hexec rfl 1 (hb hbytes d32) (by decide) ?_
          exact Steps.refl _)⟩
      | succ r ih =>
        intro i hi he cl
        have c4 : Steps p.tables e below (s₁.setTop (entryFrame m #[.ref a, .ref b] 3)) (s₁.setTop (mkF m 21 #[.val (.ref a), .val (.ref b), .val (.int (Int32.ofNat i))] [.int (yv B i), .int (yv A i)])) := cl.trans (by
          refine XS.iloadN X0.here hexec rfl (hb hbytes d9) rfl ?_
          refine XS.aloadN X0.here hexec rfl (hb hbytes d10) rfl rfl ?_
          refine X0.alen hexec hA0 rfl rfl (hb hbytes d11) ?_
          refine XS.icmpNo X0.here hexec rfl (hb hbytes d12) rfl (ii_ge_f (lt32 (by omega) (by omega))) ?_
          refine XS.aloadN X0.here hexec rfl (hb hbytes d15) rfl rfl ?_
          refine XS.iloadN X0.here hexec rfl (hb hbytes d16) rfl ?_
          refine X0.aget hexec hA0 rfl (yv_get hA tA (i := i) (by omega)) rfl rfl (hb hbytes d17) ?_
          refine XS.aloadN X0.here hexec rfl (hb hbytes d18) rfl rfl ?_
          refine XS.iloadN X0.here hexec rfl (hb hbytes d19) rfl ?_
          refine X0.aget hexec hB0 rfl (yv_get hB tB (i := i) (by omega)) rfl rfl (hb hbytes d20) ?_
          exact Steps.refl _)
        by_cases hv : yv A i = yv B i
        · have c5 : Steps p.tables e below (s₁.setTop (entryFrame m #[.ref a, .ref b] 3)) (s₁.setTop (mkF m 9 #[.val (.ref a), .val (.ref b), .val (.int (Int32.ofNat i + 1))] [])) := c4.trans (by
            refine XS.icmpYes X0.here hexec rfl (pc0 := 21) rfl (hb hbytes d21) rfl (ii_eq_t hv) (by decide) rfl ?_
            refine iincV X0.here hexec rfl 1 (hb hbytes d26) (by decide) rfl rfl ?_
            refine XS.goto X0.here hexec rfl (pc0 := 29) rfl (hb hbytes d29) (by decide) rfl ?_
            exact Steps.refl _)
          rw [succ32] at c5
          exact ih (i + 1) (by omega) (fun j hj => by
            by_cases e : j = i
            · rw [e]; exact hv
            · exact he j (by omega)) c5
        · exact ⟨25, _, 0, Or.inl rfl, Or.inr ⟨rfl, fun q => hv (q.2 i (by omega))⟩, c4.trans (by
            refine XS.icmpNo X0.here hexec rfl (hb hbytes d21) rfl (ii_eq_f hv) ?_
            refine iconstV X0.here hexec rfl 0 (hb hbytes d24) (by decide) ?_
            exact Steps.refl _)⟩
    obtain ⟨pc, Ls, v, hpc, hv, cz⟩ := loop A.slots.size 0 (by omega) (fun j hj => absurd hj (Nat.not_lt_zero j)) c3
    have nv : narrow .boolean (.int v) = .int v := by rcases hv with ⟨rfl, -⟩ | ⟨rfl, -⟩ <;> rfl
    rcases hpc with rfl | rfl
    · exact ⟨s₁, some (.int v), _, _, _, X0, rfl, rfl, rfl, (fun h => by cases h), ⟨v, rfl, hh0, hv⟩, fun fs hl => cz.trans (X0.ireturnOut hexec hret nv (Or.inr (Or.inl rfl)) (hb hbytes d25) hl)⟩
    · exact ⟨s₁, some (.int v), _, _, _, X0, rfl, rfl, rfl, (fun h => by cases h), ⟨v, rfl, hh0, hv⟩, fun fs hl => cz.trans (X0.ireturnOut hexec hret nv (Or.inr (Or.inl rfl)) (hb hbytes d33) hl)⟩
  · have c3 : Steps p.tables e below (s₁.setTop (entryFrame m #[.ref a, .ref b] 3)) (s₁.setTop (mkF m 35 #[.val (.ref a), .val (.ref b), .unset] [.int 0])) := c2.trans (by
      refine XS.icmpYes X0.here hexec rfl (pc0 := 4) rfl (hb hbytes d4) rfl (ii_ne_t (ne32 a31 b31 hs)) (by decide) rfl ?_
      refine iconstV X0.here hexec rfl 0 (hb hbytes d34) (by decide) ?_
      exact Steps.refl _)
    exact ⟨s₁, some (.int 0), _, _, _, X0, rfl, rfl, rfl, (fun h => by cases h), ⟨0, rfl, hh0, Or.inr ⟨rfl, fun q => hs q.1⟩⟩, fun fs hl => c3.trans (X0.ireturnOut hexec hret rfl (Or.inr (Or.inl rfl)) (hb hbytes d35) hl)⟩
end LEq
theorem Cod.ty {cd : Int32} {n : Nat} {f : Nat → Int32} {V : Cell} (h : Cod cd n f V) : Typed .byte V := fun i v hv => by
  have hi : i < V.slots.size := (Array.getElem?_eq_some_iff.mp hv).1
  rcases h with ⟨-, k1, k2⟩ | ⟨-, k1, k2, -⟩
  · rw [(k2 i (by omega)).1] at hv; cases hv; exact fits_lo8 _
  · rcases Nat.mod_two_eq_zero_or_one i with e | e
    · obtain ⟨j, rfl⟩ : ∃ j, i = 2 * j := ⟨i / 2, by omega⟩
      rw [(k2 j (by omega)).1] at hv; cases hv; exact fits_lo8 _
    · obtain ⟨j, rfl⟩ : ∃ j, i = 2 * j + 1 := ⟨i / 2, by omega⟩
      rw [(k2 j (by omega)).2] at hv; cases hv; exact fits_lo8 _
/-- the same text -/
def SameT (n : Nat) (f : Nat → Int32) (k : Nat) (g : Nat → Int32) : Prop := n = k ∧ ∀ j, j < n → f j = g j
theorem lo8_inj {x y : Int32} (h0 : ¬ x < 0) (h1 : ¬ 255 < x) (k0 : ¬ y < 0) (k1 : ¬ 255 < y) (h : lo8 x = lo8 y) : x = y := by
  rw [← lo8_mask h0 h1, ← lo8_mask k0 k1, h]
/-- arrays coded by one coder are equal just where the texts are -/
theorem Cod.eqv {cd : Int32} {n k : Nat} {f g : Nat → Int32} {V V' : Cell} (h : Cod cd n f V) (h' : Cod cd k g V') (hf : ∀ j, j < n → ¬ f j < 0 ∧ ¬ 65535 < f j) (hg : ∀ j, j < k → ¬ g j < 0 ∧ ¬ 65535 < g j) : EqC V V' ↔ SameT n f k g := by
  have yvv : ∀ {W : Cell} {i : Nat} {x : Int32}, W.slots[i]? = some (.int x) → yv W i = x := fun q => by unfold yv; rw [q]
  rcases h with ⟨rfl, k1, k2⟩ | ⟨rfl, k1, k2, -⟩
  · rcases h' with ⟨-, m1, m2⟩ | ⟨e, -⟩
    · constructor
      · rintro ⟨e1, e2⟩
        refine ⟨by omega, fun j hj => ?_⟩
        have q := e2 j (by omega)
        rw [yvv (k2 j hj).1, yvv (m2 j (by omega)).1] at q
        exact lo8_inj (hf j hj).1 (k2 j hj).2 (hg j (by omega)).1 (m2 j (by omega)).2 q
      · rintro ⟨rfl, e2⟩
        refine ⟨by omega, fun j hj => ?_⟩
        rw [yvv (k2 j (by omega)).1, yvv (m2 j (by omega)).1, e2 j (by omega)]
    · exact absurd e (by decide)
  · rcases h' with ⟨e, -⟩ | ⟨-, m1, m2, -⟩
    · exact absurd e (by decide)
    · constructor
      · rintro ⟨e1, e2⟩
        refine ⟨by omega, fun j hj => ?_⟩
        have q1 := e2 (2 * j) (by omega)
        have q2 := e2 (2 * j + 1) (by omega)
        rw [yvv (k2 j hj).1, yvv (m2 j (by omega)).1] at q1
        rw [yvv (k2 j hj).2, yvv (m2 j (by omega)).2] at q2
        rw [← pair_says (hf j hj).1 (hf j hj).2, ← pair_says (hg j (by omega)).1 (hg j (by omega)).2, q1, q2]
      · rintro ⟨rfl, e2⟩
        refine ⟨by omega, fun i hi => ?_⟩
        rcases Nat.mod_two_eq_zero_or_one i with e | e
        · obtain ⟨j, rfl⟩ : ∃ j, i = 2 * j := ⟨i / 2, by omega⟩
          rw [yvv (k2 j (by omega)).1, yvv (m2 j (by omega)).1, e2 j (by omega)]
        · obtain ⟨j, rfl⟩ : ∃ j, i = 2 * j + 1 := ⟨i / 2, by omega⟩
          rw [yvv (k2 j (by omega)).2, yvv (m2 j (by omega)).2, e2 j (by omega)]
/-- two codings differ: so do the texts -/
theorem Cod.dif {cd cd' : Int32} {n k : Nat} {f g : Nat → Int32} {V V' : Cell} (h : Cod cd n f V) (h' : Cod cd' k g V') (hne : ¬ cd = cd') : ¬ SameT n f k g := by
  rintro ⟨rfl, e⟩
  rcases h with ⟨rfl, -, k2⟩ | ⟨rfl, -, -, j, hj, hw⟩
  · rcases h' with ⟨rfl, -⟩ | ⟨-, -, -, j, hj, hw⟩
    · exact hne rfl
    · exact (k2 j hj).2 (by rw [e j hj]; exact hw)
  · rcases h' with ⟨-, -, m2⟩ | ⟨rfl, -⟩
    · exact (m2 j hj).2 (by rw [← e j hj]; exact hw)
    · exact hne rfl
/-- an object of exactly C is an instance of C -/
theorem cinst {p : Program} {l : Launch} {e : Env} {R : Room} {s : State} {m : MethodId} {args : Array Value} {below : List Frame} {meth : Method} {c : Code} {T : State} {locs : List Loc} {cells slots : Nat} (X : Stand p l e R s m args below meth c T locs cells slots) (hexec : p.tables.exec = Jvm.exec) {own C : String} {index : Nat} (hown : s.vm.findClass own = some m.cls) (hlink : (Cond.classLink own index C).before args s = true) {a : Addr} (hE : Exact C a T)
    {g : JFrame} (hg : g.method = m) {rest : List Value} (hstack : g.stack = .ref a :: rest) (hdg : decode c.code g.pc = .ok (.instanceof index, 3)) :
    ∃ T', Stand p l e R s m args below meth c T' locs cells slots ∧ T'.heap = T.heap ∧ ∀ target, Steps p.tables e below (T'.setTop { g with pc := g.pc + 3, stack := .int 1 :: rest }) target → Steps p.tables e below (T.setTop g) target := by
  obtain ⟨cB, h1, D, h2, h3, h4⟩ := hE
  have h1' : s.vm.findClass C = some cB := by rw [← X.warmed.alike.findClass]; exact h1
  obtain ⟨vm', X', st⟩ := X.instanceofYes hexec hown hlink h2 h4 h1' (by rw [h3]; exact Jvm.Free.SB.assignable_self _ _) hg hstack hdg
  exact ⟨_, X', rfl, st⟩
theorem cself {p : Program} {l : Launch} {e : Env} {R : Room} {s : State} {m : MethodId} {args : Array Value} {below : List Frame} {meth : Method} {c : Code} {T : State} {locs : List Loc} {cells slots : Nat} (X : Stand p l e R s m args below meth c T locs cells slots) (hexec : p.tables.exec = Jvm.exec) {own C : String} {index : Nat} (hown : s.vm.findClass own = some m.cls) (hlink : (Cond.classLink own index C).before args s = true) {a : Addr} (hE : Exact C a T)
    {g : JFrame} (hg : g.method = m) {rest : List Value} (hstack : g.stack = .ref a :: rest) (hdg : decode c.code g.pc = .ok (.checkcast index, 3)) :
    ∃ T', Stand p l e R s m args below meth c T' locs cells slots ∧ T'.heap = T.heap ∧ ∀ target, Steps p.tables e below (T'.setTop { g with pc := g.pc + 3, stack := .ref a :: rest }) target → Steps p.tables e below (T.setTop g) target := by
  obtain ⟨cB, h1, D, h2, h3, h4⟩ := hE
  have h1' : s.vm.findClass C = some cB := by rw [← X.warmed.alike.findClass]; exact h1
  obtain ⟨vm', X', st⟩ := X.checkcastYes hexec hown hlink h2 h4 h1' (by rw [h3]; exact Jvm.Free.SB.assignable_self _ _) hg hstack hdg
  exact ⟨_, X', rfl, fun t h => st t (by rw [← hstack] at h; exact h)⟩
namespace SEq
def yN : MethodName := ⟨"java/lang/String", "equals", "(Ljava/lang/Object;)Z"⟩
abbrev yB : ByteArray := jdk_42_method_66_code
theorem d0 : decode yB 0 = .ok (.aload_n 0, 1) := by decide +kernel
theorem d1 : decode yB 1 = .ok (.aload_n 1, 1) := by decide +kernel
theorem d2 : decode yB 2 = .ok (.if_acmp (.ne) 5, 3) := by decide +kernel
theorem d5 : decode yB 5 = .ok (.iconst 1, 1) := by decide +kernel
theorem d6 : decode yB 6 = .ok (.ireturn, 1) := by decide +kernel
theorem d7 : decode yB 7 = .ok (.aload_n 1, 1) := by decide +kernel
theorem d8 : decode yB 8 = .ok (.instanceof 10, 3) := by decide +kernel
theorem d11 : decode yB 11 = .ok (.ifCond (.eq) 43, 3) := by decide +kernel
theorem d14 : decode yB 14 = .ok (.aload_n 1, 1) := by decide +kernel
theorem d15 : decode yB 15 = .ok (.checkcast 10, 3) := by decide +kernel
theorem d18 : decode yB 18 = .ok (.astore_n 2, 1) := by decide +kernel
theorem d19 : decode yB 19 = .ok (.getstatic 38, 3) := by decide +kernel
theorem d22 : decode yB 22 = .ok (.ifCond (.eq) 14, 3) := by decide +kernel
theorem d25 : decode yB 25 = .ok (.aload_n 0, 1) := by decide +kernel
theorem d26 : decode yB 26 = .ok (.getfield 15, 3) := by decide +kernel
theorem d29 : decode yB 29 = .ok (.aload_n 2, 1) := by decide +kernel
theorem d30 : decode yB 30 = .ok (.getfield 15, 3) := by decide +kernel
theorem d33 : decode yB 33 = .ok (.if_icmp (.ne) 21, 3) := by decide +kernel
theorem d36 : decode yB 36 = .ok (.aload_n 0, 1) := by decide +kernel
theorem d37 : decode yB 37 = .ok (.getfield 9, 3) := by decide +kernel
theorem d40 : decode yB 40 = .ok (.aload_n 2, 1) := by decide +kernel
theorem d41 : decode yB 41 = .ok (.getfield 9, 3) := by decide +kernel
theorem d44 : decode yB 44 = .ok (.invokestatic 541, 3) := by decide +kernel
theorem d47 : decode yB 47 = .ok (.ifCond (.eq) 7, 3) := by decide +kernel
theorem d50 : decode yB 50 = .ok (.iconst 1, 1) := by decide +kernel
theorem d51 : decode yB 51 = .ok (.goto 4, 3) := by decide +kernel
theorem d54 : decode yB 54 = .ok (.iconst 0, 1) := by decide +kernel
theorem d55 : decode yB 55 = .ok (.ireturn, 1) := by decide +kernel
def site : List Cond := [.classLink "java/lang/String" 10 "java/lang/String", .fieldLink "java/lang/String" 38 "java/lang/String" "COMPACT_STRINGS" "Z", .fieldLink "java/lang/String" 15 "java/lang/String" "coder" "B", .fieldLink "java/lang/String" 9 "java/lang/String" "value" "[B", LEq.tab] ++ staticW "java/lang/String" 541 LEq.yN
def tab : Cond := tabOf yN yB 3 (some .boolean) site
def P (x t : Addr) (V : Cell) (cd : Int32) (n : Nat) (f : Nat → Int32) (y t' : Addr) (V' : Cell) (cd' : Int32) (k : Nat) (g : Nat → Int32) (z : Int32) (args : Array Value) (s : State) : Prop := args = #[.ref x, .ref y] ∧ Txt x t V cd n f s ∧ Txt y t' V' cd' k g s ∧ StaticIs s "java/lang/String" "COMPACT_STRINGS" "Z" (.int z) ∧ ¬ z = 0
/-- equals(Object) of two Strings: whether the texts are the same -/
theorem law (l : Launch) (x t : Addr) (V : Cell) (cd : Int32) (n : Nat) (f : Nat → Int32) (y t' : Addr) (V' : Cell) (cd' : Int32) (k : Nat) (g : Nat → Int32) (z : Int32) : Law l yN 2 1 1 14 yB 3 (some .boolean) site (P x t V cd n f y t' V' cd' k g z) (Says01 (SameT n f k g)) [] 0 0 := by
  refine Law.of_walk (plainFor_of_name (by decide +kernel)) (by decide +kernel) (by decide +kernel) (by decide) (fun _ _ h => by rw [h.1]; rfl) (fun _ U U' hal hh h => ⟨h.1, h.2.1.mv hal hh, h.2.2.1.mv hal hh, h.2.2.2.1.there hal hh, h.2.2.2.2⟩) (fun r U U' V V' h1 hal h2 h => Says01.mv r U U' V V' h1 hal h2 h) ?_
  intro p e s m args below meth c s₁ X0 hexec hbytes hml hret hlk hnm hown hh0 W hP
  obtain ⟨rfl, hx, hy, s1, hz⟩ := hP
  have c1 : Steps p.tables e below (s₁.setTop (entryFrame m #[.ref x, .ref y] 3)) (s₁.setTop (mkF m 2 #[.val (.ref x), .val (.ref y), .unset] [.ref y, .ref x])) := Steps.trans (entry rfl) (by
    show Steps p.tables e below (s₁.setTop (mkF m 0 #[.val (.ref x), .val (.ref y), .unset] [])) _
    refine XS.aloadN X0.here hexec rfl (hb hbytes d0) rfl rfl ?_
    refine XS.aloadN X0.here hexec rfl (hb hbytes d1) rfl rfl ?_
    exact Steps.refl _)
  by_cases hxy : x = y
  · have c2 : Steps p.tables e below (s₁.setTop (entryFrame m #[.ref x, .ref y] 3)) (s₁.setTop (mkF m 6 #[.val (.ref x), .val (.ref y), .unset] [.int 1])) := c1.trans (by
      refine acmpNo X0.here hexec rfl (hb hbytes d2) rfl rfl rfl (by simp [acmp, hxy]) ?_
      refine iconstV X0.here hexec rfl 1 (hb hbytes d5) (by decide) ?_
      exact Steps.refl _)
    subst hxy
    have ec : cd = cd' := by
      obtain ⟨D, fd, a1, a2, a3⟩ := hx.2.2.1
      obtain ⟨D', fd', b1, b2, b3⟩ := hy.2.2.1
      cases a1.symm.trans b1
      obtain ⟨q1, q2, q3, q4⟩ := a2.1
      obtain ⟨r1, r2, r3, r4⟩ := b2.1
      cases q4.symm.trans r4
      cases a3.symm.trans b3; rfl
    have et : t = t' := by
      obtain ⟨D, fd, a1, a2, a3⟩ := hx.2.1
      obtain ⟨D', fd', b1, b2, b3⟩ := hy.2.1
      cases a1.symm.trans b1
      obtain ⟨q1, q2, q3, q4⟩ := a2.1
      obtain ⟨r1, r2, r3, r4⟩ := b2.1
      cases q4.symm.trans r4
      cases a3.symm.trans b3; rfl
    subst ec et
    have ev : V = V' := by cases hx.2.2.2.1.1.symm.trans hy.2.2.2.1.1; rfl
    subst ev
    have hs : SameT n f k g := (Cod.eqv hx.2.2.2.2.1 hy.2.2.2.2.1 hx.2.2.2.2.2 hy.2.2.2.2.2).mp ⟨rfl, fun _ _ => rfl⟩
    exact ⟨s₁, some (.int 1), _, _, _, X0, rfl, rfl, rfl, (fun h => by cases h), ⟨1, rfl, hh0, Or.inl ⟨rfl, hs⟩⟩, fun fs hl => c2.trans (X0.ireturnOut hexec hret rfl (Or.inr (Or.inl rfl)) (hb hbytes d6) hl)⟩
  · have c2 : Steps p.tables e below (s₁.setTop (entryFrame m #[.ref x, .ref y] 3)) (s₁.setTop (mkF m 8 #[.val (.ref x), .val (.ref y), .unset] [.ref y])) := c1.trans (by
      refine acmpYes X0.here hexec rfl (pc0 := 2) rfl (hb hbytes d2) rfl rfl rfl (by simp [acmp, hxy]) (by decide) rfl ?_
      refine XS.aloadN X0.here hexec rfl (hb hbytes d7) rfl rfl ?_
      exact Steps.refl _)
    obtain ⟨T3, X3, q3, st3⟩ := cinst X0 hexec hown (wk W (.classLink "java/lang/String" 10 "java/lang/String")) (hy.mv X0.warmed.alike hh0).1 (g := (mkF m 8 #[.val (.ref x), .val (.ref y), .unset] [.ref y])) rfl (rest := []) rfl (hb hbytes d8)
    have hh3 := q3.trans hh0
    have c4 : Steps p.tables e below (s₁.setTop (entryFrame m #[.ref x, .ref y] 3)) (T3.setTop (mkF m 15 #[.val (.ref x), .val (.ref y), .unset] [.ref y])) := (c2.trans (st3 _ (Steps.refl _))).trans (by
      refine XS.ifNo X3.here hexec rfl (hb hbytes d11) rfl (i0_eq_f (by decide)) ?_
      refine XS.aloadN X3.here hexec rfl (hb hbytes d14) rfl rfl ?_
      exact Steps.refl _)
    obtain ⟨T5, X5, q5, st5⟩ := cself X3 hexec hown (wk W (.classLink "java/lang/String" 10 "java/lang/String")) (hy.mv X3.warmed.alike hh3).1 (g := (mkF m 15 #[.val (.ref x), .val (.ref y), .unset] [.ref y])) rfl (rest := []) rfl (hb hbytes d15)
    have hh5 := q5.trans hh3
    have c6 : Steps p.tables e below (s₁.setTop (entryFrame m #[.ref x, .ref y] 3)) (T5.setTop (mkF m 19 #[.val (.ref x), .val (.ref y), .val (.ref y)] [])) := (c4.trans (st5 _ (Steps.refl _))).trans (by
      refine XS.astoreN X5.here hexec rfl (hb hbytes d18) rfl rfl rfl ?_
      exact Steps.refl _)
    obtain ⟨T7, X7, q7, st7⟩ := X5.sget hexec hown (wk W (.fieldLink "java/lang/String" 38 "java/lang/String" "COMPACT_STRINGS" "Z")) s1 (fun _ _ h => by rw [hh5]; exact h) (g := (mkF m 19 #[.val (.ref x), .val (.ref y), .val (.ref y)] [])) rfl (hb hbytes d19)
    have hh7 := q7.trans hh5
    have c8 : Steps p.tables e below (s₁.setTop (entryFrame m #[.ref x, .ref y] 3)) (T7.setTop (mkF m 26 #[.val (.ref x), .val (.ref y), .val (.ref y)] [.ref x])) := (c6.trans (st7 _ (Steps.refl _))).trans (by
      refine XS.ifNo X7.here hexec rfl (hb hbytes d22) rfl (i0_eq_f hz) ?_
      refine XS.aloadN X7.here hexec rfl (hb hbytes d25) rfl rfl ?_
      exact Steps.refl _)
    obtain ⟨T9, X9, q9, st9⟩ := X7.hget hexec hown (wk W (.fieldLink "java/lang/String" 15 "java/lang/String" "coder" "B")) (hx.mv X7.warmed.alike hh7).2.2.1 (g := (mkF m 26 #[.val (.ref x), .val (.ref y), .val (.ref y)] [.ref x])) rfl (rest := []) rfl (hb hbytes d26)
    have hh9 := q9.trans hh7
    have c10 : Steps p.tables e below (s₁.setTop (entryFrame m #[.ref x, .ref y] 3)) (T9.setTop (mkF m 30 #[.val (.ref x), .val (.ref y), .val (.ref y)] [.ref y, .int cd])) := (c8.trans (st9 _ (Steps.refl _))).trans (by
      refine XS.aloadN X9.here hexec rfl (hb hbytes d29) rfl rfl ?_
      exact Steps.refl _)
    obtain ⟨T11, X11, q11, st11⟩ := X9.hget hexec hown (wk W (.fieldLink "java/lang/String" 15 "java/lang/String" "coder" "B")) (hy.mv X9.warmed.alike hh9).2.2.1 (g := (mkF m 30 #[.val (.ref x), .val (.ref y), .val (.ref y)] [.ref y, .int cd])) rfl (rest := [.int cd]) rfl (hb hbytes d30)
    have hh11 := q11.trans hh9
    have c12 : Steps p.tables e below (s₁.setTop (entryFrame m #[.ref x, .ref y] 3)) (T11.setTop (mkF m 33 #[.val (.ref x), .val (.ref y), .val (.ref y)] [.int cd', .int cd])) := c10.trans (st11 _ (Steps.refl _))
    by_cases hcd : cd = cd'
    · subst hcd
      have c13 : Steps p.tables e below (s₁.setTop (entryFrame m #[.ref x, .ref y] 3)) (T11.setTop (mkF m 37 #[.val (.ref x), .val (.ref y), .val (.ref y)] [.ref x])) := c12.trans (by
        refine XS.icmpNo X11.here hexec rfl (hb hbytes d33) rfl (ii_ne_f rfl) ?_
        refine XS.aloadN X11.here hexec rfl (hb hbytes d36) rfl rfl ?_
        exact Steps.refl _)
      obtain ⟨T14, X14, q14, st14⟩ := X11.hget hexec hown (wk W (.fieldLink "java/lang/String" 9 "java/lang/String" "value" "[B")) (hx.mv X11.warmed.alike hh11).2.1 (g := (mkF m 37 #[.val (.ref x), .val (.ref y), .val (.ref y)] [.ref x])) rfl (rest := []) rfl (hb hbytes d37)
      have hh14 := q14.trans hh11
      have c15 : Steps p.tables e below (s₁.setTop (entryFrame m #[.ref x, .ref y] 3)) (T14.setTop (mkF m 41 #[.val (.ref x), .val (.ref y), .val (.ref y)] [.ref y, .ref t])) := (c13.trans (st14 _ (Steps.refl _))).trans (by
        refine XS.aloadN X14.here hexec rfl (hb hbytes d40) rfl rfl ?_
        exact Steps.refl _)
      obtain ⟨T16, X16, q16, st16⟩ := X14.hget hexec hown (wk W (.fieldLink "java/lang/String" 9 "java/lang/String" "value" "[B")) (hy.mv X14.warmed.alike hh14).2.1 (g := (mkF m 41 #[.val (.ref x), .val (.ref y), .val (.ref y)] [.ref y, .ref t])) rfl (rest := [.ref t]) rfl (hb hbytes d41)
      have hh16 := q16.trans hh14
      have c17 : Steps p.tables e below (s₁.setTop (entryFrame m #[.ref x, .ref y] 3)) (T16.setTop (mkF m 44 #[.val (.ref x), .val (.ref y), .val (.ref y)] [.ref t', .ref t])) := c15.trans (st16 _ (Steps.refl _))
      obtain ⟨v18, T18, X18, E18, g18⟩ := X16.callS hexec (LEq.law l t V t' V') hown (wks W (staticW "java/lang/String" 541 LEq.yN)) (wk W LEq.tab) (W := 0) (Nat.le_of_ble_eq_true rfl) (Nat.le_of_ble_eq_true rfl) (Nat.le_refl _) (Nat.le_refl _) (g := (mkF m 44 #[.val (.ref x), .val (.ref y), .val (.ref y)] [.ref t', .ref t])) rfl (by rw [hml]; rfl) c17 (argsL := [.ref t, .ref t']) (rest := []) rfl rfl (by show 2 * 0 + 0 ≤ _; decide) (hb hbytes d44) (⟨rfl, hx.2.2.2.1.mv X16.warmed.alike hh16, hx.2.2.2.2.1.ty, hy.2.2.2.1.mv X16.warmed.alike hh16, hy.2.2.2.2.1.ty⟩)
      obtain ⟨v, rfl, q18, hv⟩ := E18
      have iff := Cod.eqv hx.2.2.2.2.1 hy.2.2.2.2.1 hx.2.2.2.2.2 hy.2.2.2.2.2
      rcases hv with ⟨rfl, he⟩ | ⟨rfl, he⟩
      · have c19 : Steps p.tables e below (s₁.setTop (entryFrame m #[.ref x, .ref y] 3)) (T18.setTop (mkF m 55 #[.val (.ref x), .val (.ref y), .val (.ref y)] [.int 1])) := Steps.trans g18 (by
          refine XS.ifNo X18.here hexec rfl (hb hbytes d47) rfl (i0_eq_f (by decide)) ?_
          refine iconstV X18.here hexec rfl 1 (hb hbytes d50) (by decide) ?_
          refine XS.goto X18.here hexec rfl (pc0 := 51) rfl (hb hbytes d51) (by decide) rfl ?_
          exact Steps.refl _)
        exact ⟨T18, some (.int 1), _, _, _, X18, rfl, rfl, rfl, (fun h => by cases h), ⟨1, rfl, q18.trans hh16, Or.inl ⟨rfl, iff.mp he⟩⟩, fun fs hl => c19.trans (X18.ireturnOut hexec hret rfl (Or.inr (Or.inl rfl)) (hb hbytes d55) hl)⟩
      · have c19 : Steps p.tables e below (s₁.setTop (entryFrame m #[.ref x, .ref y] 3)) (T18.setTop (mkF m 55 #[.val (.ref x), .val (.ref y), .val (.ref y)] [.int 0])) := Steps.trans g18 (by
          refine XS.ifYes X18.here hexec rfl (pc0 := 47) rfl (hb hbytes d47) rfl (i0_eq_t rfl) (by decide) rfl ?_
          refine iconstV X18.here hexec rfl 0 (hb hbytes d54) (by decide) ?_
          exact Steps.refl _)
        exact ⟨T18, some (.int 0), _, _, _, X18, rfl, rfl, rfl, (fun h => by cases h), ⟨0, rfl, q18.trans hh16, Or.inr ⟨rfl, fun q => he (iff.mpr q)⟩⟩, fun fs hl => c19.trans (X18.ireturnOut hexec hret rfl (Or.inr (Or.inl rfl)) (hb hbytes d55) hl)⟩
    · have c13 : Steps p.tables e below (s₁.setTop (entryFrame m #[.ref x, .ref y] 3)) (T11.setTop (mkF m 55 #[.val (.ref x), .val (.ref y), .val (.ref y)] [.int 0])) := c12.trans (by
        refine XS.icmpYes X11.here hexec rfl (pc0 := 33) rfl (hb hbytes d33) rfl (ii_ne_t hcd) (by decide) rfl ?_
        refine iconstV X11.here hexec rfl 0 (hb hbytes d54) (by decide) ?_
        exact Steps.refl _)
      exact ⟨T11, some (.int 0), _, _, _, X11, rfl, rfl, rfl, (fun h => by cases h), ⟨0, rfl, hh11, Or.inr ⟨rfl, Cod.dif hx.2.2.2.2.1 hy.2.2.2.2.1 hcd⟩⟩, fun fs hl => c13.trans (X11.ireturnOut hexec hret rfl (Or.inr (Or.inl rfl)) (hb hbytes d55) hl)⟩
theorem pays {l : Launch} {R : Room} {p : Program} {e : Env} {below : List Frame} {s : State} {sargs : Array Value} {len W : Nat} (x t : Addr) (V : Cell) (cd : Int32) (n : Nat) (f : Nat → Int32) (y t' : Addr) (V' : Cell) (cd' : Int32) (k : Nat) (g : Nat → Int32) (z : Int32) (htab : tab.before sargs s = true) (hfr : 2 ≤ R.frames) (hlo : W + 28 ≤ R.locals) :
    Back l R p e below s sargs yN len W (fun A₁ a₁ => A₁.cells + 0 ≤ R.cells ∧ A₁.slots + 0 ≤ R.slots ∧ P x t V cd n f y t' V' cd' k g z a₁ A₁.U) (fun A₁ _ v₁ B₁ => Says01 (SameT n f k g) v₁ A₁.U B₁.U ∧ B₁.locs = A₁.locs ++ [] ∧ B₁.cells = A₁.cells + 0 ∧ B₁.slots = A₁.slots + 0) :=
  (law l x t V cd n f y t' V' cd' k g z).pays htab hfr (by omega)
end SEq
end StrChars
namespace StrChars.Road
open Jvm Sem ClassFile Op Lib Jvm.Stand Jvm.Free Jvm.Free.XT
open Jvm.Lib.Cold (StaticIs)
/-- the words of String.equals(Object) -/
abbrev wordsEq : List Jvm.Cond := [.code SEq.yN SEq.yB 3 (some .boolean), .initialized ST, .classLink ST 10 ST, .fieldLink ST 38 ST "COMPACT_STRINGS" "Z", .fieldLink ST 15 ST "coder" "B", .fieldLink ST 9 ST "value" "[B", .methodLink ST 541 LEq.yN, .static LEq.yN, .code LEq.yN LEq.yB 3 (some .boolean), .initialized "java/lang/StringLatin1"]
theorem tabEq_of {a : Array Value} {s : State} (h : ∀ w ∈ wordsEq, w.before a s = true) : SEq.tab.before a s = true := by
  have hl : LEq.tab.before a s = true := unparts (wk h (.code LEq.yN LEq.yB 3 (some .boolean))) (wks h (.initialized LEq.yN.cls :: LEq.site))
  have q := consq hl h
  exact unparts (wk q (.code SEq.yN SEq.yB 3 (some .boolean))) (wks q (.initialized SEq.yN.cls :: SEq.site))
theorem movedEq {Z s : State} {a0 args : Array Value} (hZ : Z.Warmed39 s.vm) (hw : ∀ d ∈ wordsEq, d.before a0 Z = true) : ∀ d ∈ wordsEq, d.before args s = true := fun d hd => by
  have t : ∀ d ∈ wordsEq, (d.onTables && d.keepsFace) = true := by decide +kernel
  exact RoadKit.mv hZ (hw d hd) (t d hd)
/-- the road's facts of a String, as the laws ask it -/
theorem txt_of {Z U : State} {a0 : Array Value} {kI : Nat} (wi : (Jvm.Cond.instantiable ST kI).before a0 Z = true) (al : Z.vm.Alike U.vm) {x t : Addr} {kb : ClassId} {cs : List Int32} {cd N2 : Int32} {vs : List Value} (E : RoadKit.Exa Z U.heap x ST) (V : RoadKit.Fld Z U.heap x ST "value" "[B" (.ref t)) (C : RoadKit.Fld Z U.heap x ST "coder" "B" (.int cd)) (K : RoadKit.Arv Z U.heap t kb .byte N2 vs (.int 0)) (hc : CodA cs cd N2 vs) (hb : ∀ c ∈ cs, ¬ c < 0 ∧ ¬ (65535 : Int32) < c) (l2 : cs.length ≤ 4000) :
    ∃ A, Txt x t A cd cs.length (fun j => cs.getD j 0) U := by
  obtain ⟨A, K1, K2, K3, K4, K5, K6⟩ := K
  have hcod := hc.cod (by omega) K3 K5
  obtain ⟨D, fV, fC, hB, F1, F2, g1, g2, -, -⟩ := strObj wi al E V C
  exact ⟨A, ⟨_, hB.2.2.1, D, hB.1, rfl, by cases q : D.vm <;> first | rfl | exact absurd q (hB.2.1.2 _)⟩, Has.of hB F1 g1, Has.of hB F2 g2, ⟨K1.1, State.isArrayOf_alike al K1.2.1, K1.2.2, by rcases hcod with ⟨-, q, -⟩ | ⟨-, q, -⟩ <;> omega⟩, hcod, fun j hj => by
    have e : cs.getD j 0 = cs[j] := by simp [List.getD_eq_getElem?_getD, hj]
    show ¬ cs.getD j 0 < 0 ∧ ¬ 65535 < cs.getD j 0
    rw [e]; exact hb _ (List.getElem_mem _)⟩
theorem same_list (cs ds : List Int32) : SameT cs.length (fun j => cs.getD j 0) ds.length (fun j => ds.getD j 0) ↔ cs = ds := by
  constructor
  · rintro ⟨e, q⟩
    refine List.ext_getElem e fun j h1 h2 => ?_
    have := q j h1
    simpa [List.getD_eq_getElem?_getD, h1, h2] using this
  · rintro rfl
    exact ⟨rfl, fun _ _ => rfl⟩
/-- **equals(Object) OF TWO SUCH STRINGS**: 1 just where the chars are the same -/
theorem eqW {p : Program} {l : Launch} {e : Env} {R : Room} {s : State} {args : Array Value} {below : List Frame} {len W : Nat} {Z : State} {a0 : Array Value} {h : Heap} (hZ : Z.Warmed39 s.vm) (hw : ∀ d ∈ wordsEq, d.before a0 Z = true) {kI : Nat} (wi : (Jvm.Cond.instantiable ST kI).before a0 Z = true)
    {x t : Addr} {kb : ClassId} {cs : List Int32} {cd N2 : Int32} {vs : List Value} (E : RoadKit.Exa Z h x ST) (V : RoadKit.Fld Z h x ST "value" "[B" (.ref t)) (C : RoadKit.Fld Z h x ST "coder" "B" (.int cd)) (K : RoadKit.Arv Z h t kb .byte N2 vs (.int 0)) (hc : CodA cs cd N2 vs) (hb : ∀ c ∈ cs, ¬ c < 0 ∧ ¬ (65535 : Int32) < c) (l2 : cs.length ≤ 4000)
    {y t' : Addr} {kb' : ClassId} {ds : List Int32} {cd' N2' : Int32} {vs' : List Value} (E' : RoadKit.Exa Z h y ST) (V' : RoadKit.Fld Z h y ST "value" "[B" (.ref t')) (C' : RoadKit.Fld Z h y ST "coder" "B" (.int cd')) (K' : RoadKit.Arv Z h t' kb' .byte N2' vs' (.int 0)) (hc' : CodA ds cd' N2' vs') (hb' : ∀ c ∈ ds, ¬ c < 0 ∧ ¬ (65535 : Int32) < c) (l2' : ds.length ≤ 4000)
    {z : Int32} (S : RoadKit.Sta Z h ST "COMPACT_STRINGS" "Z" (.int z)) (hz : ¬ z = 0) (hfr : 2 ≤ R.frames) (hlo : W + 28 ≤ R.locals) :
    Back l R p e below s args (⟨"java/lang/String", "equals", "(Ljava/lang/Object;)Z"⟩ : MethodName) len W (fun P a => a = #[.ref x, .ref y] ∧ P.U.heap = h ∧ P.cells + 0 ≤ R.cells ∧ P.slots + 0 ≤ R.slots)
      (fun P _ v B => ∃ L, (((v = some (.int 1) ∧ cs = ds) ∨ (v = some (.int 0) ∧ ¬ cs = ds)) ∧ L = [] ∧ B.U.heap = h) ∧ B.locs = P.locs ++ L ∧ B.cells = P.cells + 0 ∧ B.slots = P.slots + 0) := by
  intro m meth c P g ig mk a X hg hsize hdg hW hn hp'
  obtain ⟨rfl, rfl, r1, r2⟩ := hp'
  have al : Z.vm.Alike P.U.vm := hZ.alike.trans X.warmed.alike
  obtain ⟨A, hx⟩ := txt_of wi al E V C K hc hb l2
  obtain ⟨A', hy⟩ := txt_of wi al E' V' C' K' hc' hb' l2'
  obtain ⟨v, B, X', ⟨⟨w, hv, hh, hq⟩, hl, hk, hs⟩, st⟩ := SEq.pays x t A cd cs.length (fun j => cs.getD j 0) y t' A' cd' ds.length (fun j => ds.getD j 0) z (tabEq_of (movedEq hZ hw)) hfr hlo m meth c P g ig mk _ X hg hsize hdg hW hn ⟨r1, r2, rfl, hx, hy, sta_is al S, hz⟩
  refine ⟨v, B, X', ⟨[], ⟨?_, rfl, hh⟩, hl, hk, hs⟩, st⟩
  rcases hq with ⟨rfl, q⟩ | ⟨rfl, q⟩
  · exact Or.inl ⟨hv, (same_list cs ds).mp q⟩
  · exact Or.inr ⟨hv, fun e => q ((same_list cs ds).mpr e)⟩
end StrChars.Road
namespace StrChars.Road
open Jvm Sem ClassFile Op Lib Jvm.Stand Jvm.Free Jvm.Free.XT
open Jvm.Lib.Cold (StaticIs)
/-- what backV says of its String, as the contracts of this text ask it: cs's low bytes, coder 0 -/
theorem codOf {cs : List Int32} {n : Nat} (hn : cs.length = n) (hb : ∀ c ∈ cs, ¬ 255 < c) : CodA cs 0 (Int32.ofNat n) ((cs.map lo8).map Value.int) := Or.inl ⟨rfl, by rw [hn], by simp [List.map_map, Function.comp_def], hb⟩
end StrChars.Road
end Jvm.Pilot.@@N@@

namespace Jvm.RoadKit
open Sem ClassFile Op Lib Jvm.Stand Jvm.Free Jvm.LawKit
section Own
variable {p : Program} {l : Launch} {e : Env} {R : Room} {s : State} {m : MethodId} {args : Array Value} {below : List Frame} {meth : Method} {c : Code} {T T' : State} {locs : List Loc} {cells slots : Nat} {Q : Option Value → Heap → List Loc → Prop} {h : Heap}
/-- from T the invocation comes to an end of which P holds -/
def Ends (p : Program) (e : Env) (below : List Frame) (P : Outcome → State → Prop) (T : State) : Prop := ∃ s₂ o, Steps p.tables e below T s₂ ∧ s₂.status = .running ∧ Ended s₂ below o ∧ P o s₂
/-- the end of a body that interns nothing -/
def EndN (s : State) (R : Room) (Q : Option Value → Heap → List Loc → Prop) (o : Outcome) (s₂ : State) : Prop := ∃ v L, o = .returned v ∧ Q v s₂.heap L ∧ FrameEnd s o s₂ L R.cells R.slots
/-- the end of a body that may intern String constants -/
def EndW (s : State) (R : Room) (Z : State) (EL : List (String × Nat)) (Q : Option Value → Heap → List Loc → Prop) (o : Outcome) (s₂ : State) : Prop := ∃ v L, o = .returned v ∧ Q v s₂.heap L ∧ CHr Z EL s.vm s.heap s₂.vm s₂.heap ∧ ReturnedEndW s o s₂ L R.cells R.slots
theorem Ends.pre {P : Outcome → State → Prop} (k : ∀ t, Steps p.tables e below T' t → Steps p.tables e below T t) (h : Ends p e below P T') : Ends p e below P T := by
  obtain ⟨a, b, d, r⟩ := h
  exact ⟨a, b, k _ d, r⟩
theorem Ends.cast {P : Outcome → State → Prop} {g g' : JFrame} (q : g = g') (h : Ends p e below P (T.setTop g')) : Ends p e below P (T.setTop g) := q ▸ h
theorem Ends.ret (X : Stand p l e R s m args below meth c T locs cells slots) (hx : p.tables.exec = Jvm.exec) (hlk : meth.locks = false) {pc : Nat} {Ls : Array Slot} {w : Value} {t : FieldType} {i : Instr} {rest : List Value} (hret : meth.sig.returnType = some t) (hn : narrow t w = w)
    (hi : (i = .ireturn ∧ (t = .int ∨ t = .boolean ∨ t = .byte ∨ t = .char ∨ t = .short) ∧ ∃ z, w = .int z) ∨ (i = .lreturn ∧ t = .long ∧ ∃ z, w = .long z) ∨ (i = .dreturn ∧ t = .double ∧ ∃ z, w = .double z) ∨ (i = .freturn ∧ t = .float ∧ ∃ z, w = .float z) ∨ (i = .areturn ∧ t.isReference = true ∧ w.isRef = true))
    (hd : decode c.code pc = .ok (i, 1)) (eT : T.heap = h) (hq : Q (some w) h locs) (h1 : cells ≤ R.cells) (h2 : slots ≤ R.slots) : Ends p e below (EndN s R Q) (T.setTop (mkF m pc Ls (w :: rest))) := by
  obtain ⟨fs, hr, hrun, hended, hW, hsame⟩ := X.leave (v := some w) (fun q => by rw [hret] at q; cases q) hlk
  refine ⟨_, _, retOut X hx hret hn hi hd hr, hrun, hended, _, _, rfl, ?_, ⟨_, rfl⟩, hW, hsame.mono h1 h2⟩
  show Q (some w) T.heap locs
  rw [eT]; exact hq
theorem Ends.ret0 (X : Stand p l e R s m args below meth c T locs cells slots) (hx : p.tables.exec = Jvm.exec) (hlk : meth.locks = false) {pc : Nat} {Ls : Array Slot} (hret : meth.sig.returnType = none)
    (hd : decode c.code pc = .ok (.return_, 1)) (eT : T.heap = h) (hq : Q none h locs) (h1 : cells ≤ R.cells) (h2 : slots ≤ R.slots) : Ends p e below (EndN s R Q) (T.setTop (mkF m pc Ls [])) := by
  obtain ⟨fs, hr, hrun, hended, hW, hsame⟩ := X.leave (v := none) (fun _ => rfl) hlk
  refine ⟨_, _, X.returnOut hx hret hd hr, hrun, hended, _, _, rfl, ?_, ⟨_, rfl⟩, hW, hsame.mono h1 h2⟩
  show Q none T.heap locs
  rw [eT]; exact hq
theorem Ends.retW {Z : State} {a0 : Array Value} {EL : List (String × Nat)} {vm0 : Vm} {k0 : Nat} {h0 : Heap} (X : Stand p l e R (s.setVm vm0) m args below meth c T locs cells slots) (hx : p.tables.exec = Jvm.exec) (hlk : meth.locks = false) {pc : Nat} {Ls : Array Slot} {w : Value} {t : FieldType} {i : Instr} {rest : List Value} (hret : meth.sig.returnType = some t) (hn : narrow t w = w)
    (hi : (i = .ireturn ∧ (t = .int ∨ t = .boolean ∨ t = .byte ∨ t = .char ∨ t = .short) ∧ ∃ z, w = .int z) ∨ (i = .lreturn ∧ t = .long ∧ ∃ z, w = .long z) ∨ (i = .dreturn ∧ t = .double ∧ ∃ z, w = .double z) ∨ (i = .freturn ∧ t = .float ∧ ∃ z, w = .float z) ∨ (i = .areturn ∧ t.isReference = true ∧ w.isRef = true))
    (hd : decode c.code pc = .ok (i, 1)) (eT : T.heap = h) (hZ : Z.Warmed39 vm0) (hEL : EW Z a0 EL) (hS : s.Since vm0 k0) (hk : k0 ≤ h.size) (hh : s.heap = h0) (CR : CHr Z EL s.vm h0 vm0 h) (hq : Q (some w) h locs) (h1 : cells ≤ R.cells) (h2 : slots ≤ R.slots) : Ends p e below (EndW s R Z EL Q) (T.setTop (mkF m pc Ls (w :: rest))) := by
  subst eT hh
  obtain ⟨fs, hr, hrun, hended, r1, r2, r3, r4⟩ := X.leaveW hS hk (v := some w) (fun q => by rw [hret] at q; cases q) hlk
  have q := CR.trans (CHv.at X hZ hEL CR.1)
  exact ⟨_, _, retOut X hx hret hn hi hd hr, hrun, hended, _, _, rfl, hq, q, r1, r2, r3, r4.mono h1 h2⟩
theorem Ends.ret0W {Z : State} {a0 : Array Value} {EL : List (String × Nat)} {vm0 : Vm} {k0 : Nat} {h0 : Heap} (X : Stand p l e R (s.setVm vm0) m args below meth c T locs cells slots) (hx : p.tables.exec = Jvm.exec) (hlk : meth.locks = false) {pc : Nat} {Ls : Array Slot} (hret : meth.sig.returnType = none)
    (hd : decode c.code pc = .ok (.return_, 1)) (eT : T.heap = h) (hZ : Z.Warmed39 vm0) (hEL : EW Z a0 EL) (hS : s.Since vm0 k0) (hk : k0 ≤ h.size) (hh : s.heap = h0) (CR : CHr Z EL s.vm h0 vm0 h) (hq : Q none h locs) (h1 : cells ≤ R.cells) (h2 : slots ≤ R.slots) : Ends p e below (EndW s R Z EL Q) (T.setTop (mkF m pc Ls [])) := by
  subst eT hh
  obtain ⟨fs, hr, hrun, hended, r1, r2, r3, r4⟩ := X.leaveW hS hk (v := none) (fun _ => rfl) hlk
  have q := CR.trans (CHv.at X hZ hEL CR.1)
  exact ⟨_, _, X.returnOut hx hret hd hr, hrun, hended, _, _, rfl, hq, q, r1, r2, r3, r4.mono h1 h2⟩
/-- T' stands as T does -/
def SS (X : Stand p l e R s m args below meth c T locs cells slots) (T' : State) : Prop := Stand p l e R s m args below meth c T' locs cells slots
theorem Stand_mono {cells' slots' : Nat} (X : Stand p l e R s m args below meth c T locs cells slots) (h1 : cells ≤ cells') (h2 : slots ≤ slots') : Stand p l e R s m args below meth c T locs cells' slots' := { X with same := X.same.mono h1 h2 }
theorem lremM {g : JFrame} {target : State} (X : Stand p l e R s m args below meth c T locs cells slots) (hx : p.tables.exec = Jvm.exec) (hg : g.method = m) {x y : Int64} {rest : List Value} (hd : decode c.code g.pc = .ok (.lrem, 1)) (hs : g.stack = .long y :: .long x :: rest) (hy : y ≠ 0)
    (hr : Steps p.tables e below (T.setTop { g with pc := g.pc + 1, stack := .long (x % y) :: rest }) target) : Steps p.tables e below (T.setTop g) target :=
  XS.lrem X.here hx hg hd hs hy (by rw [lrem_mod]; exact hr)
theorem nf_via {y y' : MethodName} {m' : MethodId} (hn : s.methodNamed? y' = some m') (hc : y'.cls = y.cls) (nf : NotFace s y') : NotFace s y := fun r0 h0 => by
  obtain ⟨kr, h1, h2⟩ := nf _ hn
  have e1 := findClass_of_methodNamed hn
  have e2 := findClass_of_methodNamed h0
  rw [hc] at e1
  have e3 : m'.cls = r0.cls := Option.some.inj (e1.symm.trans e2)
  exact ⟨kr, e3 ▸ h1, h2⟩
theorem Sta_keep0 {Z : State} {h h' : Heap} {C n d : String} {v : Value} (F : Sta Z h C n d v) (K : Keep h h' []) : Sta Z h' C n d v := by
  obtain ⟨cf, i, k, f, st, cell, h1, h2, h3, h4, h5, r⟩ := F
  exact ⟨cf, i, k, f, st, cell, h1, h2, h3, h4, K.2.1 _ _ h5 nin0, r⟩
theorem Sta_keepW {Z : State} {h h' : Heap} {ws : List Addr} {C n d : String} {v : Value} (F : Sta Z h C n d v) (K : Keep h h' ws) (q : ∀ x ∈ ws, ∀ cell : Cell, h[x]? = some cell → cell.vm.isStatics = false) : Sta Z h' C n d v := by
  obtain ⟨cf, i, k, f, st, cell, h1, h2, h3, h4, h5, h6, r⟩ := F
  exact ⟨cf, i, k, f, st, cell, h1, h2, h3, h4, K.2.1 _ _ h5 (fun z => by have := q _ z _ h5; rw [h6] at this; cases this), h6, r⟩
theorem Ins_keep {Z : State} {h h' : Heap} {ws : List Addr} {a : Addr} {C : String} {b : Bool} (F : Ins Z h a C b) (K : Keep h h' ws) : Ins Z h' a C b := by
  obtain ⟨cell, cT, h1, h2, h3⟩ := F
  obtain ⟨c', q1, q2, q3, -⟩ := K.2.2 _ _ h1
  exact ⟨c', cT, q1, h2, by rw [q2, q3]; exact h3⟩
theorem Arr_keep0 {Z : State} {h h' : Heap} {a : Addr} {c : Cell} {ty : FieldType} (F : Arr Z h a c ty) (K : Keep h h' []) : Arr Z h' a c ty := ⟨K.2.1 _ _ F.1 nin0, F.2⟩
theorem NS_root' {Z : State} {a0 : Array Value} {O K : String} {n : Nat} (w : (Cond.noSuperclass O).before a0 Z = true) (wk : (Cond.instantiable K n).before a0 Z = true) (hn : O ≠ K) : NS Z O K := by
  obtain ⟨c, k, h1, h2, h3, -, -⟩ := Cond.noSuperclass_spec w
  obtain ⟨t, kt, g1, -⟩ := Cond.instantiable_spec wk
  have ne := ids_ne h1 g1 hn
  refine ⟨c, t, h1, g1, fun fuel => ?_⟩
  cases fuel with
  | zero => rfl
  | succ f => simp [Vm.isSubclassAux, ne, h2, h3]
theorem NS_no' {Z : State} {a0 : Array Value} {C S K : String} {n : Nat} (w : (Cond.superclass C S).before a0 Z = true) (wk : (Cond.instantiable K n).before a0 Z = true) (q : NS Z C K) (hn : C ≠ K) : ∃ c t, Z.vm.findClass C = some c ∧ Z.vm.findClass K = some t ∧ Z.vm.assignable c t = false := by
  obtain ⟨c, t, h0, g0, n3⟩ := q
  obtain ⟨p, k, kp, h1, h2, h3, h4, h5, -, h7⟩ := Cond.superclass_spec h0 w
  obtain ⟨t', k', g1, g2, g5, g7, -⟩ := Cond.instantiable_spec wk
  cases g0.symm.trans g1
  have ne := ids_ne h0 g0 hn
  have g8 : k'.isInterface = false := by
    cases hq : k'.isInterface with
    | false => rfl
    | true => simp [hq] at g7
  refine ⟨c, t, h0, g0, ?_⟩
  show Z.vm.assignableAux (255 + 1) c t = false
  simp [Vm.assignableAux, ne, h2, g2, h5, g5, g8, Vm.isSubclass, n3]
theorem Safe_null {Z : State} {EL : List (String × Nat)} {vm : Vm} {h : Heap} {x : Addr} (hal : Z.vm.Alike vm) (E : Exa Z h x "java/lang/String") (F : Fld Z h x "java/lang/String" "value" "[B" .null) : Safe Z EL vm h x := fun B => by
  obtain ⟨p, -, u, a, -, q, -, G, rfl | rfl⟩ := B
  · have ha : h[q.sa]? = some q.sC := G.ha
    obtain ⟨cS, ⟨⟨-, -, -, ⟨c1, k1, i1, f1, -⟩, -, -, -, v1, -⟩, -⟩, -⟩ := G
    obtain ⟨cell, cf, k, i, f, g1, g2, -, -, -, -, g7⟩ := F
    cases ha.symm.trans g1
    obtain ⟨k3, e3, -⟩ := State.fieldFound?_setVm (s := Z) hal g2
    have e4 := (show (Wst Z vm h).fieldFound? _ _ _ = _ from e3).symm.trans f1
    simp only [Option.some.injEq, Prod.mk.injEq] at e4
    rw [← e4.2.2.2, g7] at v1
    cases v1
  · have hd : h[q.sd]? = some q.SA := G.hd
    obtain ⟨cS, -, -, f, -⟩ := G
    obtain ⟨cell, k, e1, e2, -⟩ := E
    cases hd.symm.trans e1
    exact ids_ne e2 ((hal.findClass _ _).symm.trans f) (by decide) rfl
theorem sel_priv {args : Array Value} {n : Nat} {y : MethodName} (hy : y.cls ≠ "java/lang/invoke/MethodHandle" ∧ y.cls ≠ "java/lang/invoke/VarHandle") (hins : (Cond.instantiable y.cls n).before args s = true) (hpriv : (Cond.privateMethod y).before args s = true) (hinst : (Cond.instanceMethod y).before args s = true) : (Cond.selects y.cls y y).before args s = true := by
  obtain ⟨c, k, hc, hk, -, hniab, -, -⟩ := Cond.instantiable_spec hins
  have hni : k.isInterface = false := (Bool.or_eq_false_iff.mp hniab).1
  obtain ⟨mk, methM, hnamed, hmethM, -, -⟩ := Cond.instanceMethod_spec hinst
  have hfound : s.methodFound? y.cls y.name y.desc = some mk := State.methodFound?_of_named hnamed hy
  have hcls : mk.cls = c := Option.some.inj ((findClass_of_methodNamed hnamed).symm.trans hc)
  have hsel : selectMethod {} s.vm c mk = .method mk := selectMethod_private hmethM (Cond.privateMethod_at hpriv mk methM hnamed hmethM)
  simp only [Cond.before, Cond.holds, Cond.value, hc, hfound, hnamed, hsel, hcls, hk]
  simp; exact hni
theorem arv_ty {Z : State} {h : Heap} {a b : Addr} {k1 k2 : ClassId} {t1 t2 : FieldType} {z1 z2 : Int32} {v1 v2 : List Value} {d1 d2 : Value} (A : Arv Z h a k1 t1 z1 v1 d1) (B : Arv Z h b k2 t2 z2 v2 d2) (q : t1 ≠ t2) : a ≠ b := fun e => by
  subst e
  obtain ⟨c1, A1, -⟩ := A
  obtain ⟨c2, B1, -⟩ := B
  cases A1.1.symm.trans B1.1
  obtain ⟨-, k, h1, comp, h2⟩ := A1.2.1
  obtain ⟨-, k', h1', comp', h2'⟩ := B1.2.1
  cases h1.symm.trans h1'
  rw [h2] at h2'
  cases h2'
  exact q rfl
theorem eqI_v {first : State} {o : Option Outcome} {idx : List Nat} {a : Term} {k : Int32} (q : (Cond.eq a (.int k)).value args first o s idx = some true) : a.eval args first o idx s = some (.int k) := by
  cases ha : a.eval args first o idx s with
  | none => simp [Cond.value, ha] at q
  | some x => cases x <;> simp [Cond.value, ha, Term.eval] at q ⊢; exact q
theorem eqL_v {first : State} {o : Option Outcome} {idx : List Nat} {a : Term} {k : Int64} (q : (Cond.eq a (.long k)).value args first o s idx = some true) : a.eval args first o idx s = some (.long k) := by
  cases ha : a.eval args first o idx s with
  | none => simp [Cond.value, ha] at q
  | some x => cases x <;> simp [Cond.value, ha, Term.eval] at q ⊢; exact q
end Own
end Jvm.RoadKit
namespace Jvm.Pilot.@@N@@
open Jvm Jvm.ClassFile Sem Op Lib Jvm.Free Jvm.Stand Jvm.LawKit Jvm.RoadKit Bundle Jvm.Pilot.@@N@@.Jvm.D
theorem own_al0 {P : Int32 → Prop} : ∀ x ∈ ([] : List Int32), P x := fun _ q => nomatch q
theorem own_alS {P : Int32 → Prop} {y : Int32} {L : List Int32} (q : P y) (r : ∀ x ∈ L, P x) : ∀ x ∈ y :: L, P x := fun x z => (List.mem_cons.mp z).elim (fun u => u ▸ q) (r x)
theorem own_up (cs : List Int32) (h : ∀ c ∈ cs, ¬ c < 0 ∧ ¬ (255 : Int32) < c) : ∀ c ∈ cs, ¬ c < 0 ∧ ¬ (65535 : Int32) < c := fun c hc => ⟨(h c hc).1, fun q => (h c hc).2 (by rw [Int32.lt_iff_toInt_lt] at q ⊢; have e1 : (65535 : Int32).toInt = 65535 := rfl; have e2 : (255 : Int32).toInt = 255 := rfl; omega)⟩
theorem own_char {c : Int32} (h : ¬ c < 0 ∧ ¬ (255 : Int32) < c) : nar .char c = c := by
  obtain ⟨h0, h1⟩ := h
  have a := c_i2c c
  have e : nar .char c = c.toUInt32.toUInt16.toUInt32.toInt32 := rfl
  have e0 : (0 : Int32).toInt = 0 := rfl
  have e1 : (255 : Int32).toInt = 255 := rfl
  rw [Int32.lt_iff_toInt_lt] at h0 h1
  rw [e]; apply Int32.toInt_inj.mp; omega
theorem own_i2c {c : Int32} (h : ¬ c < 0 ∧ ¬ (255 : Int32) < c) : c.toUInt32.toUInt16.toUInt32.toInt32 = c := by
  obtain ⟨h0, h1⟩ := h
  have a := c_i2c c
  have e0 : (0 : Int32).toInt = 0 := rfl
  have e1 : (255 : Int32).toInt = 255 := rfl
  rw [Int32.lt_iff_toInt_lt] at h0 h1
  apply Int32.toInt_inj.mp; omega
theorem own_ci {c : Int32} (h : ¬ c < 0 ∧ ¬ (255 : Int32) < c) : ¬ c.toUInt32.toUInt16.toUInt32.toInt32 < 0 ∧ ¬ (255 : Int32) < c.toUInt32.toUInt16.toUInt32.toInt32 := by rw [own_i2c h]; exact h
theorem own_and255 (x : Int32) : ¬ (x &&& (255 : Int32)) < 0 ∧ ¬ (255 : Int32) < (x &&& (255 : Int32)) := by
  have a := c_mask x (255 : Int32) 8 (by decide) (by decide)
  have e0 : (0 : Int32).toInt = 0 := rfl
  have e1 : (255 : Int32).toInt = 255 := rfl
  simp only [Int32.lt_iff_toInt_lt, e0, e1]
  omega
theorem own_lit {cs : List Int32} {vs : List Value} {N : Int32} (h1 : N = Int32.ofNat cs.length) (h2 : vs = cs.map fun c => Value.int (StrChars.lo8 c)) (h3 : ∀ c ∈ cs, ¬ 255 < c) : StrChars.Road.CodA cs 0 N vs := Or.inl ⟨rfl, h1, h2, h3⟩
theorem own_hws {Z : State} {a0 : Array Value} (hw : ∀ d ∈ tables_1, d.before a0 Z = true) : ∀ d ∈ StrChars.Road.words, d.before a0 Z = true := fun d hd => hw d ((by decide +kernel : ∀ d ∈ StrChars.Road.words, d ∈ tables_1) d hd)
theorem own_heq {Z : State} {a0 : Array Value} (hw : ∀ d ∈ tables_1, d.before a0 Z = true) : ∀ d ∈ StrChars.Road.wordsEq, d.before a0 Z = true := fun d hd => hw d ((by decide +kernel : ∀ d ∈ StrChars.Road.wordsEq, d ∈ tables_1) d hd)
theorem own_since (s : State) : s.Since s.vm 0 := State.WarmedH.since (State.WarmedH.refl s) 0
theorem own_EW {Z : State} {a0 : Array Value} (hw : ∀ d ∈ tables_1, d.before a0 Z = true) : EW Z a0 consts_1 := (EW.cons (hw _ (List.mem_of_getElem? (i := 48) rfl)) (by decide) (EW.cons (hw _ (List.mem_of_getElem? (i := 53) rfl)) (by decide) (EW.cons (hw _ (List.mem_of_getElem? (i := 30) rfl)) (by decide) EW.nil)))
theorem own_wS {Z : State} {a0 : Array Value} (hw : ∀ d ∈ tables_1, d.before a0 Z = true) : ∀ a ∈ Bundle.stringAtoms, a.before a0 Z = true := fun d hd => hw d ((by decide +kernel : ∀ d ∈ Bundle.stringAtoms, d ∈ tables_1) d hd)

theorem own_m33 (x : Int32) : ((x &&& (3 : Int32)) % (3 : Int32)) = 0 ∨ ((x &&& (3 : Int32)) % (3 : Int32)) = 1 ∨ ((x &&& (3 : Int32)) % (3 : Int32)) = 2 := by
  have a := c_mask x (3 : Int32) 2 (by decide) (by decide)
  have b := (c_irem (x &&& (3 : Int32)) (3 : Int32) 3 (by decide)).1 (by omega)
  have e0 : (0 : Int32).toInt = 0 := rfl
  have e1 : (1 : Int32).toInt = 1 := rfl
  have e2 : (2 : Int32).toInt = 2 := rfl
  simp only [← Int32.toInt_inj, e0, e1, e2]
  omega
theorem d2_0 : decode jdk_42_method_149_code 0 = .ok (.aload_n 0, 1) := by decide +kernel
theorem d2_1 : decode jdk_42_method_149_code 1 = .ok (.invokespecial 1, 3) := by decide +kernel
theorem d2_4 : decode jdk_42_method_149_code 4 = .ok (.iload_n 3, 1) := by decide +kernel
theorem d2_5 : decode jdk_42_method_149_code 5 = .ok (.ifCond .ne 22, 3) := by decide +kernel
theorem d2_8 : decode jdk_42_method_149_code 8 = .ok (.aload_n 0, 1) := by decide +kernel
theorem d2_9 : decode jdk_42_method_149_code 9 = .ok (.ldc 7, 2) := by decide +kernel
theorem d2_11 : decode jdk_42_method_149_code 11 = .ok (.getfield 9, 3) := by decide +kernel
theorem d2_14 : decode jdk_42_method_149_code 14 = .ok (.putfield 9, 3) := by decide +kernel
theorem d2_17 : decode jdk_42_method_149_code 17 = .ok (.aload_n 0, 1) := by decide +kernel
theorem d2_18 : decode jdk_42_method_149_code 18 = .ok (.ldc 7, 2) := by decide +kernel
theorem d2_20 : decode jdk_42_method_149_code 20 = .ok (.getfield 15, 3) := by decide +kernel
theorem d2_23 : decode jdk_42_method_149_code 23 = .ok (.putfield 15, 3) := by decide +kernel
theorem d2_26 : decode jdk_42_method_149_code 26 = .ok (.return_, 1) := by decide +kernel
theorem pn_0 : plainName "java/lang/String" = true := by first | (simp [plainName, overriddenIn]; done) | decide +kernel
theorem ef_rm_e4 (m : MethodId) (x0 : Addr) (x1 : Addr) : entryFrame m #[(.ref x0), (.ref x1), (.int (0 : Int32)), (.int (0 : Int32)), .null] 6 = mkF m 0 #[.val (.ref x0), .val (.ref x1), .val (.int (0 : Int32)), .val (.int (0 : Int32)), .val .null, .unset] [] := by first | (simp [entryFrame, mkF, argsToLocals, Value.category]; done) | rfl
def Q_rm_e4 (Z : State) (x : Addr) (b : Addr) (h0 : Heap) (n0 : Nat) (v : Option Value) (h : Heap) (L : List Loc) : Prop := v = none ∧ Fr n0 L ∧ Keep h0 h [x] ∧ Exa Z h x "java/lang/String" ∧ Fld Z h x "java/lang/String" "coder" "B" (.int 0) ∧ ∃ (t : Addr) (kb : ClassId), Fld Z h x "java/lang/String" "value" "[B" (.ref t) ∧ Arv Z h t kb .byte (0 : Int32) [] (.int 0)
set_option maxRecDepth 65536 in
set_option maxHeartbeats 40000000 in
theorem rm_e4 (l : Launch) (Z : State) (a0 : Array Value) (hw : ∀ d ∈ tables_1, d.before a0 Z = true) (ws : List Jvm.Cond) (x : Addr) (b : Addr) (h0 : Heap) (n0 : Nat) (Z0 : n0 ≤ h0.size) (Ex : Exa Z h0 x "java/lang/String") (Vx : Fld Z h0 x "java/lang/String" "value" "[B" .null) (Cx : Fld Z h0 x "java/lang/String" "coder" "B" (.int (0 : Int32))) (gx : n0 ≤ x) :
    MetFree l (⟨"java/lang/String", "<init>", "([CIILjava/lang/Void;)V"⟩ : MethodName) (head1 (Jvm.Cond.code (⟨"java/lang/String", "<init>", "([CIILjava/lang/Void;)V"⟩ : MethodName) jdk_42_method_149_code 6 none :: ws) ({ frames := 1, cells := 4, slots := 8, locals := 12 } : Room)) (fun aa_ U => aa_ = #[(.ref x), (.ref b), (.int (0 : Int32)), (.int (0 : Int32)), .null] ∧ Z.Warmed39 U.vm ∧ U.heap = h0 ∧ CHv Z consts_1 U.vm h0) (fun _ _ _ _ _ => True) (fun _ U o U' => ∃ v L, o = .returned v ∧ Q_rm_e4 Z x b h0 n0 v U'.heap L ∧ CHr Z consts_1 U.vm U.heap U'.vm U'.heap ∧ ReturnedEndW U o U' L ({ frames := 1, cells := 4, slots := 8, locals := 12 } : Room).cells ({ frames := 1, cells := 4, slots := 8, locals := 12 } : Room).slots) := by
  refine MetFree.of_bodySF (plainFor_of_name pn_0) hisR ?_
  intro p e s m args below meth c s₁ Bd hml0 hP hK
  obtain ⟨rfl, hZ, hh, CH0⟩ := hP
  have hx := Bd.exec
  have hby := Bd.bytes
  have hml : c.maxLocals = 6 := hml0
  have hown : s.vm.findClass "java/lang/String" = some m.cls := findClass_of_methodNamed Bd.named
  have hnm := (name_of_methodNamed Bd.named Bd.method).1
  have X0 : Stand p l e ({ frames := 1, cells := 4, slots := 8, locals := 12 } : Room) (s.setVm s.vm) m #[(.ref x), (.ref b), (.int (0 : Int32)), (.int (0 : Int32)), .null] below meth c s₁ [] 0 0 := Stand.of_body Bd
  have e0 : s₁.heap = h0 := by rw [← hh, Bd.state]; rfl
  have N0 := Fr.nil n0
  have hS0 : s.Since s.vm 0 := own_since s
  have hk0 : 0 ≤ h0.size := Nat.zero_le _
  have CR0 := CHr.refl CH0
  have hEL := own_EW hw
  have wS := own_wS hw
  have hZo := hZ
  refine Ends.cast (P := EndW s ({ frames := 1, cells := 4, slots := 8, locals := 12 } : Room) Z consts_1 (Q_rm_e4 Z x b h0 n0)) (ef_rm_e4 m x b) ?_
  refine Ends.pre (fun t k => XS.aloadN X0.here hx rfl (hb hby d2_0) rfl rfl k) ?_
  obtain ⟨T1, X1, e1, st1⟩ := initO X0 hx hZ hown (hw _ (List.mem_of_getElem? (i := 11) rfl)) (hw _ (List.mem_of_getElem? (i := 12) rfl)) (hw _ (List.mem_of_getElem? (i := 13) rfl)) e0 (g := (mkF m 1 #[.val (.ref x), .val (.ref b), .val (.int (0 : Int32)), .val (.int (0 : Int32)), .val .null, .unset] [(.ref x)])) rfl (by rw [hml]; rfl) rfl (hb hby d2_1) (by decide) (W := 0) (by show 2 * 0 + _ ≤ _; exact Nat.le_of_eq rfl) (by decide)
  refine Ends.pre (T' := T1.setTop (mkF m 4 #[.val (.ref x), .val (.ref b), .val (.int (0 : Int32)), .val (.int (0 : Int32)), .val .null, .unset] [])) (fun t k => st1 _ k) ?_
  refine Ends.pre (fun t k => XS.iloadN X1.here hx rfl (hb hby d2_4) rfl k) ?_
  refine Ends.pre (T' := T1.setTop (mkF m 8 #[.val (.ref x), .val (.ref b), .val (.int (0 : Int32)), .val (.int (0 : Int32)), .val .null, .unset] [])) (fun t k => XS.ifNo X1.here hx rfl (hb hby d2_5) rfl (by decide) k) ?_
  refine Ends.pre (fun t k => XS.aloadN X1.here hx rfl (hb hby d2_8) rfl rfl k) ?_
  obtain ⟨a2, T2, h2, k2, t2, kb2, X2, e2, E2, hS2, hk2, hZ2, hown2, Ea2, Ca2, Va2, Aa2, la2, lb2, CL2, Lt2, Sf2, st2⟩ := ldcCH X1 hx hZ hown (hw _ (List.mem_of_getElem? (i := 30) rfl)) wS e1 hS0 hk0 hEL (by decide) CH0 (vs := []) (z := (0 : Int32)) ⟨by decide, rfl⟩ (by decide) rfl (g := (mkF m 9 #[.val (.ref x), .val (.ref b), .val (.int (0 : Int32)), .val (.int (0 : Int32)), .val .null, .unset] [(.ref x)])) rfl (hb hby d2_9) (n := 0) (by decide) (by decide) (by decide) (by decide)
  have CR2 := CHr.trans CR0 CL2
  have K2 : Keep h0 h2 [x] := (Keep.refl h0 [x]).ext E2
  refine Ends.pre (T' := T2.setTop (mkF m 11 #[.val (.ref x), .val (.ref b), .val (.int (0 : Int32)), .val (.int (0 : Int32)), .val .null, .unset] [(.ref a2), (.ref x)])) (fun t k => st2 _ k) ?_
  obtain ⟨T3, X3, e3, st3⟩ := getF X2 hx hZ2 hown2 (host := "") (Or.inl (hw _ (List.mem_of_getElem? (i := 28) rfl))) Via.refl e2 Va2 (g := (mkF m 11 #[.val (.ref x), .val (.ref b), .val (.int (0 : Int32)), .val (.int (0 : Int32)), .val .null, .unset] [(.ref a2), (.ref x)])) rfl rfl (hb hby d2_11)
  refine Ends.pre (T' := T3.setTop (mkF m 14 #[.val (.ref x), .val (.ref b), .val (.int (0 : Int32)), .val (.int (0 : Int32)), .val .null, .unset] [(.ref t2), (.ref x)])) (fun t k => st3 _ k) ?_
  have F4 : Fld Z h2 x "java/lang/String" "value" "[B" .null := (Vx.ext E2)
  have F5 : Exa Z h2 x "java/lang/String" := (Ex.ext E2)
  obtain ⟨T6, h6, X6, e6, W6, st6⟩ := putF X3 hx hZ2 hown2 (host := "") (Or.inl (hw _ (List.mem_of_getElem? (i := 28) rfl))) Via.refl e3 F4 F5 (Or.inr ⟨(hw _ (List.mem_of_getElem? (i := 29) rfl)), rfl, hnm⟩) (hw _ (List.mem_of_getElem? (i := 2) rfl)) (ty := (.array .byte)) (by decide) rfl rfl (g := (mkF m 14 #[.val (.ref x), .val (.ref b), .val (.int (0 : Int32)), .val (.int (0 : Int32)), .val .null, .unset] [(.ref t2), (.ref x)])) rfl rfl (hb hby d2_14)
  have CR6 := CHr.trans CR2 (CHr.wr W6 (CHr.safe CL2 Ex.lt (Safe_null hZo.alike Ex Vx)) CR2.1)
  have Fw6 : Fld Z h6 x "java/lang/String" "value" "[B" (.ref t2) := F4.same W6
  have N6 := Fr.snoc X6 N0 gx
  refine Ends.pre (T' := T6.setTop (mkF m 17 #[.val (.ref x), .val (.ref b), .val (.int (0 : Int32)), .val (.int (0 : Int32)), .val .null, .unset] [])) (fun t k => st6 _ k) ?_
  have K6 : Keep h0 h6 [x] := K2.wr W6 (Or.inl (List.mem_of_getElem? (i := 0) rfl))
  refine Ends.pre (fun t k => XS.aloadN X6.here hx rfl (hb hby d2_17) rfl rfl k) ?_
  obtain ⟨a7, T7, h7, k7, t7, kb7, X7, e7, E7, hS7, hk7, hZ7, hown7, Ea7, Ca7, Va7, Aa7, la7, lb7, CL7, Lt7, Sf7, st7⟩ := ldcCH X6 hx hZ2 hown2 (hw _ (List.mem_of_getElem? (i := 30) rfl)) wS e6 hS2 (Nat.le_trans hk2 (Keep.of_wr W6).1) hEL (by decide) CR6.1 (vs := []) (z := (0 : Int32)) ⟨by decide, rfl⟩ (by decide) rfl (g := (mkF m 18 #[.val (.ref x), .val (.ref b), .val (.int (0 : Int32)), .val (.int (0 : Int32)), .val .null, .unset] [(.ref x)])) rfl (hb hby d2_18) (n := 0) (by decide) (by decide) (by decide) (by decide)
  have CR7 := CHr.trans CR6 CL7
  have K7 : Keep h0 h7 [x] := K6.ext E7
  refine Ends.pre (T' := T7.setTop (mkF m 20 #[.val (.ref x), .val (.ref b), .val (.int (0 : Int32)), .val (.int (0 : Int32)), .val .null, .unset] [(.ref a7), (.ref x)])) (fun t k => st7 _ k) ?_
  obtain ⟨T8, X8, e8, st8⟩ := getF X7 hx hZ7 hown7 (host := "") (Or.inl (hw _ (List.mem_of_getElem? (i := 26) rfl))) Via.refl e7 Ca7 (g := (mkF m 20 #[.val (.ref x), .val (.ref b), .val (.int (0 : Int32)), .val (.int (0 : Int32)), .val .null, .unset] [(.ref a7), (.ref x)])) rfl rfl (hb hby d2_20)
  refine Ends.pre (T' := T8.setTop (mkF m 23 #[.val (.ref x), .val (.ref b), .val (.int (0 : Int32)), .val (.int (0 : Int32)), .val .null, .unset] [(.int (0 : Int32)), (.ref x)])) (fun t k => st8 _ k) ?_
  have F9 : Fld Z h7 x "java/lang/String" "coder" "B" (.int (0 : Int32)) := (((Cx.ext E2).other W6 (Or.inr (slot_ne (Or.inr (hw _ (List.mem_of_getElem? (i := 27) rfl))) (Or.inr (hw _ (List.mem_of_getElem? (i := 29) rfl))) (by decide) (t := .byte) (t' := (.array .byte)) (by decide) (by decide)))).ext E7)
  have F10 : Exa Z h7 x "java/lang/String" := ((F5.wr W6).ext E7)
  obtain ⟨T11, h11, X11, e11, W11, st11⟩ := putF X8 hx hZ7 hown7 (host := "") (Or.inl (hw _ (List.mem_of_getElem? (i := 26) rfl))) Via.refl e8 F9 F10 (Or.inr ⟨(hw _ (List.mem_of_getElem? (i := 27) rfl)), rfl, hnm⟩) (hw _ (List.mem_of_getElem? (i := 2) rfl)) (ty := .byte) (by decide) (by decide) (by decide) (g := (mkF m 23 #[.val (.ref x), .val (.ref b), .val (.int (0 : Int32)), .val (.int (0 : Int32)), .val .null, .unset] [(.int (0 : Int32)), (.ref x)])) rfl rfl (hb hby d2_23)
  have CR11 := CHr.trans CR7 (CHr.wr W11 (CHr.safe CL7 (Nat.lt_of_lt_of_le (Nat.lt_of_lt_of_le Ex.lt E2.1) (Keep.of_wr W6).1) (Safe.wr W6 (CHr.safe CL2 Ex.lt (Safe_null hZo.alike Ex Vx)) CR2.1 (CHr.safe CL2 Ex.lt (Safe_null hZo.alike Ex Vx)))) CR7.1)
  have Fw11 : Fld Z h11 x "java/lang/String" "coder" "B" (.int (0 : Int32)) := F9.same W11
  have N11 := Fr.snoc X11 N6 gx
  refine Ends.pre (T' := T11.setTop (mkF m 26 #[.val (.ref x), .val (.ref b), .val (.int (0 : Int32)), .val (.int (0 : Int32)), .val .null, .unset] [])) (fun t k => st11 _ k) ?_
  have K11 : Keep h0 h11 [x] := K7.wr W11 (Or.inl (List.mem_of_getElem? (i := 0) rfl))
  have F12 : Exa Z h11 x "java/lang/String" := (F10.wr W11)
  have F13 : Fld Z h11 x "java/lang/String" "value" "[B" (.ref t2) := ((Fw6.ext E7).other W11 (Or.inr (slot_ne (Or.inr (hw _ (List.mem_of_getElem? (i := 29) rfl))) (Or.inr (hw _ (List.mem_of_getElem? (i := 27) rfl))) (by decide) (t := (.array .byte)) (t' := .byte) (by decide) (by decide))))
  have F14 : Arv Z h11 t2 kb2 .byte (0 : Int32) [] (.int 0) := ((Arv.ext (Aa2.other W6 (Ne.symm (Exa.neArv F5 Aa2 (hw _ (List.mem_of_getElem? (i := 2) rfl))))) E7).other W11 (Ne.symm (Exa.neArv F10 (Arv.ext (Aa2.other W6 (Ne.symm (Exa.neArv F5 Aa2 (hw _ (List.mem_of_getElem? (i := 2) rfl))))) E7) (hw _ (List.mem_of_getElem? (i := 2) rfl)))))
  exact Ends.ret0W X11 hx Bd.notSynchronized Bd.returns (hb hby d2_26) e11 hZ7 hEL hS7 (Nat.le_trans hk7 (Keep.of_wr W11).1) hh CR11 ⟨rfl, N11, K11, F12, Fw11, t2, _, F13, F14⟩ (by decide) (by decide)
theorem d1_0 : decode jdk_42_method_3_code 0 = .ok (.aload_n 0, 1) := by decide +kernel
theorem d1_1 : decode jdk_42_method_3_code 1 = .ok (.aload_n 1, 1) := by decide +kernel
theorem d1_2 : decode jdk_42_method_3_code 2 = .ok (.iconst 0, 1) := by decide +kernel
theorem d1_3 : decode jdk_42_method_3_code 3 = .ok (.aload_n 1, 1) := by decide +kernel
theorem d1_4 : decode jdk_42_method_3_code 4 = .ok (.arraylength, 1) := by decide +kernel
theorem d1_5 : decode jdk_42_method_3_code 5 = .ok (.aconst_null, 1) := by decide +kernel
theorem d1_6 : decode jdk_42_method_3_code 6 = .ok (.invokespecial 27, 3) := by decide +kernel
theorem pd_0 : parseMethodDescriptor "([CIILjava/lang/Void;)V" = some ⟨[(.array .char), .int, .int, (.object "java/lang/Void")], none⟩ := by decide +kernel
theorem d1_9 : decode jdk_42_method_3_code 9 = .ok (.return_, 1) := by decide +kernel
theorem ef_rm_e1 (m : MethodId) (x0 : Addr) (x1 : Addr) : entryFrame m #[(.ref x0), (.ref x1)] 2 = mkF m 0 #[.val (.ref x0), .val (.ref x1)] [] := by first | (simp [entryFrame, mkF, argsToLocals, Value.category]; done) | rfl
def Q_rm_e1 (Z : State) (x : Addr) (b : Addr) (kC : ClassId) (h0 : Heap) (n0 : Nat) (v : Option Value) (h : Heap) (L : List Loc) : Prop := v = none ∧ Fr n0 L ∧ Keep h0 h [x] ∧ Exa Z h x "java/lang/String" ∧ Fld Z h x "java/lang/String" "coder" "B" (.int 0) ∧ ∃ (t : Addr) (kb : ClassId), Fld Z h x "java/lang/String" "value" "[B" (.ref t) ∧ Arv Z h t kb .byte (0 : Int32) [] (.int 0)
set_option maxRecDepth 65536 in
set_option maxHeartbeats 40000000 in
theorem rm_e1 (l : Launch) (Z : State) (a0 : Array Value) (hw : ∀ d ∈ tables_1, d.before a0 Z = true) (ws : List Jvm.Cond) (x : Addr) (b : Addr) (kC : ClassId) (h0 : Heap) (n0 : Nat) (Z0 : n0 ≤ h0.size) (Ex : Exa Z h0 x "java/lang/String") (Vx : Fld Z h0 x "java/lang/String" "value" "[B" .null) (Cx : Fld Z h0 x "java/lang/String" "coder" "B" (.int (0 : Int32))) (gx : n0 ≤ x) (Vb : Arv Z h0 b kC .char (0 : Int32) [] (.int (0 : Int32))) :
    MetFree l (⟨"java/lang/String", "<init>", "([C)V"⟩ : MethodName) (head1 (Jvm.Cond.code (⟨"java/lang/String", "<init>", "([C)V"⟩ : MethodName) jdk_42_method_3_code 2 none :: ws) ({ frames := 2, cells := 4, slots := 8, locals := 29 } : Room)) (fun aa_ U => aa_ = #[(.ref x), (.ref b)] ∧ Z.Warmed39 U.vm ∧ U.heap = h0 ∧ CHv Z consts_1 U.vm h0) (fun _ _ _ _ _ => True) (fun _ U o U' => ∃ v L, o = .returned v ∧ Q_rm_e1 Z x b kC h0 n0 v U'.heap L ∧ CHr Z consts_1 U.vm U.heap U'.vm U'.heap ∧ ReturnedEndW U o U' L ({ frames := 2, cells := 4, slots := 8, locals := 29 } : Room).cells ({ frames := 2, cells := 4, slots := 8, locals := 29 } : Room).slots) := by
  refine MetFree.of_bodySF (plainFor_of_name pn_0) hisR ?_
  intro p e s m args below meth c s₁ Bd hml0 hP hK
  obtain ⟨rfl, hZ, hh, CH0⟩ := hP
  have hx := Bd.exec
  have hby := Bd.bytes
  have hml : c.maxLocals = 2 := hml0
  have hown : s.vm.findClass "java/lang/String" = some m.cls := findClass_of_methodNamed Bd.named
  have hnm := (name_of_methodNamed Bd.named Bd.method).1
  have X0 : Stand p l e ({ frames := 2, cells := 4, slots := 8, locals := 29 } : Room) (s.setVm s.vm) m #[(.ref x), (.ref b)] below meth c s₁ [] 0 0 := Stand.of_body Bd
  have e0 : s₁.heap = h0 := by rw [← hh, Bd.state]; rfl
  have N0 := Fr.nil n0
  have hS0 : s.Since s.vm 0 := own_since s
  have hk0 : 0 ≤ h0.size := Nat.zero_le _
  have CR0 := CHr.refl CH0
  have hEL := own_EW hw
  have wS := own_wS hw
  have hZo := hZ
  refine Ends.cast (P := EndW s ({ frames := 2, cells := 4, slots := 8, locals := 29 } : Room) Z consts_1 (Q_rm_e1 Z x b kC h0 n0)) (ef_rm_e1 m x b) ?_
  refine Ends.pre (fun t k => XS.aloadN X0.here hx rfl (hb hby d1_0) rfl rfl k) ?_
  refine Ends.pre (fun t k => XS.aloadN X0.here hx rfl (hb hby d1_1) rfl rfl k) ?_
  refine Ends.pre (fun t k => XS.iconst X0.here hx rfl (hb hby d1_2) k) ?_
  refine Ends.pre (fun t k => XS.aloadN X0.here hx rfl (hb hby d1_3) rfl rfl k) ?_
  obtain ⟨cl1, Ar1, q1, S1, N1', H1, G1⟩ := id Vb
  refine Ends.pre (T' := s₁.setTop (mkF m 5 #[.val (.ref x), .val (.ref b)] [(.int (0 : Int32)), (.int (0 : Int32)), (.ref b), (.ref x)])) (fun t k => X0.arraylength hx (by rw [e0]; exact Ar1.1) (State.isArrayOf_alike hZ.alike Ar1.2.1) (g := (mkF m 4 #[.val (.ref x), .val (.ref b)] [(.ref b), (.int (0 : Int32)), (.ref b), (.ref x)])) rfl rfl (hb hby d1_4) _ (by rw [len_of S1 N1']; exact k)) ?_
  refine Ends.pre (fun t k => XS.aconstNull X0.here hx rfl (hb hby d1_5) k) ?_
  obtain ⟨_, _, ⟨T2, L2, k2, n2⟩, -, Xa2, hSa2, ga2, ⟨Lc2, hQ2, l2, y2, z2, CRc2⟩, st2⟩ := X0.specialBackS hx (y := (⟨"java/lang/String", "<init>", "([CIILjava/lang/Void;)V"⟩ : MethodName)) rfl hown (mvT hZ (hw _ (List.mem_of_getElem? (i := 7) rfl))) (mvT hZ (hw _ (List.mem_of_getElem? (i := 8) rfl))) (mvT hZ (hw _ (List.mem_of_getElem? (i := 10) rfl))) (by decide) (backOfSH (W := 0) (rm_e4 l Z a0 hw [] x b h0 n0 Z0 Ex Vx Cx gx) hZ (hw _ (List.mem_of_getElem? (i := 10) rfl)) (hw _ (List.mem_of_getElem? (i := 3) rfl)) (by decide) (by decide) hEL CH0) (g := (mkF m 6 #[.val (.ref x), .val (.ref b)] [.null, (.int (0 : Int32)), (.int (0 : Int32)), (.ref b), (.ref x)])) rfl (by rw [hml]; rfl) (Steps.refl _) (a := x) (argsL := [(.ref b), (.int (0 : Int32)), (.int (0 : Int32)), .null]) (rest := []) (lenOf pd_0 rfl) rfl (by show 2 * 0 + _ ≤ _; exact Nat.le_of_eq rfl) (hb hby d1_6) (fun _ _ => ⟨rfl, e0, (by decide : 0 + 4 ≤ _), (by decide : 0 + 8 ≤ _)⟩)
  dsimp only [Pt.U, Pt.locs, Pt.cells, Pt.slots] at Xa2 hSa2 ga2 l2 y2 z2 st2 hQ2 CRc2
  subst l2 y2 z2
  obtain ⟨X2, hS2, hZ2, hown2⟩ := rebS hS0 (n1 := s₁.heap.size) (by rw [e0]; exact hk0) Xa2 hSa2 ga2 hZ hown
  obtain ⟨rfl, N2q, Kc2, Es2, Cs2, t2, kb2, Vs2, As2⟩ := hQ2
  have N2 := Fr.app N0 N2q
  have K2 : Keep h0 T2.heap [x] := (Keep.refl h0 [x]).trans Kc2 (allS (Or.inl (List.mem_of_getElem? (i := 0) rfl)) all0)
  have CR2 := CHr.trans CR0 CRc2
  refine Ends.pre (T' := T2.setTop (mkF m 9 #[.val (.ref x), .val (.ref b)] [])) (fun t k => st2.trans k) ?_
  exact Ends.ret0W X2 hx Bd.notSynchronized Bd.returns (hb hby d1_9) rfl hZ2 hEL hS2 (Nat.le_refl _) hh CR2 ⟨rfl, N2, K2, Es2, Cs2, t2, kb2, Vs2, As2⟩ (by decide) (by decide)
theorem d8_0 : decode jdk_30_method_1_code 0 = .ok (.aload_n 0, 1) := by decide +kernel
theorem d8_1 : decode jdk_30_method_1_code 1 = .ok (.invokespecial 1, 3) := by decide +kernel
theorem d8_4 : decode jdk_30_method_1_code 4 = .ok (.return_, 1) := by decide +kernel
theorem pn_1 : plainName "java/lang/Record" = true := by first | (simp [plainName, overriddenIn]; done) | decide +kernel
theorem ef_rm8 (m : MethodId) (x0 : Addr) : entryFrame m #[(.ref x0)] 1 = mkF m 0 #[.val (.ref x0)] [] := by first | (simp [entryFrame, mkF, argsToLocals, Value.category]; done) | rfl
def Q_rm8 (Z : State) (a : Addr) (h0 : Heap) (n0 : Nat) (v : Option Value) (h : Heap) (L : List Loc) : Prop := v = none ∧ Fr n0 L ∧ h = h0
set_option maxRecDepth 65536 in
set_option maxHeartbeats 40000000 in
theorem rm8 (l : Launch) (Z : State) (a0 : Array Value) (hw : ∀ d ∈ tables_1, d.before a0 Z = true) (ws : List Jvm.Cond) (a : Addr) (h0 : Heap) (n0 : Nat) (Z0 : n0 ≤ h0.size)  :
    MetFree l (⟨"java/lang/Record", "<init>", "()V"⟩ : MethodName) (head1 (Jvm.Cond.code (⟨"java/lang/Record", "<init>", "()V"⟩ : MethodName) jdk_30_method_1_code 1 none :: ws) ({ frames := 1, cells := 0, slots := 0, locals := 12 } : Room)) (fun aa_ U => aa_ = #[(.ref a)] ∧ Z.Warmed39 U.vm ∧ U.heap = h0) (fun _ _ _ _ _ => True) (fun _ U o U' => ∃ v L, o = .returned v ∧ Q_rm8 Z a h0 n0 v U'.heap L ∧ FrameEnd U o U' L ({ frames := 1, cells := 0, slots := 0, locals := 12 } : Room).cells ({ frames := 1, cells := 0, slots := 0, locals := 12 } : Room).slots) := by
  refine MetFree.of_bodySF (plainFor_of_name pn_1) hisR ?_
  intro p e s m args below meth c s₁ Bd hml0 hP hK
  obtain ⟨rfl, hZ, hh⟩ := hP
  have hx := Bd.exec
  have hby := Bd.bytes
  have hml : c.maxLocals = 1 := hml0
  have hown : s.vm.findClass "java/lang/Record" = some m.cls := findClass_of_methodNamed Bd.named
  have hnm := (name_of_methodNamed Bd.named Bd.method).1
  have X0 : Stand p l e ({ frames := 1, cells := 0, slots := 0, locals := 12 } : Room) s m #[(.ref a)] below meth c s₁ [] 0 0 := Stand.of_body Bd
  have e0 : s₁.heap = h0 := by rw [← hh, Bd.state]; rfl
  have N0 := Fr.nil n0
  refine Ends.cast (P := EndN s ({ frames := 1, cells := 0, slots := 0, locals := 12 } : Room) (Q_rm8 Z a h0 n0)) (ef_rm8 m a) ?_
  refine Ends.pre (fun t k => XS.aloadN X0.here hx rfl (hb hby d8_0) rfl rfl k) ?_
  obtain ⟨T1, X1, e1, st1⟩ := initO X0 hx hZ hown (hw _ (List.mem_of_getElem? (i := 47) rfl)) (hw _ (List.mem_of_getElem? (i := 12) rfl)) (hw _ (List.mem_of_getElem? (i := 13) rfl)) e0 (g := (mkF m 1 #[.val (.ref a)] [(.ref a)])) rfl (by rw [hml]; rfl) rfl (hb hby d8_1) (by decide) (W := 0) (by show 2 * 0 + _ ≤ _; exact Nat.le_of_eq rfl) (by decide)
  refine Ends.pre (T' := T1.setTop (mkF m 4 #[.val (.ref a)] [])) (fun t k => st1 _ k) ?_
  exact Ends.ret0 X1 hx Bd.notSynchronized Bd.returns (hb hby d8_4) e1 ⟨rfl, N0, rfl⟩ (by decide) (by decide)
theorem d9_0 : decode jdk_31_method_11_code 0 = .ok (.aload_n 0, 1) := by decide +kernel
theorem d9_1 : decode jdk_31_method_11_code 1 = .ok (.ifnonnull 12, 3) := by decide +kernel
theorem d9_13 : decode jdk_31_method_11_code 13 = .ok (.aload_n 0, 1) := by decide +kernel
theorem d9_14 : decode jdk_31_method_11_code 14 = .ok (.areturn, 1) := by decide +kernel
theorem pn_2 : plainName "java/util/Objects" = true := by first | (simp [plainName, overriddenIn]; done) | decide +kernel
theorem ef_rm9 (m : MethodId) (x0 : Addr) (x1 : Addr) : entryFrame m #[(.ref x0), (.ref x1)] 2 = mkF m 0 #[.val (.ref x0), .val (.ref x1)] [] := by first | (simp [entryFrame, mkF, argsToLocals, Value.category]; done) | rfl
def Q_rm9 (Z : State) (oo : Addr) (m_ : Addr) (h0 : Heap) (n0 : Nat) (v : Option Value) (h : Heap) (L : List Loc) : Prop := v = some (.ref oo) ∧ Fr n0 L ∧ h = h0
set_option maxRecDepth 65536 in
set_option maxHeartbeats 40000000 in
theorem rm9 (l : Launch) (Z : State) (a0 : Array Value) (hw : ∀ d ∈ tables_1, d.before a0 Z = true) (ws : List Jvm.Cond) (oo : Addr) (m_ : Addr) (h0 : Heap) (n0 : Nat) (Z0 : n0 ≤ h0.size)  :
    MetFree l (⟨"java/util/Objects", "requireNonNull", "(Ljava/lang/Object;Ljava/lang/String;)Ljava/lang/Object;"⟩ : MethodName) (head1 (Jvm.Cond.code (⟨"java/util/Objects", "requireNonNull", "(Ljava/lang/Object;Ljava/lang/String;)Ljava/lang/Object;"⟩ : MethodName) jdk_31_method_11_code 2 (some (.object "java/lang/Object")) :: ws) ({ frames := 0, cells := 0, slots := 0, locals := 0 } : Room)) (fun aa_ U => aa_ = #[(.ref oo), (.ref m_)] ∧ Z.Warmed39 U.vm ∧ U.heap = h0) (fun _ _ _ _ _ => True) (fun _ U o U' => ∃ v L, o = .returned v ∧ Q_rm9 Z oo m_ h0 n0 v U'.heap L ∧ FrameEnd U o U' L ({ frames := 0, cells := 0, slots := 0, locals := 0 } : Room).cells ({ frames := 0, cells := 0, slots := 0, locals := 0 } : Room).slots) := by
  refine MetFree.of_bodySF (plainFor_of_name pn_2) hisR ?_
  intro p e s m args below meth c s₁ Bd hml0 hP hK
  obtain ⟨rfl, hZ, hh⟩ := hP
  have hx := Bd.exec
  have hby := Bd.bytes
  have hml : c.maxLocals = 2 := hml0
  have hown : s.vm.findClass "java/util/Objects" = some m.cls := findClass_of_methodNamed Bd.named
  have hnm := (name_of_methodNamed Bd.named Bd.method).1
  have X0 : Stand p l e ({ frames := 0, cells := 0, slots := 0, locals := 0 } : Room) s m #[(.ref oo), (.ref m_)] below meth c s₁ [] 0 0 := Stand.of_body Bd
  have e0 : s₁.heap = h0 := by rw [← hh, Bd.state]; rfl
  have N0 := Fr.nil n0
  refine Ends.cast (P := EndN s ({ frames := 0, cells := 0, slots := 0, locals := 0 } : Room) (Q_rm9 Z oo m_ h0 n0)) (ef_rm9 m oo m_) ?_
  refine Ends.pre (fun t k => XS.aloadN X0.here hx rfl (hb hby d9_0) rfl rfl k) ?_
  refine Ends.pre (T' := s₁.setTop (mkF m 13 #[.val (.ref oo), .val (.ref m_)] [])) (fun t k => XS.ifnonnullYes X0.here hx rfl (pc0 := 1) (pc' := 13) rfl (hb hby d9_1) rfl (by decide) (by decide) k) ?_
  refine Ends.pre (fun t k => XS.aloadN X0.here hx rfl (hb hby d9_13) rfl rfl k) ?_
  exact Ends.ret (w := (.ref oo)) X0 hx Bd.notSynchronized Bd.returns rfl (Or.inr (Or.inr (Or.inr (Or.inr ⟨rfl, rfl, rfl⟩)))) (hb hby d9_14) e0 ⟨rfl, N0, rfl⟩ (by decide) (by decide)
theorem d7_0 : decode prog_44_method_1_code 0 = .ok (.aload_n 0, 1) := by decide +kernel
theorem d7_1 : decode prog_44_method_1_code 1 = .ok (.invokespecial 1, 3) := by decide +kernel
theorem pd_1 : parseMethodDescriptor "()V" = some ⟨[], none⟩ := by decide +kernel
theorem d7_4 : decode prog_44_method_1_code 4 = .ok (.aload_n 2, 1) := by decide +kernel
theorem d7_5 : decode prog_44_method_1_code 5 = .ok (.ldc 7, 2) := by decide +kernel
theorem d7_7 : decode prog_44_method_1_code 7 = .ok (.invokestatic 9, 3) := by decide +kernel
theorem pd_2 : parseMethodDescriptor "(Ljava/lang/Object;Ljava/lang/String;)Ljava/lang/Object;" = some ⟨[(.object "java/lang/Object"), (.object "java/lang/String")], some (.object "java/lang/Object")⟩ := by decide +kernel
theorem d7_10 : decode prog_44_method_1_code 10 = .ok (.pop, 1) := by decide +kernel
theorem d7_11 : decode prog_44_method_1_code 11 = .ok (.aload_n 3, 1) := by decide +kernel
theorem d7_12 : decode prog_44_method_1_code 12 = .ok (.ldc 15, 2) := by decide +kernel
theorem d7_14 : decode prog_44_method_1_code 14 = .ok (.invokestatic 9, 3) := by decide +kernel
theorem d7_17 : decode prog_44_method_1_code 17 = .ok (.pop, 1) := by decide +kernel
theorem d7_18 : decode prog_44_method_1_code 18 = .ok (.aload_n 0, 1) := by decide +kernel
theorem d7_19 : decode prog_44_method_1_code 19 = .ok (.aload_n 1, 1) := by decide +kernel
theorem d7_20 : decode prog_44_method_1_code 20 = .ok (.putfield 17, 3) := by decide +kernel
theorem d7_23 : decode prog_44_method_1_code 23 = .ok (.aload_n 0, 1) := by decide +kernel
theorem d7_24 : decode prog_44_method_1_code 24 = .ok (.aload_n 2, 1) := by decide +kernel
theorem d7_25 : decode prog_44_method_1_code 25 = .ok (.putfield 23, 3) := by decide +kernel
theorem d7_28 : decode prog_44_method_1_code 28 = .ok (.aload_n 0, 1) := by decide +kernel
theorem d7_29 : decode prog_44_method_1_code 29 = .ok (.aload_n 3, 1) := by decide +kernel
theorem d7_30 : decode prog_44_method_1_code 30 = .ok (.putfield 26, 3) := by decide +kernel
theorem d7_33 : decode prog_44_method_1_code 33 = .ok (.return_, 1) := by decide +kernel
theorem pn_3 : plainName "com/example/static_permission_checker/staticpermissionchecker/core/FlowConstraint" = true := by first | (simp [plainName, overriddenIn]; done) | decide +kernel
theorem ef_rm7r (m : MethodId) (x0 : Addr) (x1 : Addr) (x2 : Addr) (x3 : Addr) : entryFrame m #[(.ref x0), (.ref x1), (.ref x2), (.ref x3)] 4 = mkF m 0 #[.val (.ref x0), .val (.ref x1), .val (.ref x2), .val (.ref x3)] [] := by first | (simp [entryFrame, mkF, argsToLocals, Value.category]; done) | rfl
def Q_rm7r (Z : State) (a : Addr) (x : Addr) (ac : Addr) (y : Addr) (h0 : Heap) (n0 : Nat) (v : Option Value) (h : Heap) (L : List Loc) : Prop := v = none ∧ Fr n0 L ∧ Keep h0 h [a] ∧ Exa Z h a "com/example/static_permission_checker/staticpermissionchecker/core/FlowConstraint" ∧ Fld Z h a "com/example/static_permission_checker/staticpermissionchecker/core/FlowConstraint" "holder" "Ljava/lang/String;" (.ref x) ∧ Fld Z h a "com/example/static_permission_checker/staticpermissionchecker/core/FlowConstraint" "guard" "Ljava/lang/String;" (.ref y)
set_option maxRecDepth 65536 in
set_option maxHeartbeats 40000000 in
theorem rm7r (l : Launch) (Z : State) (a0 : Array Value) (hw : ∀ d ∈ tables_1, d.before a0 Z = true) (ws : List Jvm.Cond) (a : Addr) (x : Addr) (ac : Addr) (y : Addr) (h0 : Heap) (n0 : Nat) (Z0 : n0 ≤ h0.size) (Ea : Exa Z h0 a "com/example/static_permission_checker/staticpermissionchecker/core/FlowConstraint") (ga : n0 ≤ a) (F_holder : Fld Z h0 a "com/example/static_permission_checker/staticpermissionchecker/core/FlowConstraint" "holder" "Ljava/lang/String;" .null) (F_access : Fld Z h0 a "com/example/static_permission_checker/staticpermissionchecker/core/FlowConstraint" "access" "Lcom/example/static_permission_checker/staticpermissionchecker/core/FlowConstraint$Access;" .null) (F_guard : Fld Z h0 a "com/example/static_permission_checker/staticpermissionchecker/core/FlowConstraint" "guard" "Ljava/lang/String;" .null) :
    MetFree l (⟨"com/example/static_permission_checker/staticpermissionchecker/core/FlowConstraint", "<init>", "(Ljava/lang/String;Lcom/example/static_permission_checker/staticpermissionchecker/core/FlowConstraint$Access;Ljava/lang/String;)V"⟩ : MethodName) (head1 (Jvm.Cond.code (⟨"com/example/static_permission_checker/staticpermissionchecker/core/FlowConstraint", "<init>", "(Ljava/lang/String;Lcom/example/static_permission_checker/staticpermissionchecker/core/FlowConstraint$Access;Ljava/lang/String;)V"⟩ : MethodName) prog_44_method_1_code 4 none :: ws) ({ frames := 2, cells := 4, slots := 52, locals := 24 } : Room)) (fun aa_ U => aa_ = #[(.ref a), (.ref x), (.ref ac), (.ref y)] ∧ Z.Warmed39 U.vm ∧ U.heap = h0 ∧ CHv Z consts_1 U.vm h0) (fun _ _ _ _ _ => True) (fun _ U o U' => ∃ v L, o = .returned v ∧ Q_rm7r Z a x ac y h0 n0 v U'.heap L ∧ CHr Z consts_1 U.vm U.heap U'.vm U'.heap ∧ ReturnedEndW U o U' L ({ frames := 2, cells := 4, slots := 52, locals := 24 } : Room).cells ({ frames := 2, cells := 4, slots := 52, locals := 24 } : Room).slots) := by
  refine MetFree.of_bodySF (plainFor_of_name pn_3) hisR ?_
  intro p e s m args below meth c s₁ Bd hml0 hP hK
  obtain ⟨rfl, hZ, hh, CH0⟩ := hP
  have hx := Bd.exec
  have hby := Bd.bytes
  have hml : c.maxLocals = 4 := hml0
  have hown : s.vm.findClass "com/example/static_permission_checker/staticpermissionchecker/core/FlowConstraint" = some m.cls := findClass_of_methodNamed Bd.named
  have hnm := (name_of_methodNamed Bd.named Bd.method).1
  have X0 : Stand p l e ({ frames := 2, cells := 4, slots := 52, locals := 24 } : Room) (s.setVm s.vm) m #[(.ref a), (.ref x), (.ref ac), (.ref y)] below meth c s₁ [] 0 0 := Stand.of_body Bd
  have e0 : s₁.heap = h0 := by rw [← hh, Bd.state]; rfl
  have N0 := Fr.nil n0
  have hS0 : s.Since s.vm 0 := own_since s
  have hk0 : 0 ≤ h0.size := Nat.zero_le _
  have CR0 := CHr.refl CH0
  have hEL := own_EW hw
  have wS := own_wS hw
  have hZo := hZ
  refine Ends.cast (P := EndW s ({ frames := 2, cells := 4, slots := 52, locals := 24 } : Room) Z consts_1 (Q_rm7r Z a x ac y h0 n0)) (ef_rm7r m a x ac y) ?_
  refine Ends.pre (fun t k => XS.aloadN X0.here hx rfl (hb hby d7_0) rfl rfl k) ?_
  obtain ⟨_, _, ⟨T1, L1, k1, n1⟩, -, X1, ⟨Lc1, hQ1, l1, y1, z1⟩, st1⟩ := X0.specialBack hx (y := (⟨"java/lang/Record", "<init>", "()V"⟩ : MethodName)) rfl hown (mvT hZ (hw _ (List.mem_of_getElem? (i := 42) rfl))) (mvT hZ (hw _ (List.mem_of_getElem? (i := 43) rfl))) (mvT hZ (hw _ (List.mem_of_getElem? (i := 46) rfl))) (by decide) (backOf (W := 0) (rm8 l Z a0 hw [] a h0 n0 Z0) hZ (hw _ (List.mem_of_getElem? (i := 46) rfl)) (hw _ (List.mem_of_getElem? (i := 45) rfl)) (by decide) (by decide)) (g := (mkF m 1 #[.val (.ref a), .val (.ref x), .val (.ref ac), .val (.ref y)] [(.ref a)])) rfl (by rw [hml]; rfl) (Steps.refl _) (a := a) (argsL := []) (rest := []) (lenOf pd_1 rfl) rfl (by show 2 * 0 + _ ≤ _; exact Nat.le_of_eq rfl) (hb hby d7_1) (fun _ _ => ⟨rfl, e0, (by decide : 0 + 0 ≤ _), (by decide : 0 + 0 ≤ _)⟩)
  dsimp only [Pt.U, Pt.locs, Pt.cells, Pt.slots] at X1 l1 y1 z1 st1 hQ1
  subst l1 y1 z1
  obtain ⟨rfl, N1q, eh1⟩ := hQ1
  have N1 := Fr.app N0 N1q
  refine Ends.pre (T' := T1.setTop (mkF m 4 #[.val (.ref a), .val (.ref x), .val (.ref ac), .val (.ref y)] [])) (fun t k => st1.trans k) ?_
  refine Ends.pre (fun t k => XS.aloadN X1.here hx rfl (hb hby d7_4) rfl rfl k) ?_
  obtain ⟨a2, T2, h2, k2, t2, kb2, X2, e2, E2, hS2, hk2, hZ2, hown2, Ea2, Ca2, Va2, Aa2, la2, lb2, CL2, Lt2, Sf2, st2⟩ := ldcCH X1 hx hZ hown (hw _ (List.mem_of_getElem? (i := 48) rfl)) wS eh1 hS0 hk0 hEL (by decide) CH0 (vs := [(.int (97 : Int32)), (.int (99 : Int32)), (.int (99 : Int32)), (.int (101 : Int32)), (.int (115 : Int32)), (.int (115 : Int32))]) (z := (6 : Int32)) ⟨by decide, rfl⟩ (by decide) rfl (g := (mkF m 5 #[.val (.ref a), .val (.ref x), .val (.ref ac), .val (.ref y)] [(.ref ac)])) rfl (hb hby d7_5) (n := 24) (by decide) (by decide) (by decide) (by decide)
  have CR2 := CHr.trans CR0 CL2
  have K2 : Keep h0 h2 [a] := (Keep.refl h0 [a]).ext E2
  refine Ends.pre (T' := T2.setTop (mkF m 7 #[.val (.ref a), .val (.ref x), .val (.ref ac), .val (.ref y)] [(.ref a2), (.ref ac)])) (fun t k => st2 _ k) ?_
  obtain ⟨_, _, ⟨T3, L3, k3, n3⟩, -, X3, ⟨Lc3, hQ3, l3, y3, z3⟩, st3⟩ := Jvm.LawKit.callS X2 hx (y := (⟨"java/util/Objects", "requireNonNull", "(Ljava/lang/Object;Ljava/lang/String;)Ljava/lang/Object;"⟩ : MethodName)) hown2 (mvT hZ2 (hw _ (List.mem_of_getElem? (i := 49) rfl))) (mvT hZ2 (hw _ (List.mem_of_getElem? (i := 50) rfl))) (mvT hZ2 (hw _ (List.mem_of_getElem? (i := 51) rfl))) (mvT hZ2 (hw _ (List.mem_of_getElem? (i := 52) rfl))) (by decide) (backOf (W := 0) (rm9 l Z a0 hw [] ac a2 h2 n0 (Nat.le_trans Z0 E2.1)) hZ2 (hw _ (List.mem_of_getElem? (i := 52) rfl)) (hw _ (List.mem_of_getElem? (i := 51) rfl)) (by decide) (by decide)) (g := (mkF m 7 #[.val (.ref a), .val (.ref x), .val (.ref ac), .val (.ref y)] [(.ref a2), (.ref ac)])) rfl (by rw [hml]; rfl) (argsL := [(.ref ac), (.ref a2)]) (rest := []) (lenOf pd_2 rfl) rfl (by show 2 * 0 + _ ≤ _; exact Nat.le_of_eq rfl) (hb hby d7_7) (fun _ _ => ⟨rfl, e2, (by decide : 2 + 0 ≤ _), (by decide : 28 + 0 ≤ _)⟩)
  dsimp only [Pt.U, Pt.locs, Pt.cells, Pt.slots] at X3 l3 y3 z3 st3 hQ3
  subst l3 y3 z3
  obtain ⟨rfl, N3q, eh3⟩ := hQ3
  have N3 := Fr.app N1 N3q
  refine Ends.pre (T' := T3.setTop (mkF m 10 #[.val (.ref a), .val (.ref x), .val (.ref ac), .val (.ref y)] [(.ref ac)])) (fun t k => st3 _ k) ?_
  refine Ends.pre (fun t k => XS.pop X3.here hx rfl (hb hby d7_10) rfl rfl k) ?_
  refine Ends.pre (fun t k => XS.aloadN X3.here hx rfl (hb hby d7_11) rfl rfl k) ?_
  obtain ⟨a4, T4, h4, k4, t4, kb4, X4, e4, E4, hS4, hk4, hZ4, hown4, Ea4, Ca4, Va4, Aa4, la4, lb4, CL4, Lt4, Sf4, st4⟩ := ldcCH X3 hx hZ2 hown2 (hw _ (List.mem_of_getElem? (i := 53) rfl)) wS eh3 hS2 hk2 hEL (by decide) CR2.1 (vs := [(.int (103 : Int32)), (.int (117 : Int32)), (.int (97 : Int32)), (.int (114 : Int32)), (.int (100 : Int32))]) (z := (5 : Int32)) ⟨by decide, rfl⟩ (by decide) rfl (g := (mkF m 12 #[.val (.ref a), .val (.ref x), .val (.ref ac), .val (.ref y)] [(.ref y)])) rfl (hb hby d7_12) (n := 20) (by decide) (by decide) (by decide) (by decide)
  have CR4 := CHr.trans CR2 CL4
  have K4 : Keep h0 h4 [a] := K2.ext E4
  refine Ends.pre (T' := T4.setTop (mkF m 14 #[.val (.ref a), .val (.ref x), .val (.ref ac), .val (.ref y)] [(.ref a4), (.ref y)])) (fun t k => st4 _ k) ?_
  obtain ⟨_, _, ⟨T5, L5, k5, n5⟩, -, X5, ⟨Lc5, hQ5, l5, y5, z5⟩, st5⟩ := Jvm.LawKit.callS X4 hx (y := (⟨"java/util/Objects", "requireNonNull", "(Ljava/lang/Object;Ljava/lang/String;)Ljava/lang/Object;"⟩ : MethodName)) hown4 (mvT hZ4 (hw _ (List.mem_of_getElem? (i := 49) rfl))) (mvT hZ4 (hw _ (List.mem_of_getElem? (i := 50) rfl))) (mvT hZ4 (hw _ (List.mem_of_getElem? (i := 51) rfl))) (mvT hZ4 (hw _ (List.mem_of_getElem? (i := 52) rfl))) (by decide) (backOf (W := 0) (rm9 l Z a0 hw [] y a4 h4 n0 (Nat.le_trans (Nat.le_trans Z0 E2.1) E4.1)) hZ4 (hw _ (List.mem_of_getElem? (i := 52) rfl)) (hw _ (List.mem_of_getElem? (i := 51) rfl)) (by decide) (by decide)) (g := (mkF m 14 #[.val (.ref a), .val (.ref x), .val (.ref ac), .val (.ref y)] [(.ref a4), (.ref y)])) rfl (by rw [hml]; rfl) (argsL := [(.ref y), (.ref a4)]) (rest := []) (lenOf pd_2 rfl) rfl (by show 2 * 0 + _ ≤ _; exact Nat.le_of_eq rfl) (hb hby d7_14) (fun _ _ => ⟨rfl, e4, (by decide : 4 + 0 ≤ _), (by decide : 52 + 0 ≤ _)⟩)
  dsimp only [Pt.U, Pt.locs, Pt.cells, Pt.slots] at X5 l5 y5 z5 st5 hQ5
  subst l5 y5 z5
  obtain ⟨rfl, N5q, eh5⟩ := hQ5
  have N5 := Fr.app N3 N5q
  refine Ends.pre (T' := T5.setTop (mkF m 17 #[.val (.ref a), .val (.ref x), .val (.ref ac), .val (.ref y)] [(.ref y)])) (fun t k => st5 _ k) ?_
  refine Ends.pre (fun t k => XS.pop X5.here hx rfl (hb hby d7_17) rfl rfl k) ?_
  refine Ends.pre (fun t k => XS.aloadN X5.here hx rfl (hb hby d7_18) rfl rfl k) ?_
  refine Ends.pre (fun t k => XS.aloadN X5.here hx rfl (hb hby d7_19) rfl rfl k) ?_
  have F6 : Fld Z h4 a "com/example/static_permission_checker/staticpermissionchecker/core/FlowConstraint" "holder" "Ljava/lang/String;" .null := ((F_holder.ext E2).ext E4)
  have F7 : Exa Z h4 a "com/example/static_permission_checker/staticpermissionchecker/core/FlowConstraint" := ((Ea.ext E2).ext E4)
  obtain ⟨T8, h8, X8, e8, W8, st8⟩ := putF X5 hx hZ4 hown4 (host := "") (Or.inl (hw _ (List.mem_of_getElem? (i := 54) rfl))) Via.refl eh5 F6 F7 (Or.inr ⟨(hw _ (List.mem_of_getElem? (i := 55) rfl)), rfl, hnm⟩) (hw _ (List.mem_of_getElem? (i := 37) rfl)) (ty := (.object "java/lang/String")) (by decide) rfl rfl (g := (mkF m 20 #[.val (.ref a), .val (.ref x), .val (.ref ac), .val (.ref y)] [(.ref x), (.ref a)])) rfl rfl (hb hby d7_20)
  have CR8 := CHr.trans CR4 (CHr.wr W8 (Safe.exa hZ4.alike F7 (by decide) (by decide)) CR4.1)
  have Fw8 : Fld Z h8 a "com/example/static_permission_checker/staticpermissionchecker/core/FlowConstraint" "holder" "Ljava/lang/String;" (.ref x) := F6.same W8
  have N8 := Fr.snoc X8 N5 ga
  refine Ends.pre (T' := T8.setTop (mkF m 23 #[.val (.ref a), .val (.ref x), .val (.ref ac), .val (.ref y)] [])) (fun t k => st8 _ k) ?_
  have K8 : Keep h0 h8 [a] := K4.wr W8 (Or.inl (List.mem_of_getElem? (i := 0) rfl))
  refine Ends.pre (fun t k => XS.aloadN X8.here hx rfl (hb hby d7_23) rfl rfl k) ?_
  refine Ends.pre (fun t k => XS.aloadN X8.here hx rfl (hb hby d7_24) rfl rfl k) ?_
  have F9 : Fld Z h8 a "com/example/static_permission_checker/staticpermissionchecker/core/FlowConstraint" "access" "Lcom/example/static_permission_checker/staticpermissionchecker/core/FlowConstraint$Access;" .null := (((F_access.ext E2).ext E4).other W8 (Or.inr (slot_ne (Or.inr (hw _ (List.mem_of_getElem? (i := 57) rfl))) (Or.inr (hw _ (List.mem_of_getElem? (i := 55) rfl))) (by decide) (t := (.object "com/example/static_permission_checker/staticpermissionchecker/core/FlowConstraint$Access")) (t' := (.object "java/lang/String")) (by decide) (by decide))))
  have F10 : Exa Z h8 a "com/example/static_permission_checker/staticpermissionchecker/core/FlowConstraint" := (F7.wr W8)
  obtain ⟨T11, h11, X11, e11, W11, st11⟩ := putF X8 hx hZ4 hown4 (host := "") (Or.inl (hw _ (List.mem_of_getElem? (i := 56) rfl))) Via.refl e8 F9 F10 (Or.inr ⟨(hw _ (List.mem_of_getElem? (i := 57) rfl)), rfl, hnm⟩) (hw _ (List.mem_of_getElem? (i := 37) rfl)) (ty := (.object "com/example/static_permission_checker/staticpermissionchecker/core/FlowConstraint$Access")) (by decide) rfl rfl (g := (mkF m 25 #[.val (.ref a), .val (.ref x), .val (.ref ac), .val (.ref y)] [(.ref ac), (.ref a)])) rfl rfl (hb hby d7_25)
  have CR11 := CHr.trans CR8 (CHr.wr W11 (Safe.exa hZ4.alike F10 (by decide) (by decide)) CR8.1)
  have Fw11 : Fld Z h11 a "com/example/static_permission_checker/staticpermissionchecker/core/FlowConstraint" "access" "Lcom/example/static_permission_checker/staticpermissionchecker/core/FlowConstraint$Access;" (.ref ac) := F9.same W11
  have N11 := Fr.snoc X11 N8 ga
  refine Ends.pre (T' := T11.setTop (mkF m 28 #[.val (.ref a), .val (.ref x), .val (.ref ac), .val (.ref y)] [])) (fun t k => st11 _ k) ?_
  have K11 : Keep h0 h11 [a] := K8.wr W11 (Or.inl (List.mem_of_getElem? (i := 0) rfl))
  refine Ends.pre (fun t k => XS.aloadN X11.here hx rfl (hb hby d7_28) rfl rfl k) ?_
  refine Ends.pre (fun t k => XS.aloadN X11.here hx rfl (hb hby d7_29) rfl rfl k) ?_
  have F12 : Fld Z h11 a "com/example/static_permission_checker/staticpermissionchecker/core/FlowConstraint" "guard" "Ljava/lang/String;" .null := ((((F_guard.ext E2).ext E4).other W8 (Or.inr (slot_ne (Or.inr (hw _ (List.mem_of_getElem? (i := 59) rfl))) (Or.inr (hw _ (List.mem_of_getElem? (i := 55) rfl))) (by decide) (t := (.object "java/lang/String")) (t' := (.object "java/lang/String")) (by decide) (by decide)))).other W11 (Or.inr (slot_ne (Or.inr (hw _ (List.mem_of_getElem? (i := 59) rfl))) (Or.inr (hw _ (List.mem_of_getElem? (i := 57) rfl))) (by decide) (t := (.object "java/lang/String")) (t' := (.object "com/example/static_permission_checker/staticpermissionchecker/core/FlowConstraint$Access")) (by decide) (by decide))))
  have F13 : Exa Z h11 a "com/example/static_permission_checker/staticpermissionchecker/core/FlowConstraint" := (F10.wr W11)
  obtain ⟨T14, h14, X14, e14, W14, st14⟩ := putF X11 hx hZ4 hown4 (host := "") (Or.inl (hw _ (List.mem_of_getElem? (i := 58) rfl))) Via.refl e11 F12 F13 (Or.inr ⟨(hw _ (List.mem_of_getElem? (i := 59) rfl)), rfl, hnm⟩) (hw _ (List.mem_of_getElem? (i := 37) rfl)) (ty := (.object "java/lang/String")) (by decide) rfl rfl (g := (mkF m 30 #[.val (.ref a), .val (.ref x), .val (.ref ac), .val (.ref y)] [(.ref y), (.ref a)])) rfl rfl (hb hby d7_30)
  have CR14 := CHr.trans CR11 (CHr.wr W14 (Safe.exa hZ4.alike F13 (by decide) (by decide)) CR11.1)
  have Fw14 : Fld Z h14 a "com/example/static_permission_checker/staticpermissionchecker/core/FlowConstraint" "guard" "Ljava/lang/String;" (.ref y) := F12.same W14
  have N14 := Fr.snoc X14 N11 ga
  refine Ends.pre (T' := T14.setTop (mkF m 33 #[.val (.ref a), .val (.ref x), .val (.ref ac), .val (.ref y)] [])) (fun t k => st14 _ k) ?_
  have K14 : Keep h0 h14 [a] := K11.wr W14 (Or.inl (List.mem_of_getElem? (i := 0) rfl))
  have F15 : Exa Z h14 a "com/example/static_permission_checker/staticpermissionchecker/core/FlowConstraint" := (F13.wr W14)
  have F16 : Fld Z h14 a "com/example/static_permission_checker/staticpermissionchecker/core/FlowConstraint" "holder" "Ljava/lang/String;" (.ref x) := ((Fw8.other W11 (Or.inr (slot_ne (Or.inr (hw _ (List.mem_of_getElem? (i := 55) rfl))) (Or.inr (hw _ (List.mem_of_getElem? (i := 57) rfl))) (by decide) (t := (.object "java/lang/String")) (t' := (.object "com/example/static_permission_checker/staticpermissionchecker/core/FlowConstraint$Access")) (by decide) (by decide)))).other W14 (Or.inr (slot_ne (Or.inr (hw _ (List.mem_of_getElem? (i := 55) rfl))) (Or.inr (hw _ (List.mem_of_getElem? (i := 59) rfl))) (by decide) (t := (.object "java/lang/String")) (t' := (.object "java/lang/String")) (by decide) (by decide))))
  exact Ends.ret0W X14 hx Bd.notSynchronized Bd.returns (hb hby d7_33) e14 hZ4 hEL hS4 (Nat.le_trans (Nat.le_trans (Nat.le_trans hk4 (Keep.of_wr W8).1) (Keep.of_wr W11).1) (Keep.of_wr W14).1) hh CR14 ⟨rfl, N14, K14, F15, F16, Fw14⟩ (by decide) (by decide)
theorem ef_rm7n (m : MethodId) (x0 : Addr) (x2 : Addr) (x3 : Addr) : entryFrame m #[(.ref x0), .null, (.ref x2), (.ref x3)] 4 = mkF m 0 #[.val (.ref x0), .val .null, .val (.ref x2), .val (.ref x3)] [] := by first | (simp [entryFrame, mkF, argsToLocals, Value.category]; done) | rfl
def Q_rm7n (Z : State) (a : Addr) (ac : Addr) (y : Addr) (h0 : Heap) (n0 : Nat) (v : Option Value) (h : Heap) (L : List Loc) : Prop := v = none ∧ Fr n0 L ∧ Keep h0 h [a] ∧ Exa Z h a "com/example/static_permission_checker/staticpermissionchecker/core/FlowConstraint" ∧ Fld Z h a "com/example/static_permission_checker/staticpermissionchecker/core/FlowConstraint" "holder" "Ljava/lang/String;" .null ∧ Fld Z h a "com/example/static_permission_checker/staticpermissionchecker/core/FlowConstraint" "guard" "Ljava/lang/String;" (.ref y)
set_option maxRecDepth 65536 in
set_option maxHeartbeats 40000000 in
theorem rm7n (l : Launch) (Z : State) (a0 : Array Value) (hw : ∀ d ∈ tables_1, d.before a0 Z = true) (ws : List Jvm.Cond) (a : Addr) (ac : Addr) (y : Addr) (h0 : Heap) (n0 : Nat) (Z0 : n0 ≤ h0.size) (Ea : Exa Z h0 a "com/example/static_permission_checker/staticpermissionchecker/core/FlowConstraint") (ga : n0 ≤ a) (F_holder : Fld Z h0 a "com/example/static_permission_checker/staticpermissionchecker/core/FlowConstraint" "holder" "Ljava/lang/String;" .null) (F_access : Fld Z h0 a "com/example/static_permission_checker/staticpermissionchecker/core/FlowConstraint" "access" "Lcom/example/static_permission_checker/staticpermissionchecker/core/FlowConstraint$Access;" .null) (F_guard : Fld Z h0 a "com/example/static_permission_checker/staticpermissionchecker/core/FlowConstraint" "guard" "Ljava/lang/String;" .null) :
    MetFree l (⟨"com/example/static_permission_checker/staticpermissionchecker/core/FlowConstraint", "<init>", "(Ljava/lang/String;Lcom/example/static_permission_checker/staticpermissionchecker/core/FlowConstraint$Access;Ljava/lang/String;)V"⟩ : MethodName) (head1 (Jvm.Cond.code (⟨"com/example/static_permission_checker/staticpermissionchecker/core/FlowConstraint", "<init>", "(Ljava/lang/String;Lcom/example/static_permission_checker/staticpermissionchecker/core/FlowConstraint$Access;Ljava/lang/String;)V"⟩ : MethodName) prog_44_method_1_code 4 none :: ws) ({ frames := 2, cells := 4, slots := 52, locals := 24 } : Room)) (fun aa_ U => aa_ = #[(.ref a), .null, (.ref ac), (.ref y)] ∧ Z.Warmed39 U.vm ∧ U.heap = h0 ∧ CHv Z consts_1 U.vm h0) (fun _ _ _ _ _ => True) (fun _ U o U' => ∃ v L, o = .returned v ∧ Q_rm7n Z a ac y h0 n0 v U'.heap L ∧ CHr Z consts_1 U.vm U.heap U'.vm U'.heap ∧ ReturnedEndW U o U' L ({ frames := 2, cells := 4, slots := 52, locals := 24 } : Room).cells ({ frames := 2, cells := 4, slots := 52, locals := 24 } : Room).slots) := by
  refine MetFree.of_bodySF (plainFor_of_name pn_3) hisR ?_
  intro p e s m args below meth c s₁ Bd hml0 hP hK
  obtain ⟨rfl, hZ, hh, CH0⟩ := hP
  have hx := Bd.exec
  have hby := Bd.bytes
  have hml : c.maxLocals = 4 := hml0
  have hown : s.vm.findClass "com/example/static_permission_checker/staticpermissionchecker/core/FlowConstraint" = some m.cls := findClass_of_methodNamed Bd.named
  have hnm := (name_of_methodNamed Bd.named Bd.method).1
  have X0 : Stand p l e ({ frames := 2, cells := 4, slots := 52, locals := 24 } : Room) (s.setVm s.vm) m #[(.ref a), .null, (.ref ac), (.ref y)] below meth c s₁ [] 0 0 := Stand.of_body Bd
  have e0 : s₁.heap = h0 := by rw [← hh, Bd.state]; rfl
  have N0 := Fr.nil n0
  have hS0 : s.Since s.vm 0 := own_since s
  have hk0 : 0 ≤ h0.size := Nat.zero_le _
  have CR0 := CHr.refl CH0
  have hEL := own_EW hw
  have wS := own_wS hw
  have hZo := hZ
  refine Ends.cast (P := EndW s ({ frames := 2, cells := 4, slots := 52, locals := 24 } : Room) Z consts_1 (Q_rm7n Z a ac y h0 n0)) (ef_rm7n m a ac y) ?_
  refine Ends.pre (fun t k => XS.aloadN X0.here hx rfl (hb hby d7_0) rfl rfl k) ?_
  obtain ⟨_, _, ⟨T1, L1, k1, n1⟩, -, X1, ⟨Lc1, hQ1, l1, y1, z1⟩, st1⟩ := X0.specialBack hx (y := (⟨"java/lang/Record", "<init>", "()V"⟩ : MethodName)) rfl hown (mvT hZ (hw _ (List.mem_of_getElem? (i := 42) rfl))) (mvT hZ (hw _ (List.mem_of_getElem? (i := 43) rfl))) (mvT hZ (hw _ (List.mem_of_getElem? (i := 46) rfl))) (by decide) (backOf (W := 0) (rm8 l Z a0 hw [] a h0 n0 Z0) hZ (hw _ (List.mem_of_getElem? (i := 46) rfl)) (hw _ (List.mem_of_getElem? (i := 45) rfl)) (by decide) (by decide)) (g := (mkF m 1 #[.val (.ref a), .val .null, .val (.ref ac), .val (.ref y)] [(.ref a)])) rfl (by rw [hml]; rfl) (Steps.refl _) (a := a) (argsL := []) (rest := []) (lenOf pd_1 rfl) rfl (by show 2 * 0 + _ ≤ _; exact Nat.le_of_eq rfl) (hb hby d7_1) (fun _ _ => ⟨rfl, e0, (by decide : 0 + 0 ≤ _), (by decide : 0 + 0 ≤ _)⟩)
  dsimp only [Pt.U, Pt.locs, Pt.cells, Pt.slots] at X1 l1 y1 z1 st1 hQ1
  subst l1 y1 z1
  obtain ⟨rfl, N1q, eh1⟩ := hQ1
  have N1 := Fr.app N0 N1q
  refine Ends.pre (T' := T1.setTop (mkF m 4 #[.val (.ref a), .val .null, .val (.ref ac), .val (.ref y)] [])) (fun t k => st1.trans k) ?_
  refine Ends.pre (fun t k => XS.aloadN X1.here hx rfl (hb hby d7_4) rfl rfl k) ?_
  obtain ⟨a2, T2, h2, k2, t2, kb2, X2, e2, E2, hS2, hk2, hZ2, hown2, Ea2, Ca2, Va2, Aa2, la2, lb2, CL2, Lt2, Sf2, st2⟩ := ldcCH X1 hx hZ hown (hw _ (List.mem_of_getElem? (i := 48) rfl)) wS eh1 hS0 hk0 hEL (by decide) CH0 (vs := [(.int (97 : Int32)), (.int (99 : Int32)), (.int (99 : Int32)), (.int (101 : Int32)), (.int (115 : Int32)), (.int (115 : Int32))]) (z := (6 : Int32)) ⟨by decide, rfl⟩ (by decide) rfl (g := (mkF m 5 #[.val (.ref a), .val .null, .val (.ref ac), .val (.ref y)] [(.ref ac)])) rfl (hb hby d7_5) (n := 24) (by decide) (by decide) (by decide) (by decide)
  have CR2 := CHr.trans CR0 CL2
  have K2 : Keep h0 h2 [a] := (Keep.refl h0 [a]).ext E2
  refine Ends.pre (T' := T2.setTop (mkF m 7 #[.val (.ref a), .val .null, .val (.ref ac), .val (.ref y)] [(.ref a2), (.ref ac)])) (fun t k => st2 _ k) ?_
  obtain ⟨_, _, ⟨T3, L3, k3, n3⟩, -, X3, ⟨Lc3, hQ3, l3, y3, z3⟩, st3⟩ := Jvm.LawKit.callS X2 hx (y := (⟨"java/util/Objects", "requireNonNull", "(Ljava/lang/Object;Ljava/lang/String;)Ljava/lang/Object;"⟩ : MethodName)) hown2 (mvT hZ2 (hw _ (List.mem_of_getElem? (i := 49) rfl))) (mvT hZ2 (hw _ (List.mem_of_getElem? (i := 50) rfl))) (mvT hZ2 (hw _ (List.mem_of_getElem? (i := 51) rfl))) (mvT hZ2 (hw _ (List.mem_of_getElem? (i := 52) rfl))) (by decide) (backOf (W := 0) (rm9 l Z a0 hw [] ac a2 h2 n0 (Nat.le_trans Z0 E2.1)) hZ2 (hw _ (List.mem_of_getElem? (i := 52) rfl)) (hw _ (List.mem_of_getElem? (i := 51) rfl)) (by decide) (by decide)) (g := (mkF m 7 #[.val (.ref a), .val .null, .val (.ref ac), .val (.ref y)] [(.ref a2), (.ref ac)])) rfl (by rw [hml]; rfl) (argsL := [(.ref ac), (.ref a2)]) (rest := []) (lenOf pd_2 rfl) rfl (by show 2 * 0 + _ ≤ _; exact Nat.le_of_eq rfl) (hb hby d7_7) (fun _ _ => ⟨rfl, e2, (by decide : 2 + 0 ≤ _), (by decide : 28 + 0 ≤ _)⟩)
  dsimp only [Pt.U, Pt.locs, Pt.cells, Pt.slots] at X3 l3 y3 z3 st3 hQ3
  subst l3 y3 z3
  obtain ⟨rfl, N3q, eh3⟩ := hQ3
  have N3 := Fr.app N1 N3q
  refine Ends.pre (T' := T3.setTop (mkF m 10 #[.val (.ref a), .val .null, .val (.ref ac), .val (.ref y)] [(.ref ac)])) (fun t k => st3 _ k) ?_
  refine Ends.pre (fun t k => XS.pop X3.here hx rfl (hb hby d7_10) rfl rfl k) ?_
  refine Ends.pre (fun t k => XS.aloadN X3.here hx rfl (hb hby d7_11) rfl rfl k) ?_
  obtain ⟨a4, T4, h4, k4, t4, kb4, X4, e4, E4, hS4, hk4, hZ4, hown4, Ea4, Ca4, Va4, Aa4, la4, lb4, CL4, Lt4, Sf4, st4⟩ := ldcCH X3 hx hZ2 hown2 (hw _ (List.mem_of_getElem? (i := 53) rfl)) wS eh3 hS2 hk2 hEL (by decide) CR2.1 (vs := [(.int (103 : Int32)), (.int (117 : Int32)), (.int (97 : Int32)), (.int (114 : Int32)), (.int (100 : Int32))]) (z := (5 : Int32)) ⟨by decide, rfl⟩ (by decide) rfl (g := (mkF m 12 #[.val (.ref a), .val .null, .val (.ref ac), .val (.ref y)] [(.ref y)])) rfl (hb hby d7_12) (n := 20) (by decide) (by decide) (by decide) (by decide)
  have CR4 := CHr.trans CR2 CL4
  have K4 : Keep h0 h4 [a] := K2.ext E4
  refine Ends.pre (T' := T4.setTop (mkF m 14 #[.val (.ref a), .val .null, .val (.ref ac), .val (.ref y)] [(.ref a4), (.ref y)])) (fun t k => st4 _ k) ?_
  obtain ⟨_, _, ⟨T5, L5, k5, n5⟩, -, X5, ⟨Lc5, hQ5, l5, y5, z5⟩, st5⟩ := Jvm.LawKit.callS X4 hx (y := (⟨"java/util/Objects", "requireNonNull", "(Ljava/lang/Object;Ljava/lang/String;)Ljava/lang/Object;"⟩ : MethodName)) hown4 (mvT hZ4 (hw _ (List.mem_of_getElem? (i := 49) rfl))) (mvT hZ4 (hw _ (List.mem_of_getElem? (i := 50) rfl))) (mvT hZ4 (hw _ (List.mem_of_getElem? (i := 51) rfl))) (mvT hZ4 (hw _ (List.mem_of_getElem? (i := 52) rfl))) (by decide) (backOf (W := 0) (rm9 l Z a0 hw [] y a4 h4 n0 (Nat.le_trans (Nat.le_trans Z0 E2.1) E4.1)) hZ4 (hw _ (List.mem_of_getElem? (i := 52) rfl)) (hw _ (List.mem_of_getElem? (i := 51) rfl)) (by decide) (by decide)) (g := (mkF m 14 #[.val (.ref a), .val .null, .val (.ref ac), .val (.ref y)] [(.ref a4), (.ref y)])) rfl (by rw [hml]; rfl) (argsL := [(.ref y), (.ref a4)]) (rest := []) (lenOf pd_2 rfl) rfl (by show 2 * 0 + _ ≤ _; exact Nat.le_of_eq rfl) (hb hby d7_14) (fun _ _ => ⟨rfl, e4, (by decide : 4 + 0 ≤ _), (by decide : 52 + 0 ≤ _)⟩)
  dsimp only [Pt.U, Pt.locs, Pt.cells, Pt.slots] at X5 l5 y5 z5 st5 hQ5
  subst l5 y5 z5
  obtain ⟨rfl, N5q, eh5⟩ := hQ5
  have N5 := Fr.app N3 N5q
  refine Ends.pre (T' := T5.setTop (mkF m 17 #[.val (.ref a), .val .null, .val (.ref ac), .val (.ref y)] [(.ref y)])) (fun t k => st5 _ k) ?_
  refine Ends.pre (fun t k => XS.pop X5.here hx rfl (hb hby d7_17) rfl rfl k) ?_
  refine Ends.pre (fun t k => XS.aloadN X5.here hx rfl (hb hby d7_18) rfl rfl k) ?_
  refine Ends.pre (fun t k => XS.aloadN X5.here hx rfl (hb hby d7_19) rfl rfl k) ?_
  have F6 : Fld Z h4 a "com/example/static_permission_checker/staticpermissionchecker/core/FlowConstraint" "holder" "Ljava/lang/String;" .null := ((F_holder.ext E2).ext E4)
  have F7 : Exa Z h4 a "com/example/static_permission_checker/staticpermissionchecker/core/FlowConstraint" := ((Ea.ext E2).ext E4)
  obtain ⟨T8, h8, X8, e8, W8, st8⟩ := putF X5 hx hZ4 hown4 (host := "") (Or.inl (hw _ (List.mem_of_getElem? (i := 54) rfl))) Via.refl eh5 F6 F7 (Or.inr ⟨(hw _ (List.mem_of_getElem? (i := 55) rfl)), rfl, hnm⟩) (hw _ (List.mem_of_getElem? (i := 37) rfl)) (ty := (.object "java/lang/String")) (by decide) rfl rfl (g := (mkF m 20 #[.val (.ref a), .val .null, .val (.ref ac), .val (.ref y)] [.null, (.ref a)])) rfl rfl (hb hby d7_20)
  have CR8 := CHr.trans CR4 (CHr.wr W8 (Safe.exa hZ4.alike F7 (by decide) (by decide)) CR4.1)
  have Fw8 : Fld Z h8 a "com/example/static_permission_checker/staticpermissionchecker/core/FlowConstraint" "holder" "Ljava/lang/String;" .null := F6.same W8
  have N8 := Fr.snoc X8 N5 ga
  refine Ends.pre (T' := T8.setTop (mkF m 23 #[.val (.ref a), .val .null, .val (.ref ac), .val (.ref y)] [])) (fun t k => st8 _ k) ?_
  have K8 : Keep h0 h8 [a] := K4.wr W8 (Or.inl (List.mem_of_getElem? (i := 0) rfl))
  refine Ends.pre (fun t k => XS.aloadN X8.here hx rfl (hb hby d7_23) rfl rfl k) ?_
  refine Ends.pre (fun t k => XS.aloadN X8.here hx rfl (hb hby d7_24) rfl rfl k) ?_
  have F9 : Fld Z h8 a "com/example/static_permission_checker/staticpermissionchecker/core/FlowConstraint" "access" "Lcom/example/static_permission_checker/staticpermissionchecker/core/FlowConstraint$Access;" .null := (((F_access.ext E2).ext E4).other W8 (Or.inr (slot_ne (Or.inr (hw _ (List.mem_of_getElem? (i := 57) rfl))) (Or.inr (hw _ (List.mem_of_getElem? (i := 55) rfl))) (by decide) (t := (.object "com/example/static_permission_checker/staticpermissionchecker/core/FlowConstraint$Access")) (t' := (.object "java/lang/String")) (by decide) (by decide))))
  have F10 : Exa Z h8 a "com/example/static_permission_checker/staticpermissionchecker/core/FlowConstraint" := (F7.wr W8)
  obtain ⟨T11, h11, X11, e11, W11, st11⟩ := putF X8 hx hZ4 hown4 (host := "") (Or.inl (hw _ (List.mem_of_getElem? (i := 56) rfl))) Via.refl e8 F9 F10 (Or.inr ⟨(hw _ (List.mem_of_getElem? (i := 57) rfl)), rfl, hnm⟩) (hw _ (List.mem_of_getElem? (i := 37) rfl)) (ty := (.object "com/example/static_permission_checker/staticpermissionchecker/core/FlowConstraint$Access")) (by decide) rfl rfl (g := (mkF m 25 #[.val (.ref a), .val .null, .val (.ref ac), .val (.ref y)] [(.ref ac), (.ref a)])) rfl rfl (hb hby d7_25)
  have CR11 := CHr.trans CR8 (CHr.wr W11 (Safe.exa hZ4.alike F10 (by decide) (by decide)) CR8.1)
  have Fw11 : Fld Z h11 a "com/example/static_permission_checker/staticpermissionchecker/core/FlowConstraint" "access" "Lcom/example/static_permission_checker/staticpermissionchecker/core/FlowConstraint$Access;" (.ref ac) := F9.same W11
  have N11 := Fr.snoc X11 N8 ga
  refine Ends.pre (T' := T11.setTop (mkF m 28 #[.val (.ref a), .val .null, .val (.ref ac), .val (.ref y)] [])) (fun t k => st11 _ k) ?_
  have K11 : Keep h0 h11 [a] := K8.wr W11 (Or.inl (List.mem_of_getElem? (i := 0) rfl))
  refine Ends.pre (fun t k => XS.aloadN X11.here hx rfl (hb hby d7_28) rfl rfl k) ?_
  refine Ends.pre (fun t k => XS.aloadN X11.here hx rfl (hb hby d7_29) rfl rfl k) ?_
  have F12 : Fld Z h11 a "com/example/static_permission_checker/staticpermissionchecker/core/FlowConstraint" "guard" "Ljava/lang/String;" .null := ((((F_guard.ext E2).ext E4).other W8 (Or.inr (slot_ne (Or.inr (hw _ (List.mem_of_getElem? (i := 59) rfl))) (Or.inr (hw _ (List.mem_of_getElem? (i := 55) rfl))) (by decide) (t := (.object "java/lang/String")) (t' := (.object "java/lang/String")) (by decide) (by decide)))).other W11 (Or.inr (slot_ne (Or.inr (hw _ (List.mem_of_getElem? (i := 59) rfl))) (Or.inr (hw _ (List.mem_of_getElem? (i := 57) rfl))) (by decide) (t := (.object "java/lang/String")) (t' := (.object "com/example/static_permission_checker/staticpermissionchecker/core/FlowConstraint$Access")) (by decide) (by decide))))
  have F13 : Exa Z h11 a "com/example/static_permission_checker/staticpermissionchecker/core/FlowConstraint" := (F10.wr W11)
  obtain ⟨T14, h14, X14, e14, W14, st14⟩ := putF X11 hx hZ4 hown4 (host := "") (Or.inl (hw _ (List.mem_of_getElem? (i := 58) rfl))) Via.refl e11 F12 F13 (Or.inr ⟨(hw _ (List.mem_of_getElem? (i := 59) rfl)), rfl, hnm⟩) (hw _ (List.mem_of_getElem? (i := 37) rfl)) (ty := (.object "java/lang/String")) (by decide) rfl rfl (g := (mkF m 30 #[.val (.ref a), .val .null, .val (.ref ac), .val (.ref y)] [(.ref y), (.ref a)])) rfl rfl (hb hby d7_30)
  have CR14 := CHr.trans CR11 (CHr.wr W14 (Safe.exa hZ4.alike F13 (by decide) (by decide)) CR11.1)
  have Fw14 : Fld Z h14 a "com/example/static_permission_checker/staticpermissionchecker/core/FlowConstraint" "guard" "Ljava/lang/String;" (.ref y) := F12.same W14
  have N14 := Fr.snoc X14 N11 ga
  refine Ends.pre (T' := T14.setTop (mkF m 33 #[.val (.ref a), .val .null, .val (.ref ac), .val (.ref y)] [])) (fun t k => st14 _ k) ?_
  have K14 : Keep h0 h14 [a] := K11.wr W14 (Or.inl (List.mem_of_getElem? (i := 0) rfl))
  have F15 : Exa Z h14 a "com/example/static_permission_checker/staticpermissionchecker/core/FlowConstraint" := (F13.wr W14)
  have F16 : Fld Z h14 a "com/example/static_permission_checker/staticpermissionchecker/core/FlowConstraint" "holder" "Ljava/lang/String;" .null := ((Fw8.other W11 (Or.inr (slot_ne (Or.inr (hw _ (List.mem_of_getElem? (i := 55) rfl))) (Or.inr (hw _ (List.mem_of_getElem? (i := 57) rfl))) (by decide) (t := (.object "java/lang/String")) (t' := (.object "com/example/static_permission_checker/staticpermissionchecker/core/FlowConstraint$Access")) (by decide) (by decide)))).other W14 (Or.inr (slot_ne (Or.inr (hw _ (List.mem_of_getElem? (i := 55) rfl))) (Or.inr (hw _ (List.mem_of_getElem? (i := 59) rfl))) (by decide) (t := (.object "java/lang/String")) (t' := (.object "java/lang/String")) (by decide) (by decide))))
  exact Ends.ret0W X14 hx Bd.notSynchronized Bd.returns (hb hby d7_33) e14 hZ4 hEL hS4 (Nat.le_trans (Nat.le_trans (Nat.le_trans hk4 (Keep.of_wr W8).1) (Keep.of_wr W11).1) (Keep.of_wr W14).1) hh CR14 ⟨rfl, N14, K14, F15, F16, Fw14⟩ (by decide) (by decide)
theorem d11_0 : decode jdk_42_method_66_code 0 = .ok (.aload_n 0, 1) := by decide +kernel
theorem d11_1 : decode jdk_42_method_66_code 1 = .ok (.aload_n 1, 1) := by decide +kernel
theorem d11_2 : decode jdk_42_method_66_code 2 = .ok (.if_acmp .ne 5, 3) := by decide +kernel
theorem d11_7 : decode jdk_42_method_66_code 7 = .ok (.aload_n 1, 1) := by decide +kernel
theorem d11_8 : decode jdk_42_method_66_code 8 = .ok (.instanceof 10, 3) := by decide +kernel
theorem d11_11 : decode jdk_42_method_66_code 11 = .ok (.ifCond .eq 43, 3) := by decide +kernel
theorem d11_54 : decode jdk_42_method_66_code 54 = .ok (.iconst 0, 1) := by decide +kernel
theorem d11_55 : decode jdk_42_method_66_code 55 = .ok (.ireturn, 1) := by decide +kernel
theorem ef_rm11n (m : MethodId) (x0 : Addr) : entryFrame m #[(.ref x0), .null] 3 = mkF m 0 #[.val (.ref x0), .val .null, .unset] [] := by first | (simp [entryFrame, mkF, argsToLocals, Value.category]; done) | rfl
def Q_rm11n (Z : State) (y : Addr) (h0 : Heap) (n0 : Nat) (v : Option Value) (h : Heap) (L : List Loc) : Prop := v = some (.int 0) ∧ Fr n0 L ∧ h = h0
set_option maxRecDepth 65536 in
set_option maxHeartbeats 40000000 in
theorem rm11n (l : Launch) (Z : State) (a0 : Array Value) (hw : ∀ d ∈ tables_1, d.before a0 Z = true) (ws : List Jvm.Cond) (y : Addr) (h0 : Heap) (n0 : Nat) (Z0 : n0 ≤ h0.size)  :
    MetFree l (⟨"java/lang/String", "equals", "(Ljava/lang/Object;)Z"⟩ : MethodName) (head1 (Jvm.Cond.code (⟨"java/lang/String", "equals", "(Ljava/lang/Object;)Z"⟩ : MethodName) jdk_42_method_66_code 3 (some .boolean) :: ws) ({ frames := 0, cells := 0, slots := 0, locals := 0 } : Room)) (fun aa_ U => aa_ = #[(.ref y), .null] ∧ Z.Warmed39 U.vm ∧ U.heap = h0) (fun _ _ _ _ _ => True) (fun _ U o U' => ∃ v L, o = .returned v ∧ Q_rm11n Z y h0 n0 v U'.heap L ∧ FrameEnd U o U' L ({ frames := 0, cells := 0, slots := 0, locals := 0 } : Room).cells ({ frames := 0, cells := 0, slots := 0, locals := 0 } : Room).slots) := by
  refine MetFree.of_bodySF (plainFor_of_name pn_0) hisR ?_
  intro p e s m args below meth c s₁ Bd hml0 hP hK
  obtain ⟨rfl, hZ, hh⟩ := hP
  have hx := Bd.exec
  have hby := Bd.bytes
  have hml : c.maxLocals = 3 := hml0
  have hown : s.vm.findClass "java/lang/String" = some m.cls := findClass_of_methodNamed Bd.named
  have hnm := (name_of_methodNamed Bd.named Bd.method).1
  have X0 : Stand p l e ({ frames := 0, cells := 0, slots := 0, locals := 0 } : Room) s m #[(.ref y), .null] below meth c s₁ [] 0 0 := Stand.of_body Bd
  have e0 : s₁.heap = h0 := by rw [← hh, Bd.state]; rfl
  have N0 := Fr.nil n0
  refine Ends.cast (P := EndN s ({ frames := 0, cells := 0, slots := 0, locals := 0 } : Room) (Q_rm11n Z y h0 n0)) (ef_rm11n m y) ?_
  refine Ends.pre (fun t k => XS.aloadN X0.here hx rfl (hb hby d11_0) rfl rfl k) ?_
  refine Ends.pre (fun t k => XS.aloadN X0.here hx rfl (hb hby d11_1) rfl rfl k) ?_
  refine Ends.pre (T' := s₁.setTop (mkF m 7 #[.val (.ref y), .val .null, .unset] [])) (fun t k => Jvm.RoadKit.acmp (g := (mkF m 2 #[.val (.ref y), .val .null, .unset] [.null, (.ref y)])) X0 hx rfl rfl rfl (pc0 := 2) (pc' := 7) (same := false) rfl (hb hby d11_2) rfl (by simp) (by decide) (by decide) k) ?_
  refine Ends.pre (fun t k => XS.aloadN X0.here hx rfl (hb hby d11_7) rfl rfl k) ?_
  refine Ends.pre (T' := s₁.setTop (mkF m 11 #[.val (.ref y), .val .null, .unset] [(.int (0 : Int32))])) (fun t k => X0.instanceofNull hx (g := (mkF m 8 #[.val (.ref y), .val .null, .unset] [.null])) rfl rfl (hb hby d11_8) _ k) ?_
  refine Ends.pre (T' := s₁.setTop (mkF m 54 #[.val (.ref y), .val .null, .unset] [])) (fun t k => XS.ifYes X0.here hx rfl (pc0 := 11) (pc' := 54) rfl (hb hby d11_11) rfl (by decide) (by decide) (by decide) k) ?_
  refine Ends.pre (fun t k => XS.iconst X0.here hx rfl (hb hby d11_54) k) ?_
  exact Ends.ret (w := (.int (0 : Int32))) X0 hx Bd.notSynchronized Bd.returns rfl (Or.inl ⟨rfl, Or.inr (Or.inl rfl), _, rfl⟩) (hb hby d11_55) e0 ⟨rfl, N0, rfl⟩ (by decide) (by decide)
theorem d10_0 : decode prog_44_method_2_code 0 = .ok (.aload_n 0, 1) := by decide +kernel
theorem d10_1 : decode prog_44_method_2_code 1 = .ok (.getfield 26, 3) := by decide +kernel
theorem d10_4 : decode prog_44_method_2_code 4 = .ok (.aload_n 0, 1) := by decide +kernel
theorem d10_5 : decode prog_44_method_2_code 5 = .ok (.getfield 17, 3) := by decide +kernel
theorem d10_8 : decode prog_44_method_2_code 8 = .ok (.invokevirtual 28, 3) := by decide +kernel
theorem pd_3 : parseMethodDescriptor "(Ljava/lang/Object;)Z" = some ⟨[(.object "java/lang/Object")], some .boolean⟩ := by decide +kernel
theorem d10_11 : decode prog_44_method_2_code 11 = .ok (.ireturn, 1) := by decide +kernel
theorem ef_rm10n (m : MethodId) (x0 : Addr) : entryFrame m #[(.ref x0)] 1 = mkF m 0 #[.val (.ref x0)] [] := by first | (simp [entryFrame, mkF, argsToLocals, Value.category]; done) | rfl
def Q_rm10n (Z : State) (a : Addr) (y : Addr) (ty : Addr) (ky : ClassId) (cs_y : List Int32) (n_y : Int32) (vs_y : List Value) (cz : Int32) (fm : Value) (h0 : Heap) (n0 : Nat) (v : Option Value) (h : Heap) (L : List Loc) : Prop := v = some (.int 0) ∧ Fr n0 L ∧ h = h0
set_option maxRecDepth 65536 in
set_option maxHeartbeats 40000000 in
theorem rm10n (l : Launch) (Z : State) (a0 : Array Value) (hw : ∀ d ∈ tables_1, d.before a0 Z = true) (ws : List Jvm.Cond) (a : Addr) (y : Addr) (ty : Addr) (ky : ClassId) (cs_y : List Int32) (n_y : Int32) (vs_y : List Value) (cz : Int32) (fm : Value) (h0 : Heap) (n0 : Nat) (Z0 : n0 ≤ h0.size) (Ey : Exa Z h0 y "java/lang/String") (Cy : Fld Z h0 y "java/lang/String" "coder" "B" (.int 0)) (Vy : Fld Z h0 y "java/lang/String" "value" "[B" (.ref ty)) (Ay : Arv Z h0 ty ky .byte n_y vs_y (.int 0)) (hcd_y : StrChars.Road.CodA cs_y 0 n_y vs_y) (hbd_y : ∀ c ∈ cs_y, ¬ c < 0 ∧ ¬ (65535 : Int32) < c) (hl_y : cs_y.length ≤ 4000) (F_holder : Fld Z h0 a "com/example/static_permission_checker/staticpermissionchecker/core/FlowConstraint" "holder" "Ljava/lang/String;" .null) (F_guard : Fld Z h0 a "com/example/static_permission_checker/staticpermissionchecker/core/FlowConstraint" "guard" "Ljava/lang/String;" (.ref y)) (SCS : Sta Z h0 "java/lang/String" "COMPACT_STRINGS" "Z" (.int cz)) (hcz : ¬ cz = 0) (SFM : Sta Z h0 "jdk/internal/util/Preconditions" "SIOOBE_FORMATTER" "Ljava/util/function/BiFunction;" fm) (hfm : fm.isRef = true) :
    MetFree l (⟨"com/example/static_permission_checker/staticpermissionchecker/core/FlowConstraint", "holds", "()Z"⟩ : MethodName) (head1 (Jvm.Cond.code (⟨"com/example/static_permission_checker/staticpermissionchecker/core/FlowConstraint", "holds", "()Z"⟩ : MethodName) prog_44_method_2_code 1 (some .boolean) :: ws) ({ frames := 1, cells := 0, slots := 0, locals := 14 } : Room)) (fun aa_ U => aa_ = #[(.ref a)] ∧ Z.Warmed39 U.vm ∧ U.heap = h0) (fun _ _ _ _ _ => True) (fun _ U o U' => ∃ v L, o = .returned v ∧ Q_rm10n Z a y ty ky cs_y n_y vs_y cz fm h0 n0 v U'.heap L ∧ FrameEnd U o U' L ({ frames := 1, cells := 0, slots := 0, locals := 14 } : Room).cells ({ frames := 1, cells := 0, slots := 0, locals := 14 } : Room).slots) := by
  refine MetFree.of_bodySF (plainFor_of_name pn_3) hisR ?_
  intro p e s m args below meth c s₁ Bd hml0 hP hK
  obtain ⟨rfl, hZ, hh⟩ := hP
  have hx := Bd.exec
  have hby := Bd.bytes
  have hml : c.maxLocals = 1 := hml0
  have hown : s.vm.findClass "com/example/static_permission_checker/staticpermissionchecker/core/FlowConstraint" = some m.cls := findClass_of_methodNamed Bd.named
  have hnm := (name_of_methodNamed Bd.named Bd.method).1
  have X0 : Stand p l e ({ frames := 1, cells := 0, slots := 0, locals := 14 } : Room) s m #[(.ref a)] below meth c s₁ [] 0 0 := Stand.of_body Bd
  have e0 : s₁.heap = h0 := by rw [← hh, Bd.state]; rfl
  have N0 := Fr.nil n0
  refine Ends.cast (P := EndN s ({ frames := 1, cells := 0, slots := 0, locals := 14 } : Room) (Q_rm10n Z a y ty ky cs_y n_y vs_y cz fm h0 n0)) (ef_rm10n m a) ?_
  refine Ends.pre (fun t k => XS.aloadN X0.here hx rfl (hb hby d10_0) rfl rfl k) ?_
  obtain ⟨T1, X1, e1, st1⟩ := getF X0 hx hZ hown (host := "") (Or.inl (hw _ (List.mem_of_getElem? (i := 58) rfl))) Via.refl e0 F_guard (g := (mkF m 1 #[.val (.ref a)] [(.ref a)])) rfl rfl (hb hby d10_1)
  refine Ends.pre (T' := T1.setTop (mkF m 4 #[.val (.ref a)] [(.ref y)])) (fun t k => st1 _ k) ?_
  refine Ends.pre (fun t k => XS.aloadN X1.here hx rfl (hb hby d10_4) rfl rfl k) ?_
  obtain ⟨T2, X2, e2, st2⟩ := getF X1 hx hZ hown (host := "") (Or.inl (hw _ (List.mem_of_getElem? (i := 54) rfl))) Via.refl e1 F_holder (g := (mkF m 5 #[.val (.ref a)] [(.ref a), (.ref y)])) rfl rfl (hb hby d10_5)
  refine Ends.pre (T' := T2.setTop (mkF m 8 #[.val (.ref a)] [.null, (.ref y)])) (fun t k => st2 _ k) ?_
  obtain ⟨cq3, kq3, q3a, q3b, q3c⟩ := isOf hZ e2 Ey
  obtain ⟨_, _, ⟨T3, L3, k3, n3⟩, -, X3, ⟨Lc3, hQ3, l3, y3, z3⟩, st3⟩ := X2.virtualBack hx (y := (⟨"java/lang/String", "equals", "(Ljava/lang/Object;)Z"⟩ : MethodName)) (z := (⟨"java/lang/String", "equals", "(Ljava/lang/Object;)Z"⟩ : MethodName)) hown (mvT hZ (hw _ (List.mem_of_getElem? (i := 65) rfl))) (mvT hZ (hw _ (List.mem_of_getElem? (i := 66) rfl))) (notFace_of_selects (args := #[]) (mvT hZ (hw _ (List.mem_of_getElem? (i := 68) rfl)))) (mvT hZ (hw _ (List.mem_of_getElem? (i := 68) rfl))) (mvT hZ (hw _ (List.mem_of_getElem? (i := 67) rfl))) (by decide) (backOf (W := 0) (rm11n l Z a0 hw [] y h0 n0 Z0) hZ (hw _ (List.mem_of_getElem? (i := 69) rfl)) (hw _ (List.mem_of_getElem? (i := 3) rfl)) (by decide) (by decide)) q3a q3c (g := (mkF m 8 #[.val (.ref a)] [.null, (.ref y)])) rfl (by rw [hml]; rfl) (Steps.refl _) (argsL := [.null]) (rest := []) (lenOf pd_3 rfl) rfl (by show 2 * 0 + _ ≤ _; exact Nat.le_of_eq rfl) (hb hby d10_8) (fun _ _ => ⟨rfl, e2, (by decide : 0 + 0 ≤ _), (by decide : 0 + 0 ≤ _)⟩)
  dsimp only [Pt.U, Pt.locs, Pt.cells, Pt.slots] at X3 l3 y3 z3 st3 hQ3
  subst l3 y3 z3
  obtain ⟨rfl, N3q, eh3⟩ := hQ3
  have N3 := Fr.app N0 N3q
  refine Ends.pre (T' := T3.setTop (mkF m 11 #[.val (.ref a)] [(.int (0 : Int32))])) (fun t k => st3.trans k) ?_
  exact Ends.ret (w := (.int (0 : Int32))) X3 hx Bd.notSynchronized Bd.returns rfl (Or.inl ⟨rfl, Or.inr (Or.inl rfl), _, rfl⟩) (hb hby d10_11) eh3 ⟨rfl, N3, rfl⟩ (by decide) (by decide)
theorem ef_rm10y (m : MethodId) (x0 : Addr) : entryFrame m #[(.ref x0)] 1 = mkF m 0 #[.val (.ref x0)] [] := by first | (simp [entryFrame, mkF, argsToLocals, Value.category]; done) | rfl
def Q_rm10y (Z : State) (a : Addr) (y : Addr) (ty : Addr) (ky : ClassId) (cs_y : List Int32) (n_y : Int32) (vs_y : List Value) (x : Addr) (tx : Addr) (kx : ClassId) (cs_x : List Int32) (n_x : Int32) (vs_x : List Value) (cz : Int32) (fm : Value) (h0 : Heap) (n0 : Nat) (v : Option Value) (h : Heap) (L : List Loc) : Prop := v = some (.int 1) ∧ Fr n0 L ∧ h = h0
set_option maxRecDepth 65536 in
set_option maxHeartbeats 40000000 in
theorem rm10y (l : Launch) (Z : State) (a0 : Array Value) (hw : ∀ d ∈ tables_1, d.before a0 Z = true) (ws : List Jvm.Cond) (a : Addr) (y : Addr) (ty : Addr) (ky : ClassId) (cs_y : List Int32) (n_y : Int32) (vs_y : List Value) (x : Addr) (tx : Addr) (kx : ClassId) (cs_x : List Int32) (n_x : Int32) (vs_x : List Value) (cz : Int32) (fm : Value) (h0 : Heap) (n0 : Nat) (Z0 : n0 ≤ h0.size) (Ey : Exa Z h0 y "java/lang/String") (Cy : Fld Z h0 y "java/lang/String" "coder" "B" (.int 0)) (Vy : Fld Z h0 y "java/lang/String" "value" "[B" (.ref ty)) (Ay : Arv Z h0 ty ky .byte n_y vs_y (.int 0)) (hcd_y : StrChars.Road.CodA cs_y 0 n_y vs_y) (hbd_y : ∀ c ∈ cs_y, ¬ c < 0 ∧ ¬ (65535 : Int32) < c) (hl_y : cs_y.length ≤ 4000) (Ex : Exa Z h0 x "java/lang/String") (Cx : Fld Z h0 x "java/lang/String" "coder" "B" (.int 0)) (Vx : Fld Z h0 x "java/lang/String" "value" "[B" (.ref tx)) (Ax : Arv Z h0 tx kx .byte n_x vs_x (.int 0)) (hcd_x : StrChars.Road.CodA cs_x 0 n_x vs_x) (hbd_x : ∀ c ∈ cs_x, ¬ c < 0 ∧ ¬ (65535 : Int32) < c) (hl_x : cs_x.length ≤ 4000) (F_holder : Fld Z h0 a "com/example/static_permission_checker/staticpermissionchecker/core/FlowConstraint" "holder" "Ljava/lang/String;" (.ref x)) (F_guard : Fld Z h0 a "com/example/static_permission_checker/staticpermissionchecker/core/FlowConstraint" "guard" "Ljava/lang/String;" (.ref y)) (SCS : Sta Z h0 "java/lang/String" "COMPACT_STRINGS" "Z" (.int cz)) (hcz : ¬ cz = 0) (SFM : Sta Z h0 "jdk/internal/util/Preconditions" "SIOOBE_FORMATTER" "Ljava/util/function/BiFunction;" fm) (hfm : fm.isRef = true) (heq : cs_y = cs_x) :
    MetFree l (⟨"com/example/static_permission_checker/staticpermissionchecker/core/FlowConstraint", "holds", "()Z"⟩ : MethodName) (head1 (Jvm.Cond.code (⟨"com/example/static_permission_checker/staticpermissionchecker/core/FlowConstraint", "holds", "()Z"⟩ : MethodName) prog_44_method_2_code 1 (some .boolean) :: ws) ({ frames := 2, cells := 0, slots := 0, locals := 28 } : Room)) (fun aa_ U => aa_ = #[(.ref a)] ∧ Z.Warmed39 U.vm ∧ U.heap = h0) (fun _ _ _ _ _ => True) (fun _ U o U' => ∃ v L, o = .returned v ∧ Q_rm10y Z a y ty ky cs_y n_y vs_y x tx kx cs_x n_x vs_x cz fm h0 n0 v U'.heap L ∧ FrameEnd U o U' L ({ frames := 2, cells := 0, slots := 0, locals := 28 } : Room).cells ({ frames := 2, cells := 0, slots := 0, locals := 28 } : Room).slots) := by
  refine MetFree.of_bodySF (plainFor_of_name pn_3) hisR ?_
  intro p e s m args below meth c s₁ Bd hml0 hP hK
  obtain ⟨rfl, hZ, hh⟩ := hP
  have hx := Bd.exec
  have hby := Bd.bytes
  have hml : c.maxLocals = 1 := hml0
  have hown : s.vm.findClass "com/example/static_permission_checker/staticpermissionchecker/core/FlowConstraint" = some m.cls := findClass_of_methodNamed Bd.named
  have hnm := (name_of_methodNamed Bd.named Bd.method).1
  have X0 : Stand p l e ({ frames := 2, cells := 0, slots := 0, locals := 28 } : Room) s m #[(.ref a)] below meth c s₁ [] 0 0 := Stand.of_body Bd
  have e0 : s₁.heap = h0 := by rw [← hh, Bd.state]; rfl
  have N0 := Fr.nil n0
  refine Ends.cast (P := EndN s ({ frames := 2, cells := 0, slots := 0, locals := 28 } : Room) (Q_rm10y Z a y ty ky cs_y n_y vs_y x tx kx cs_x n_x vs_x cz fm h0 n0)) (ef_rm10y m a) ?_
  refine Ends.pre (fun t k => XS.aloadN X0.here hx rfl (hb hby d10_0) rfl rfl k) ?_
  obtain ⟨T1, X1, e1, st1⟩ := getF X0 hx hZ hown (host := "") (Or.inl (hw _ (List.mem_of_getElem? (i := 58) rfl))) Via.refl e0 F_guard (g := (mkF m 1 #[.val (.ref a)] [(.ref a)])) rfl rfl (hb hby d10_1)
  refine Ends.pre (T' := T1.setTop (mkF m 4 #[.val (.ref a)] [(.ref y)])) (fun t k => st1 _ k) ?_
  refine Ends.pre (fun t k => XS.aloadN X1.here hx rfl (hb hby d10_4) rfl rfl k) ?_
  obtain ⟨T2, X2, e2, st2⟩ := getF X1 hx hZ hown (host := "") (Or.inl (hw _ (List.mem_of_getElem? (i := 54) rfl))) Via.refl e1 F_holder (g := (mkF m 5 #[.val (.ref a)] [(.ref a), (.ref y)])) rfl rfl (hb hby d10_5)
  refine Ends.pre (T' := T2.setTop (mkF m 8 #[.val (.ref a)] [(.ref x), (.ref y)])) (fun t k => st2 _ k) ?_
  obtain ⟨cq3, kq3, q3a, q3b, q3c⟩ := isOf hZ e2 Ey
  obtain ⟨_, _, ⟨T3, L3, k3, n3⟩, -, X3, ⟨Lc3, hQ3, l3, y3, z3⟩, st3⟩ := X2.virtualBack hx (y := (⟨"java/lang/String", "equals", "(Ljava/lang/Object;)Z"⟩ : MethodName)) (z := (⟨"java/lang/String", "equals", "(Ljava/lang/Object;)Z"⟩ : MethodName)) hown (mvT hZ (hw _ (List.mem_of_getElem? (i := 65) rfl))) (mvT hZ (hw _ (List.mem_of_getElem? (i := 66) rfl))) (notFace_of_selects (args := #[]) (mvT hZ (hw _ (List.mem_of_getElem? (i := 68) rfl)))) (mvT hZ (hw _ (List.mem_of_getElem? (i := 68) rfl))) (mvT hZ (hw _ (List.mem_of_getElem? (i := 67) rfl))) (by decide) (StrChars.Road.eqW (W := 0) hZ (own_heq hw) (kI := 4) (hw _ (List.mem_of_getElem? (i := 2) rfl)) Ey Vy Cy Ay hcd_y hbd_y hl_y Ex Vx Cx Ax hcd_x hbd_x hl_x SCS hcz (by decide) (by decide)) q3a q3c (g := (mkF m 8 #[.val (.ref a)] [(.ref x), (.ref y)])) rfl (by rw [hml]; rfl) (Steps.refl _) (argsL := [(.ref x)]) (rest := []) (lenOf pd_3 rfl) rfl (by show 2 * 0 + _ ≤ _; exact Nat.le_of_eq rfl) (hb hby d10_8) (fun _ _ => ⟨rfl, e2, (by decide : 0 + 0 ≤ _), (by decide : 0 + 0 ≤ _)⟩)
  dsimp only [Pt.U, Pt.locs, Pt.cells, Pt.slots] at X3 l3 y3 z3 st3 hQ3
  subst l3 y3 z3
  obtain ⟨hcase3, rfl, eh3⟩ := hQ3
  have N3 := Fr.app N0 (Fr.nil n0)
  have hv3 : _ = some (Value.int 1) := hcase3.elim (fun q => q.1) (fun q => absurd heq q.2)
  subst hv3
  refine Ends.pre (T' := T3.setTop (mkF m 11 #[.val (.ref a)] [(.int (1 : Int32))])) (fun t k => st3.trans k) ?_
  exact Ends.ret (w := (.int (1 : Int32))) X3 hx Bd.notSynchronized Bd.returns rfl (Or.inl ⟨rfl, Or.inr (Or.inl rfl), _, rfl⟩) (hb hby d10_11) eh3 ⟨rfl, N3, rfl⟩ (by decide) (by decide)
theorem ef_rm10d (m : MethodId) (x0 : Addr) : entryFrame m #[(.ref x0)] 1 = mkF m 0 #[.val (.ref x0)] [] := by first | (simp [entryFrame, mkF, argsToLocals, Value.category]; done) | rfl
def Q_rm10d (Z : State) (a : Addr) (y : Addr) (ty : Addr) (ky : ClassId) (cs_y : List Int32) (n_y : Int32) (vs_y : List Value) (x : Addr) (tx : Addr) (kx : ClassId) (cs_x : List Int32) (n_x : Int32) (vs_x : List Value) (cz : Int32) (fm : Value) (h0 : Heap) (n0 : Nat) (v : Option Value) (h : Heap) (L : List Loc) : Prop := v = some (.int 0) ∧ Fr n0 L ∧ h = h0
set_option maxRecDepth 65536 in
set_option maxHeartbeats 40000000 in
theorem rm10d (l : Launch) (Z : State) (a0 : Array Value) (hw : ∀ d ∈ tables_1, d.before a0 Z = true) (ws : List Jvm.Cond) (a : Addr) (y : Addr) (ty : Addr) (ky : ClassId) (cs_y : List Int32) (n_y : Int32) (vs_y : List Value) (x : Addr) (tx : Addr) (kx : ClassId) (cs_x : List Int32) (n_x : Int32) (vs_x : List Value) (cz : Int32) (fm : Value) (h0 : Heap) (n0 : Nat) (Z0 : n0 ≤ h0.size) (Ey : Exa Z h0 y "java/lang/String") (Cy : Fld Z h0 y "java/lang/String" "coder" "B" (.int 0)) (Vy : Fld Z h0 y "java/lang/String" "value" "[B" (.ref ty)) (Ay : Arv Z h0 ty ky .byte n_y vs_y (.int 0)) (hcd_y : StrChars.Road.CodA cs_y 0 n_y vs_y) (hbd_y : ∀ c ∈ cs_y, ¬ c < 0 ∧ ¬ (65535 : Int32) < c) (hl_y : cs_y.length ≤ 4000) (Ex : Exa Z h0 x "java/lang/String") (Cx : Fld Z h0 x "java/lang/String" "coder" "B" (.int 0)) (Vx : Fld Z h0 x "java/lang/String" "value" "[B" (.ref tx)) (Ax : Arv Z h0 tx kx .byte n_x vs_x (.int 0)) (hcd_x : StrChars.Road.CodA cs_x 0 n_x vs_x) (hbd_x : ∀ c ∈ cs_x, ¬ c < 0 ∧ ¬ (65535 : Int32) < c) (hl_x : cs_x.length ≤ 4000) (F_holder : Fld Z h0 a "com/example/static_permission_checker/staticpermissionchecker/core/FlowConstraint" "holder" "Ljava/lang/String;" (.ref x)) (F_guard : Fld Z h0 a "com/example/static_permission_checker/staticpermissionchecker/core/FlowConstraint" "guard" "Ljava/lang/String;" (.ref y)) (SCS : Sta Z h0 "java/lang/String" "COMPACT_STRINGS" "Z" (.int cz)) (hcz : ¬ cz = 0) (SFM : Sta Z h0 "jdk/internal/util/Preconditions" "SIOOBE_FORMATTER" "Ljava/util/function/BiFunction;" fm) (hfm : fm.isRef = true) (heq : ¬ cs_y = cs_x) :
    MetFree l (⟨"com/example/static_permission_checker/staticpermissionchecker/core/FlowConstraint", "holds", "()Z"⟩ : MethodName) (head1 (Jvm.Cond.code (⟨"com/example/static_permission_checker/staticpermissionchecker/core/FlowConstraint", "holds", "()Z"⟩ : MethodName) prog_44_method_2_code 1 (some .boolean) :: ws) ({ frames := 2, cells := 0, slots := 0, locals := 28 } : Room)) (fun aa_ U => aa_ = #[(.ref a)] ∧ Z.Warmed39 U.vm ∧ U.heap = h0) (fun _ _ _ _ _ => True) (fun _ U o U' => ∃ v L, o = .returned v ∧ Q_rm10d Z a y ty ky cs_y n_y vs_y x tx kx cs_x n_x vs_x cz fm h0 n0 v U'.heap L ∧ FrameEnd U o U' L ({ frames := 2, cells := 0, slots := 0, locals := 28 } : Room).cells ({ frames := 2, cells := 0, slots := 0, locals := 28 } : Room).slots) := by
  refine MetFree.of_bodySF (plainFor_of_name pn_3) hisR ?_
  intro p e s m args below meth c s₁ Bd hml0 hP hK
  obtain ⟨rfl, hZ, hh⟩ := hP
  have hx := Bd.exec
  have hby := Bd.bytes
  have hml : c.maxLocals = 1 := hml0
  have hown : s.vm.findClass "com/example/static_permission_checker/staticpermissionchecker/core/FlowConstraint" = some m.cls := findClass_of_methodNamed Bd.named
  have hnm := (name_of_methodNamed Bd.named Bd.method).1
  have X0 : Stand p l e ({ frames := 2, cells := 0, slots := 0, locals := 28 } : Room) s m #[(.ref a)] below meth c s₁ [] 0 0 := Stand.of_body Bd
  have e0 : s₁.heap = h0 := by rw [← hh, Bd.state]; rfl
  have N0 := Fr.nil n0
  refine Ends.cast (P := EndN s ({ frames := 2, cells := 0, slots := 0, locals := 28 } : Room) (Q_rm10d Z a y ty ky cs_y n_y vs_y x tx kx cs_x n_x vs_x cz fm h0 n0)) (ef_rm10d m a) ?_
  refine Ends.pre (fun t k => XS.aloadN X0.here hx rfl (hb hby d10_0) rfl rfl k) ?_
  obtain ⟨T1, X1, e1, st1⟩ := getF X0 hx hZ hown (host := "") (Or.inl (hw _ (List.mem_of_getElem? (i := 58) rfl))) Via.refl e0 F_guard (g := (mkF m 1 #[.val (.ref a)] [(.ref a)])) rfl rfl (hb hby d10_1)
  refine Ends.pre (T' := T1.setTop (mkF m 4 #[.val (.ref a)] [(.ref y)])) (fun t k => st1 _ k) ?_
  refine Ends.pre (fun t k => XS.aloadN X1.here hx rfl (hb hby d10_4) rfl rfl k) ?_
  obtain ⟨T2, X2, e2, st2⟩ := getF X1 hx hZ hown (host := "") (Or.inl (hw _ (List.mem_of_getElem? (i := 54) rfl))) Via.refl e1 F_holder (g := (mkF m 5 #[.val (.ref a)] [(.ref a), (.ref y)])) rfl rfl (hb hby d10_5)
  refine Ends.pre (T' := T2.setTop (mkF m 8 #[.val (.ref a)] [(.ref x), (.ref y)])) (fun t k => st2 _ k) ?_
  obtain ⟨cq3, kq3, q3a, q3b, q3c⟩ := isOf hZ e2 Ey
  obtain ⟨_, _, ⟨T3, L3, k3, n3⟩, -, X3, ⟨Lc3, hQ3, l3, y3, z3⟩, st3⟩ := X2.virtualBack hx (y := (⟨"java/lang/String", "equals", "(Ljava/lang/Object;)Z"⟩ : MethodName)) (z := (⟨"java/lang/String", "equals", "(Ljava/lang/Object;)Z"⟩ : MethodName)) hown (mvT hZ (hw _ (List.mem_of_getElem? (i := 65) rfl))) (mvT hZ (hw _ (List.mem_of_getElem? (i := 66) rfl))) (notFace_of_selects (args := #[]) (mvT hZ (hw _ (List.mem_of_getElem? (i := 68) rfl)))) (mvT hZ (hw _ (List.mem_of_getElem? (i := 68) rfl))) (mvT hZ (hw _ (List.mem_of_getElem? (i := 67) rfl))) (by decide) (StrChars.Road.eqW (W := 0) hZ (own_heq hw) (kI := 4) (hw _ (List.mem_of_getElem? (i := 2) rfl)) Ey Vy Cy Ay hcd_y hbd_y hl_y Ex Vx Cx Ax hcd_x hbd_x hl_x SCS hcz (by decide) (by decide)) q3a q3c (g := (mkF m 8 #[.val (.ref a)] [(.ref x), (.ref y)])) rfl (by rw [hml]; rfl) (Steps.refl _) (argsL := [(.ref x)]) (rest := []) (lenOf pd_3 rfl) rfl (by show 2 * 0 + _ ≤ _; exact Nat.le_of_eq rfl) (hb hby d10_8) (fun _ _ => ⟨rfl, e2, (by decide : 0 + 0 ≤ _), (by decide : 0 + 0 ≤ _)⟩)
  dsimp only [Pt.U, Pt.locs, Pt.cells, Pt.slots] at X3 l3 y3 z3 st3 hQ3
  subst l3 y3 z3
  obtain ⟨hcase3, rfl, eh3⟩ := hQ3
  have N3 := Fr.app N0 (Fr.nil n0)
  have hv3 : _ = some (Value.int 0) := hcase3.elim (fun q => absurd q.2 heq) (fun q => q.1)
  subst hv3
  refine Ends.pre (T' := T3.setTop (mkF m 11 #[.val (.ref a)] [(.int (0 : Int32))])) (fun t k => st3.trans k) ?_
  exact Ends.ret (w := (.int (0 : Int32))) X3 hx Bd.notSynchronized Bd.returns rfl (Or.inl ⟨rfl, Or.inr (Or.inl rfl), _, rfl⟩) (hb hby d10_11) eh3 ⟨rfl, N3, rfl⟩ (by decide) (by decide)
theorem pd_4 : parseMethodDescriptor "([C)V" = some ⟨[(.array .char)], none⟩ := by decide +kernel
theorem pd_5 : parseMethodDescriptor "(Ljava/lang/String;Lcom/example/static_permission_checker/staticpermissionchecker/core/FlowConstraint$Access;Ljava/lang/String;)V" = some ⟨[(.object "java/lang/String"), (.object "com/example/static_permission_checker/staticpermissionchecker/core/FlowConstraint$Access"), (.object "java/lang/String")], none⟩ := by decide +kernel
theorem pd_6 : parseMethodDescriptor "()Z" = some ⟨[], some .boolean⟩ := by decide +kernel
theorem pn_4 : plainName "com/example/static_permission_checker/staticpermissionchecker/core/FlowConstraintHoldsPinLaw" = true := by first | (simp [plainName, overriddenIn]; done) | decide +kernel
theorem ef_rm0 (m : MethodId) (x0 : Int32) (x1 : Int32) (x2 : Int32) : entryFrame m #[(.int x0), (.int x1), (.int x2)] maxLocals = mkF m 0 #[.val (.int x0), .val (.int x1), .val (.int x2), .unset, .unset, .unset, .unset, .unset, .unset, .unset, .unset, .unset, .unset, .unset, .unset, .unset, .unset, .unset, .unset] [] := by first | (simp [entryFrame, mkF, argsToLocals, Value.category, maxLocals]; done) | rfl
def Q_rm0 (Z : State) (x0 : Int32) (x1 : Int32) (x2 : Int32) (wREAD : Addr) (wWRITE : Addr) (cz : Int32) (fm : Value) (h0 : Heap) (n0 : Nat) (v : Option Value) (h : Heap) (L : List Loc) : Prop := v = some (.int 1) ∧ Fr n0 L
set_option maxRecDepth 65536 in
set_option maxHeartbeats 40000000 in
theorem rm0 (l : Launch) (Z : State) (a0 : Array Value) (hw : ∀ d ∈ tables_1, d.before a0 Z = true) (ws : List Jvm.Cond) (x0 : Int32) (x1 : Int32) (x2 : Int32) (wREAD : Addr) (wWRITE : Addr) (cz : Int32) (fm : Value) (h0 : Heap) (n0 : Nat) (Z0 : n0 ≤ h0.size) (S_READ : Sta Z h0 "com/example/static_permission_checker/staticpermissionchecker/core/FlowConstraint$Access" "READ" "Lcom/example/static_permission_checker/staticpermissionchecker/core/FlowConstraint$Access;" (.ref wREAD)) (S_WRITE : Sta Z h0 "com/example/static_permission_checker/staticpermissionchecker/core/FlowConstraint$Access" "WRITE" "Lcom/example/static_permission_checker/staticpermissionchecker/core/FlowConstraint$Access;" (.ref wWRITE)) (SCS : Sta Z h0 "java/lang/String" "COMPACT_STRINGS" "Z" (.int cz)) (hcz : ¬ cz = 0) (SFM : Sta Z h0 "jdk/internal/util/Preconditions" "SIOOBE_FORMATTER" "Ljava/util/function/BiFunction;" fm) (hfm : fm.isRef = true) :
    MetFree l x (head1 (Jvm.Cond.code x code maxLocals ret :: ws) room_1) (fun aa_ U => aa_ = #[(.int x0), (.int x1), (.int x2)] ∧ Z.Warmed39 U.vm ∧ U.heap = h0 ∧ CHv Z consts_1 U.vm h0) (fun _ _ _ _ _ => True) (fun _ U o U' => ∃ v L, o = .returned v ∧ Q_rm0 Z x0 x1 x2 wREAD wWRITE cz fm h0 n0 v U'.heap L ∧ CHr Z consts_1 U.vm U.heap U'.vm U'.heap ∧ ReturnedEndW U o U' L room_1.cells room_1.slots) := by
  refine MetFree.of_bodySF (plainFor_of_name pn_4) hisR ?_
  intro p e s m args below meth c s₁ Bd hml0 hP hK
  obtain ⟨rfl, hZ, hh, CH0⟩ := hP
  have hx := Bd.exec
  have hby := Bd.bytes
  have hml : c.maxLocals = 19 := hml0
  have hown : s.vm.findClass "com/example/static_permission_checker/staticpermissionchecker/core/FlowConstraintHoldsPinLaw" = some m.cls := findClass_of_methodNamed Bd.named
  have hnm := (name_of_methodNamed Bd.named Bd.method).1
  have X0 : Stand p l e room_1 (s.setVm s.vm) m #[(.int x0), (.int x1), (.int x2)] below meth c s₁ [] 0 0 := Stand.of_body Bd
  have e0 : s₁.heap = h0 := by rw [← hh, Bd.state]; rfl
  have N0 := Fr.nil n0
  have hS0 : s.Since s.vm 0 := own_since s
  have hk0 : 0 ≤ h0.size := Nat.zero_le _
  have CR0 := CHr.refl CH0
  have hEL := own_EW hw
  have wS := own_wS hw
  have hZo := hZ
  refine Ends.cast (P := EndW s room_1 Z consts_1 (Q_rm0 Z x0 x1 x2 wREAD wWRITE cz fm h0 n0)) (ef_rm0 m x0 x1 x2) ?_
  refine Ends.pre (fun t k => XS.iloadN X0.here hx rfl (hb hby at_0) rfl k) ?_
  refine Ends.pre (fun t k => XS.iconst X0.here hx rfl (hb hby at_1) k) ?_
  refine Ends.pre (fun t k => XS.iand X0.here hx rfl (hb hby at_2) rfl k) ?_
  refine Ends.pre (fun t k => XS.iconst X0.here hx rfl (hb hby at_3) k) ?_
  refine Ends.pre (T' := s₁.setTop (mkF m 5 #[.val (.int x0), .val (.int x1), .val (.int x2), .unset, .unset, .unset, .unset, .unset, .unset, .unset, .unset, .unset, .unset, .unset, .unset, .unset, .unset, .unset, .unset] [(.int ((x2 &&& (3 : Int32)) % (3 : Int32)))])) (fun t k => iremM X0 hx rfl (hb hby at_4) rfl (by decide) k) ?_
  refine Ends.pre (fun t k => XS.istoreN (g := (mkF m 5 #[.val (.int x0), .val (.int x1), .val (.int x2), .unset, .unset, .unset, .unset, .unset, .unset, .unset, .unset, .unset, .unset, .unset, .unset, .unset, .unset, .unset, .unset] [(.int ((x2 &&& (3 : Int32)) % (3 : Int32)))])) X0.here hx rfl (hb hby at_5) rfl (l' := #[.val (.int x0), .val (.int x1), .val (.int x2), .val (.int ((x2 &&& (3 : Int32)) % (3 : Int32))), .unset, .unset, .unset, .unset, .unset, .unset, .unset, .unset, .unset, .unset, .unset, .unset, .unset, .unset, .unset]) rfl k) ?_
  generalize hv_hl : ((x2 &&& (3 : Int32)) % (3 : Int32)) = hl
  refine Ends.pre (fun t k => XS.iloadN X0.here hx rfl (hb hby at_6) rfl k) ?_
  refine Ends.pre (fun t k => XS.iconst X0.here hx rfl (hb hby at_7) k) ?_
  refine Ends.pre (fun t k => XS.iushr X0.here hx rfl (hb hby at_8) rfl k) ?_
  refine Ends.pre (fun t k => XS.iconst X0.here hx rfl (hb hby at_9) k) ?_
  refine Ends.pre (T' := s₁.setTop (mkF m 11 #[.val (.int x0), .val (.int x1), .val (.int x2), .val (.int hl), .unset, .unset, .unset, .unset, .unset, .unset, .unset, .unset, .unset, .unset, .unset, .unset, .unset, .unset, .unset] [(.int (((x2.toUInt32 >>> ((2 : Int32) &&& 31).toUInt32).toInt32) &&& (3 : Int32)))])) (fun t k => XS.iand X0.here hx rfl (hb hby at_10) rfl k) ?_
  refine Ends.pre (fun t k => XS.iconst X0.here hx rfl (hb hby at_11) k) ?_
  refine Ends.pre (T' := s₁.setTop (mkF m 13 #[.val (.int x0), .val (.int x1), .val (.int x2), .val (.int hl), .unset, .unset, .unset, .unset, .unset, .unset, .unset, .unset, .unset, .unset, .unset, .unset, .unset, .unset, .unset] [(.int ((((x2.toUInt32 >>> ((2 : Int32) &&& 31).toUInt32).toInt32) &&& (3 : Int32)) % (3 : Int32)))])) (fun t k => iremM X0 hx rfl (hb hby at_12) rfl (by decide) k) ?_
  refine Ends.pre (fun t k => XS.istore (g := (mkF m 13 #[.val (.int x0), .val (.int x1), .val (.int x2), .val (.int hl), .unset, .unset, .unset, .unset, .unset, .unset, .unset, .unset, .unset, .unset, .unset, .unset, .unset, .unset, .unset] [(.int ((((x2.toUInt32 >>> ((2 : Int32) &&& 31).toUInt32).toInt32) &&& (3 : Int32)) % (3 : Int32)))])) X0.here hx rfl (hb hby at_13) rfl (l' := #[.val (.int x0), .val (.int x1), .val (.int x2), .val (.int hl), .val (.int ((((x2.toUInt32 >>> ((2 : Int32) &&& 31).toUInt32).toInt32) &&& (3 : Int32)) % (3 : Int32))), .unset, .unset, .unset, .unset, .unset, .unset, .unset, .unset, .unset, .unset, .unset, .unset, .unset, .unset]) rfl k) ?_
  generalize hv_gl : ((((x2.toUInt32 >>> ((2 : Int32) &&& 31).toUInt32).toInt32) &&& (3 : Int32)) % (3 : Int32)) = gl
  have J28_1 : ∀ (f5 : Int32) (qf5 : f5 = 0 ∨ f5 = 1), Jvm.RoadKit.Ends p e below (EndW s room_1 Z consts_1 (Q_rm0 Z x0 x1 x2 wREAD wWRITE cz fm h0 n0)) (s₁.setTop (mkF m 28 #[.val (.int x0), .val (.int x1), .val (.int x2), .val (.int hl), .val (.int gl), .unset, .unset, .unset, .unset, .unset, .unset, .unset, .unset, .unset, .unset, .unset, .unset, .unset, .unset] [(.int f5)])) := by
    intro f5 qf5
    refine Ends.pre (fun t k => XS.istore (g := (mkF m 28 #[.val (.int x0), .val (.int x1), .val (.int x2), .val (.int hl), .val (.int gl), .unset, .unset, .unset, .unset, .unset, .unset, .unset, .unset, .unset, .unset, .unset, .unset, .unset, .unset] [(.int f5)])) X0.here hx rfl (hb hby at_28) rfl (l' := #[.val (.int x0), .val (.int x1), .val (.int x2), .val (.int hl), .val (.int gl), .val (.int f5), .unset, .unset, .unset, .unset, .unset, .unset, .unset, .unset, .unset, .unset, .unset, .unset, .unset]) rfl k) ?_
    have J43_2 : ∀ (f6 : Int32) (qf6 : f6 = 0 ∨ f6 = 1), Jvm.RoadKit.Ends p e below (EndW s room_1 Z consts_1 (Q_rm0 Z x0 x1 x2 wREAD wWRITE cz fm h0 n0)) (s₁.setTop (mkF m 43 #[.val (.int x0), .val (.int x1), .val (.int x2), .val (.int hl), .val (.int gl), .val (.int f5), .unset, .unset, .unset, .unset, .unset, .unset, .unset, .unset, .unset, .unset, .unset, .unset, .unset] [(.int f6)])) := by
      intro f6 qf6
      refine Ends.pre (fun t k => XS.istore (g := (mkF m 43 #[.val (.int x0), .val (.int x1), .val (.int x2), .val (.int hl), .val (.int gl), .val (.int f5), .unset, .unset, .unset, .unset, .unset, .unset, .unset, .unset, .unset, .unset, .unset, .unset, .unset] [(.int f6)])) X0.here hx rfl (hb hby at_43) rfl (l' := #[.val (.int x0), .val (.int x1), .val (.int x2), .val (.int hl), .val (.int gl), .val (.int f5), .val (.int f6), .unset, .unset, .unset, .unset, .unset, .unset, .unset, .unset, .unset, .unset, .unset, .unset]) rfl k) ?_
      have J59_3 : ∀ (f7 : Int32) (qf7 : f7 = 0 ∨ f7 = 1), Jvm.RoadKit.Ends p e below (EndW s room_1 Z consts_1 (Q_rm0 Z x0 x1 x2 wREAD wWRITE cz fm h0 n0)) (s₁.setTop (mkF m 59 #[.val (.int x0), .val (.int x1), .val (.int x2), .val (.int hl), .val (.int gl), .val (.int f5), .val (.int f6), .unset, .unset, .unset, .unset, .unset, .unset, .unset, .unset, .unset, .unset, .unset, .unset] [(.int f7)])) := by
        intro f7 qf7
        refine Ends.pre (fun t k => XS.istore (g := (mkF m 59 #[.val (.int x0), .val (.int x1), .val (.int x2), .val (.int hl), .val (.int gl), .val (.int f5), .val (.int f6), .unset, .unset, .unset, .unset, .unset, .unset, .unset, .unset, .unset, .unset, .unset, .unset] [(.int f7)])) X0.here hx rfl (hb hby at_59) rfl (l' := #[.val (.int x0), .val (.int x1), .val (.int x2), .val (.int hl), .val (.int gl), .val (.int f5), .val (.int f6), .val (.int f7), .unset, .unset, .unset, .unset, .unset, .unset, .unset, .unset, .unset, .unset, .unset]) rfl k) ?_
        refine Ends.pre (fun t k => XS.iloadN X0.here hx rfl (hb hby at_61) rfl k) ?_
        refine Ends.pre (T' := s₁.setTop (mkF m 65 #[.val (.int x0), .val (.int x1), .val (.int x2), .val (.int hl), .val (.int gl), .val (.int f5), .val (.int f6), .val (.int f7), .unset, .unset, .unset, .unset, .unset, .unset, .unset, .unset, .unset, .unset, .unset] [(.int (255 : Int32)), (.int x0)])) (fun t k => XS.sipush X0.here hx rfl (hb hby at_62) k) ?_
        refine Ends.pre (fun t k => XS.iand X0.here hx rfl (hb hby at_65) rfl k) ?_
        refine Ends.pre (fun t k => XS.i2c X0.here hx rfl (hb hby at_66) rfl k) ?_
        refine Ends.pre (fun t k => XS.istore (g := (mkF m 67 #[.val (.int x0), .val (.int x1), .val (.int x2), .val (.int hl), .val (.int gl), .val (.int f5), .val (.int f6), .val (.int f7), .unset, .unset, .unset, .unset, .unset, .unset, .unset, .unset, .unset, .unset, .unset] [(.int ((x0 &&& (255 : Int32)).toUInt32.toUInt16.toUInt32.toInt32))])) X0.here hx rfl (hb hby at_67) rfl (l' := #[.val (.int x0), .val (.int x1), .val (.int x2), .val (.int hl), .val (.int gl), .val (.int f5), .val (.int f6), .val (.int f7), .val (.int ((x0 &&& (255 : Int32)).toUInt32.toUInt16.toUInt32.toInt32)), .unset, .unset, .unset, .unset, .unset, .unset, .unset, .unset, .unset, .unset]) rfl k) ?_
        generalize hv_u0 : ((x0 &&& (255 : Int32)).toUInt32.toUInt16.toUInt32.toInt32) = u0
        have cu0 : ¬ u0 < 0 ∧ ¬ (255 : Int32) < u0 := hv_u0 ▸ own_ci (own_and255 _)
        refine Ends.pre (fun t k => XS.iloadN X0.here hx rfl (hb hby at_69) rfl k) ?_
        refine Ends.pre (fun t k => XS.bipush X0.here hx rfl (hb hby at_70) k) ?_
        refine Ends.pre (T' := s₁.setTop (mkF m 73 #[.val (.int x0), .val (.int x1), .val (.int x2), .val (.int hl), .val (.int gl), .val (.int f5), .val (.int f6), .val (.int f7), .val (.int u0), .unset, .unset, .unset, .unset, .unset, .unset, .unset, .unset, .unset, .unset] [(.int ((x0.toUInt32 >>> ((8 : Int32) &&& 31).toUInt32).toInt32))])) (fun t k => XS.iushr X0.here hx rfl (hb hby at_72) rfl k) ?_
        refine Ends.pre (fun t k => XS.sipush X0.here hx rfl (hb hby at_73) k) ?_
        refine Ends.pre (fun t k => XS.iand X0.here hx rfl (hb hby at_76) rfl k) ?_
        refine Ends.pre (fun t k => XS.i2c X0.here hx rfl (hb hby at_77) rfl k) ?_
        refine Ends.pre (fun t k => XS.istore (g := (mkF m 78 #[.val (.int x0), .val (.int x1), .val (.int x2), .val (.int hl), .val (.int gl), .val (.int f5), .val (.int f6), .val (.int f7), .val (.int u0), .unset, .unset, .unset, .unset, .unset, .unset, .unset, .unset, .unset, .unset] [(.int ((((x0.toUInt32 >>> ((8 : Int32) &&& 31).toUInt32).toInt32) &&& (255 : Int32)).toUInt32.toUInt16.toUInt32.toInt32))])) X0.here hx rfl (hb hby at_78) rfl (l' := #[.val (.int x0), .val (.int x1), .val (.int x2), .val (.int hl), .val (.int gl), .val (.int f5), .val (.int f6), .val (.int f7), .val (.int u0), .val (.int ((((x0.toUInt32 >>> ((8 : Int32) &&& 31).toUInt32).toInt32) &&& (255 : Int32)).toUInt32.toUInt16.toUInt32.toInt32)), .unset, .unset, .unset, .unset, .unset, .unset, .unset, .unset, .unset]) rfl k) ?_
        generalize hv_u1 : ((((x0.toUInt32 >>> ((8 : Int32) &&& 31).toUInt32).toInt32) &&& (255 : Int32)).toUInt32.toUInt16.toUInt32.toInt32) = u1
        have cu1 : ¬ u1 < 0 ∧ ¬ (255 : Int32) < u1 := hv_u1 ▸ own_ci (own_and255 _)
        have J96_4 : ∀ (v0 : Int32) (cv0 : ¬ v0 < 0 ∧ ¬ (255 : Int32) < v0), Jvm.RoadKit.Ends p e below (EndW s room_1 Z consts_1 (Q_rm0 Z x0 x1 x2 wREAD wWRITE cz fm h0 n0)) (s₁.setTop (mkF m 96 #[.val (.int x0), .val (.int x1), .val (.int x2), .val (.int hl), .val (.int gl), .val (.int f5), .val (.int f6), .val (.int f7), .val (.int u0), .val (.int u1), .unset, .unset, .unset, .unset, .unset, .unset, .unset, .unset, .unset] [(.int v0)])) := by
          intro v0 cv0
          refine Ends.pre (fun t k => XS.istore (g := (mkF m 96 #[.val (.int x0), .val (.int x1), .val (.int x2), .val (.int hl), .val (.int gl), .val (.int f5), .val (.int f6), .val (.int f7), .val (.int u0), .val (.int u1), .unset, .unset, .unset, .unset, .unset, .unset, .unset, .unset, .unset] [(.int v0)])) X0.here hx rfl (hb hby at_96) rfl (l' := #[.val (.int x0), .val (.int x1), .val (.int x2), .val (.int hl), .val (.int gl), .val (.int f5), .val (.int f6), .val (.int f7), .val (.int u0), .val (.int u1), .val (.int v0), .unset, .unset, .unset, .unset, .unset, .unset, .unset, .unset]) rfl k) ?_
          have J117_5 : ∀ (v1 : Int32) (cv1 : ¬ v1 < 0 ∧ ¬ (255 : Int32) < v1), Jvm.RoadKit.Ends p e below (EndW s room_1 Z consts_1 (Q_rm0 Z x0 x1 x2 wREAD wWRITE cz fm h0 n0)) (s₁.setTop (mkF m 117 #[.val (.int x0), .val (.int x1), .val (.int x2), .val (.int hl), .val (.int gl), .val (.int f5), .val (.int f6), .val (.int f7), .val (.int u0), .val (.int u1), .val (.int v0), .unset, .unset, .unset, .unset, .unset, .unset, .unset, .unset] [(.int v1)])) := by
            intro v1 cv1
            refine Ends.pre (T' := s₁.setTop (mkF m 119 #[.val (.int x0), .val (.int x1), .val (.int x2), .val (.int hl), .val (.int gl), .val (.int f5), .val (.int f6), .val (.int f7), .val (.int u0), .val (.int u1), .val (.int v0), .val (.int v1), .unset, .unset, .unset, .unset, .unset, .unset, .unset] [])) (fun t k => XS.istore (g := (mkF m 117 #[.val (.int x0), .val (.int x1), .val (.int x2), .val (.int hl), .val (.int gl), .val (.int f5), .val (.int f6), .val (.int f7), .val (.int u0), .val (.int u1), .val (.int v0), .unset, .unset, .unset, .unset, .unset, .unset, .unset, .unset] [(.int v1)])) X0.here hx rfl (hb hby at_117) rfl (l' := #[.val (.int x0), .val (.int x1), .val (.int x2), .val (.int hl), .val (.int gl), .val (.int f5), .val (.int f6), .val (.int f7), .val (.int u0), .val (.int u1), .val (.int v0), .val (.int v1), .unset, .unset, .unset, .unset, .unset, .unset, .unset]) rfl k) ?_
            rcases (hv_hl ▸ own_m33 _ : hl = 0 ∨ hl = 1 ∨ hl = 2) with rfl | rfl | rfl
            · refine Ends.pre (fun t k => XS.iloadN X0.here hx rfl (hb hby at_119) rfl k) ?_
              obtain ⟨T6, h6, k6, X6, e6, E6, A6, st6⟩ := newP X0 hx hZ (hw _ (List.mem_of_getElem? (i := 0) rfl)) e0 (g := (mkF m 120 #[.val (.int x0), .val (.int x1), .val (.int x2), .val (.int (0 : Int32)), .val (.int gl), .val (.int f5), .val (.int f6), .val (.int f7), .val (.int u0), .val (.int u1), .val (.int v0), .val (.int v1), .unset, .unset, .unset, .unset, .unset, .unset, .unset] [(.int (0 : Int32))])) rfl (hb hby at_120) rfl (by decide) (cap := 0) (by decide) (by decide) (by decide) (by decide)
              obtain ⟨b6, g6⟩ : ∃ z, z = h0.size := ⟨_, rfl⟩
              rw [← g6] at A6 st6
              have ge_b6 : n0 ≤ b6 := Nat.le_trans Z0 (Nat.le_of_eq g6.symm)
              have sz_b6 : h0.size ≤ b6 := Nat.le_trans (Keep.refl h0 []).1 (Nat.le_of_eq g6.symm)
              have CR6 := CHr.trans CR0 (CHr.ext E6 CH0)
              have K6 : Keep h0 h6 [] := (Keep.refl h0 []).ext E6
              have V6 : Arv Z h6 b6 k6 .char (0 : Int32) [] (.int (0 : Int32)) := (Arv.new A6 (by decide))
              refine Ends.pre (T' := T6.setTop (mkF m 122 #[.val (.int x0), .val (.int x1), .val (.int x2), .val (.int (0 : Int32)), .val (.int gl), .val (.int f5), .val (.int f6), .val (.int f7), .val (.int u0), .val (.int u1), .val (.int v0), .val (.int v1), .unset, .unset, .unset, .unset, .unset, .unset, .unset] [(.ref b6)])) (fun t k => st6 _ k) ?_
              refine Ends.pre (fun t k => XS.astore (g := (mkF m 122 #[.val (.int x0), .val (.int x1), .val (.int x2), .val (.int (0 : Int32)), .val (.int gl), .val (.int f5), .val (.int f6), .val (.int f7), .val (.int u0), .val (.int u1), .val (.int v0), .val (.int v1), .unset, .unset, .unset, .unset, .unset, .unset, .unset] [(.ref b6)])) X6.here hx rfl (hb hby at_122) rfl rfl (l' := #[.val (.int x0), .val (.int x1), .val (.int x2), .val (.int (0 : Int32)), .val (.int gl), .val (.int f5), .val (.int f6), .val (.int f7), .val (.int u0), .val (.int u1), .val (.int v0), .val (.int v1), .val (.ref b6), .unset, .unset, .unset, .unset, .unset, .unset]) rfl k) ?_
              refine Ends.pre (fun t k => XS.iloadN X6.here hx rfl (hb hby at_124) rfl k) ?_
              refine Ends.pre (T' := T6.setTop (mkF m 134 #[.val (.int x0), .val (.int x1), .val (.int x2), .val (.int (0 : Int32)), .val (.int gl), .val (.int f5), .val (.int f6), .val (.int f7), .val (.int u0), .val (.int u1), .val (.int v0), .val (.int v1), .val (.ref b6), .unset, .unset, .unset, .unset, .unset, .unset] [])) (fun t k => XS.ifYes X6.here hx rfl (pc0 := 125) (pc' := 134) rfl (hb hby at_125) rfl (by decide) (by decide) (by decide) k) ?_
              refine Ends.pre (fun t k => XS.iloadN X6.here hx rfl (hb hby at_134) rfl k) ?_
              refine Ends.pre (fun t k => XS.iconst X6.here hx rfl (hb hby at_135) k) ?_
              refine Ends.pre (T' := T6.setTop (mkF m 145 #[.val (.int x0), .val (.int x1), .val (.int x2), .val (.int (0 : Int32)), .val (.int gl), .val (.int f5), .val (.int f6), .val (.int f7), .val (.int u0), .val (.int u1), .val (.int v0), .val (.int v1), .val (.ref b6), .unset, .unset, .unset, .unset, .unset, .unset] [])) (fun t k => XS.icmpYes X6.here hx rfl (pc0 := 136) (pc' := 145) rfl (hb hby at_136) rfl (by decide) (by decide) (by decide) k) ?_
              rcases (hv_gl ▸ own_m33 _ : gl = 0 ∨ gl = 1 ∨ gl = 2) with rfl | rfl | rfl
              · refine Ends.pre (fun t k => XS.iload X6.here hx rfl (hb hby at_145) rfl k) ?_
                obtain ⟨T7, h7, k7, X7, e7, E7, A7, st7⟩ := newP X6 hx hZ (hw _ (List.mem_of_getElem? (i := 0) rfl)) e6 (g := (mkF m 147 #[.val (.int x0), .val (.int x1), .val (.int x2), .val (.int (0 : Int32)), .val (.int (0 : Int32)), .val (.int f5), .val (.int f6), .val (.int f7), .val (.int u0), .val (.int u1), .val (.int v0), .val (.int v1), .val (.ref b6), .unset, .unset, .unset, .unset, .unset, .unset] [(.int (0 : Int32))])) rfl (hb hby at_147) rfl (by decide) (cap := 0) (by decide) (by decide) (by decide) (by decide)
                obtain ⟨b7, g7⟩ : ∃ z, z = h6.size := ⟨_, rfl⟩
                rw [← g7] at A7 st7
                have ge_b7 : n0 ≤ b7 := Nat.le_trans (Nat.le_trans Z0 E6.1) (Nat.le_of_eq g7.symm)
                have sz_b7 : h0.size ≤ b7 := Nat.le_trans K6.1 (Nat.le_of_eq g7.symm)
                have CR7 := CHr.trans CR6 (CHr.ext E7 CR6.1)
                have K7 : Keep h0 h7 [] := K6.ext E7
                have V7 : Arv Z h7 b7 k7 .char (0 : Int32) [] (.int (0 : Int32)) := (Arv.new A7 (by decide))
                refine Ends.pre (T' := T7.setTop (mkF m 149 #[.val (.int x0), .val (.int x1), .val (.int x2), .val (.int (0 : Int32)), .val (.int (0 : Int32)), .val (.int f5), .val (.int f6), .val (.int f7), .val (.int u0), .val (.int u1), .val (.int v0), .val (.int v1), .val (.ref b6), .unset, .unset, .unset, .unset, .unset, .unset] [(.ref b7)])) (fun t k => st7 _ k) ?_
                refine Ends.pre (fun t k => XS.astore (g := (mkF m 149 #[.val (.int x0), .val (.int x1), .val (.int x2), .val (.int (0 : Int32)), .val (.int (0 : Int32)), .val (.int f5), .val (.int f6), .val (.int f7), .val (.int u0), .val (.int u1), .val (.int v0), .val (.int v1), .val (.ref b6), .unset, .unset, .unset, .unset, .unset, .unset] [(.ref b7)])) X7.here hx rfl (hb hby at_149) rfl rfl (l' := #[.val (.int x0), .val (.int x1), .val (.int x2), .val (.int (0 : Int32)), .val (.int (0 : Int32)), .val (.int f5), .val (.int f6), .val (.int f7), .val (.int u0), .val (.int u1), .val (.int v0), .val (.int v1), .val (.ref b6), .val (.ref b7), .unset, .unset, .unset, .unset, .unset]) rfl k) ?_
                refine Ends.pre (fun t k => XS.iload X7.here hx rfl (hb hby at_151) rfl k) ?_
                refine Ends.pre (T' := T7.setTop (mkF m 162 #[.val (.int x0), .val (.int x1), .val (.int x2), .val (.int (0 : Int32)), .val (.int (0 : Int32)), .val (.int f5), .val (.int f6), .val (.int f7), .val (.int u0), .val (.int u1), .val (.int v0), .val (.int v1), .val (.ref b6), .val (.ref b7), .unset, .unset, .unset, .unset, .unset] [])) (fun t k => XS.ifYes X7.here hx rfl (pc0 := 153) (pc' := 162) rfl (hb hby at_153) rfl (by decide) (by decide) (by decide) k) ?_
                refine Ends.pre (fun t k => XS.iload X7.here hx rfl (hb hby at_162) rfl k) ?_
                refine Ends.pre (fun t k => XS.iconst X7.here hx rfl (hb hby at_164) k) ?_
                refine Ends.pre (T' := T7.setTop (mkF m 174 #[.val (.int x0), .val (.int x1), .val (.int x2), .val (.int (0 : Int32)), .val (.int (0 : Int32)), .val (.int f5), .val (.int f6), .val (.int f7), .val (.int u0), .val (.int u1), .val (.int v0), .val (.int v1), .val (.ref b6), .val (.ref b7), .unset, .unset, .unset, .unset, .unset] [])) (fun t k => XS.icmpYes X7.here hx rfl (pc0 := 165) (pc' := 174) rfl (hb hby at_165) rfl (by decide) (by decide) (by decide) k) ?_
                rcases qf5 with rfl | rfl
                · refine Ends.pre (fun t k => XS.iload X7.here hx rfl (hb hby at_174) rfl k) ?_
                  refine Ends.pre (T' := T7.setTop (mkF m 183 #[.val (.int x0), .val (.int x1), .val (.int x2), .val (.int (0 : Int32)), .val (.int (0 : Int32)), .val (.int (0 : Int32)), .val (.int f6), .val (.int f7), .val (.int u0), .val (.int u1), .val (.int v0), .val (.int v1), .val (.ref b6), .val (.ref b7), .unset, .unset, .unset, .unset, .unset] [])) (fun t k => XS.ifYes X7.here hx rfl (pc0 := 176) (pc' := 183) rfl (hb hby at_176) rfl (by decide) (by decide) (by decide) k) ?_
                  obtain ⟨T8, h8, X8, e8, E8, A8, D8, -, st8⟩ := newO X7 hx hZ hown (hw _ (List.mem_of_getElem? (i := 1) rfl)) (hw _ (List.mem_of_getElem? (i := 2) rfl)) (hw _ (List.mem_of_getElem? (i := 3) rfl)) e7 (g := (mkF m 183 #[.val (.int x0), .val (.int x1), .val (.int x2), .val (.int (0 : Int32)), .val (.int (0 : Int32)), .val (.int (0 : Int32)), .val (.int f6), .val (.int f7), .val (.int u0), .val (.int u1), .val (.int v0), .val (.int v1), .val (.ref b6), .val (.ref b7), .unset, .unset, .unset, .unset, .unset] [])) rfl (hb hby at_183) (by decide) (by decide)
                  obtain ⟨b8, g8⟩ : ∃ z, z = h7.size := ⟨_, rfl⟩
                  rw [← g8] at A8 D8 st8
                  have ge_b8 : n0 ≤ b8 := Nat.le_trans (Nat.le_trans (Nat.le_trans Z0 E6.1) E7.1) (Nat.le_of_eq g8.symm)
                  have sz_b8 : h0.size ≤ b8 := Nat.le_trans K7.1 (Nat.le_of_eq g8.symm)
                  have CR8 := CHr.trans CR7 (CHr.ext E8 CR7.1)
                  have K8 : Keep h0 h8 [] := K7.ext E8
                  have Fd8_coder : Fld Z h8 b8 "java/lang/String" "coder" "B" (.int (0 : Int32)) := D8 (Or.inr (hw _ (List.mem_of_getElem? (i := 27) rfl))) (ty := .byte) (by decide)
                  have Fd8_value : Fld Z h8 b8 "java/lang/String" "value" "[B" .null := D8 (Or.inr (hw _ (List.mem_of_getElem? (i := 29) rfl))) (ty := (.array .byte)) (by decide)
                  refine Ends.pre (T' := T8.setTop (mkF m 186 #[.val (.int x0), .val (.int x1), .val (.int x2), .val (.int (0 : Int32)), .val (.int (0 : Int32)), .val (.int (0 : Int32)), .val (.int f6), .val (.int f7), .val (.int u0), .val (.int u1), .val (.int v0), .val (.int v1), .val (.ref b6), .val (.ref b7), .unset, .unset, .unset, .unset, .unset] [(.ref b8)])) (fun t k => st8 _ k) ?_
                  refine Ends.pre (fun t k => XS.dup X8.here hx rfl (hb hby at_186) rfl rfl k) ?_
                  refine Ends.pre (fun t k => XS.aload X8.here hx rfl (hb hby at_187) rfl rfl k) ?_
                  have F9 : Arv Z h8 b6 k6 .char (0 : Int32) [] (.int (0 : Int32)) := (Arv.ext (Arv.ext V6 E7) E8)
                  obtain ⟨_, _, ⟨T10, L10, k10, n10⟩, -, Xa10, hSa10, ga10, ⟨Lc10, hQ10, l10, y10, z10, CRc10⟩, st10⟩ := X8.specialBackS hx (y := (⟨"java/lang/String", "<init>", "([C)V"⟩ : MethodName)) rfl hown (mvT hZ (hw _ (List.mem_of_getElem? (i := 4) rfl))) (mvT hZ (hw _ (List.mem_of_getElem? (i := 5) rfl))) (mvT hZ (hw _ (List.mem_of_getElem? (i := 6) rfl))) (by decide) (backOfSH (W := 1) (rm_e1 l Z a0 hw [] b8 b6 k6 h8 n0 (Nat.le_trans (Nat.le_trans (Nat.le_trans Z0 E6.1) E7.1) E8.1) A8 Fd8_value Fd8_coder ge_b8 F9) hZ (hw _ (List.mem_of_getElem? (i := 6) rfl)) (hw _ (List.mem_of_getElem? (i := 3) rfl)) (by decide) (by decide) hEL CR8.1) (g := (mkF m 189 #[.val (.int x0), .val (.int x1), .val (.int x2), .val (.int (0 : Int32)), .val (.int (0 : Int32)), .val (.int (0 : Int32)), .val (.int f6), .val (.int f7), .val (.int u0), .val (.int u1), .val (.int v0), .val (.int v1), .val (.ref b6), .val (.ref b7), .unset, .unset, .unset, .unset, .unset] [(.ref b6), (.ref b8), (.ref b8)])) rfl (by rw [hml]; rfl) (Steps.refl _) (a := b8) (argsL := [(.ref b6)]) (rest := [(.ref b8)]) (lenOf pd_4 rfl) rfl (by show 2 * 0 + _ ≤ _; exact Nat.le_of_eq rfl) (hb hby at_189) (fun _ _ => ⟨rfl, e8, (by decide : 3 + 4 ≤ _), (by decide : 4 + 8 ≤ _)⟩)
                  dsimp only [Pt.U, Pt.locs, Pt.cells, Pt.slots] at Xa10 hSa10 ga10 l10 y10 z10 st10 hQ10 CRc10
                  subst l10 y10 z10
                  obtain ⟨X10, hS10, hZ10, hown10⟩ := rebS hS0 (n1 := T8.heap.size) (by rw [e8]; exact (Nat.le_trans (Nat.le_trans (Nat.le_trans hk0 E6.1) E7.1) E8.1)) Xa10 hSa10 ga10 hZ hown
                  obtain ⟨rfl, N10q, Kc10, Es10, Cs10, t10, kb10, Vs10, As10⟩ := hQ10
                  have N10 := Fr.app N0 N10q
                  have K10 : Keep h0 T10.heap [] := K8.trans Kc10 (allS (Or.inr sz_b8) all0)
                  have CR10 := CHr.trans CR8 CRc10
                  have hcd10 : StrChars.Road.CodA ([] : List Int32) 0 (0 : Int32) [] := own_lit rfl rfl own_al0
                  have hbd10 : ∀ c ∈ ([] : List Int32), ¬ c < 0 ∧ ¬ (65535 : Int32) < c := own_al0
                  refine Ends.pre (T' := T10.setTop (mkF m 192 #[.val (.int x0), .val (.int x1), .val (.int x2), .val (.int (0 : Int32)), .val (.int (0 : Int32)), .val (.int (0 : Int32)), .val (.int f6), .val (.int f7), .val (.int u0), .val (.int u1), .val (.int v0), .val (.int v1), .val (.ref b6), .val (.ref b7), .unset, .unset, .unset, .unset, .unset] [(.ref b8)])) (fun t k => st10.trans k) ?_
                  refine Ends.pre (fun t k => XS.astore (g := (mkF m 192 #[.val (.int x0), .val (.int x1), .val (.int x2), .val (.int (0 : Int32)), .val (.int (0 : Int32)), .val (.int (0 : Int32)), .val (.int f6), .val (.int f7), .val (.int u0), .val (.int u1), .val (.int v0), .val (.int v1), .val (.ref b6), .val (.ref b7), .unset, .unset, .unset, .unset, .unset] [(.ref b8)])) X10.here hx rfl (hb hby at_192) rfl rfl (l' := #[.val (.int x0), .val (.int x1), .val (.int x2), .val (.int (0 : Int32)), .val (.int (0 : Int32)), .val (.int (0 : Int32)), .val (.int f6), .val (.int f7), .val (.int u0), .val (.int u1), .val (.int v0), .val (.int v1), .val (.ref b6), .val (.ref b7), .val (.ref b8), .unset, .unset, .unset, .unset]) rfl k) ?_
                  obtain ⟨T11, h11, X11, e11, E11, A11, D11, -, st11⟩ := newO X10 hx hZ10 hown10 (hw _ (List.mem_of_getElem? (i := 1) rfl)) (hw _ (List.mem_of_getElem? (i := 2) rfl)) (hw _ (List.mem_of_getElem? (i := 3) rfl)) rfl (g := (mkF m 194 #[.val (.int x0), .val (.int x1), .val (.int x2), .val (.int (0 : Int32)), .val (.int (0 : Int32)), .val (.int (0 : Int32)), .val (.int f6), .val (.int f7), .val (.int u0), .val (.int u1), .val (.int v0), .val (.int v1), .val (.ref b6), .val (.ref b7), .val (.ref b8), .unset, .unset, .unset, .unset] [])) rfl (hb hby at_194) (by decide) (by decide)
                  obtain ⟨b11, g11⟩ : ∃ z, z = T10.heap.size := ⟨_, rfl⟩
                  rw [← g11] at A11 D11 st11
                  have ge_b11 : n0 ≤ b11 := Nat.le_trans (Nat.le_trans (Nat.le_trans (Nat.le_trans (Nat.le_trans Z0 E6.1) E7.1) E8.1) Kc10.1) (Nat.le_of_eq g11.symm)
                  have sz_b11 : h0.size ≤ b11 := Nat.le_trans K10.1 (Nat.le_of_eq g11.symm)
                  have CR11 := CHr.trans CR10 (CHr.ext E11 CR10.1)
                  have K11 : Keep h0 h11 [] := K10.ext E11
                  have Fd11_coder : Fld Z h11 b11 "java/lang/String" "coder" "B" (.int (0 : Int32)) := D11 (Or.inr (hw _ (List.mem_of_getElem? (i := 27) rfl))) (ty := .byte) (by decide)
                  have Fd11_value : Fld Z h11 b11 "java/lang/String" "value" "[B" .null := D11 (Or.inr (hw _ (List.mem_of_getElem? (i := 29) rfl))) (ty := (.array .byte)) (by decide)
                  refine Ends.pre (T' := T11.setTop (mkF m 197 #[.val (.int x0), .val (.int x1), .val (.int x2), .val (.int (0 : Int32)), .val (.int (0 : Int32)), .val (.int (0 : Int32)), .val (.int f6), .val (.int f7), .val (.int u0), .val (.int u1), .val (.int v0), .val (.int v1), .val (.ref b6), .val (.ref b7), .val (.ref b8), .unset, .unset, .unset, .unset] [(.ref b11)])) (fun t k => st11 _ k) ?_
                  refine Ends.pre (fun t k => XS.dup X11.here hx rfl (hb hby at_197) rfl rfl k) ?_
                  refine Ends.pre (fun t k => XS.aload X11.here hx rfl (hb hby at_198) rfl rfl k) ?_
                  have F12 : Arv Z h11 b7 k7 .char (0 : Int32) [] (.int (0 : Int32)) := (Arv.ext ((Arv.ext V7 E8).keep Kc10 (ninS (Nat.ne_of_lt (Nat.lt_of_lt_of_le V7.lt (Nat.le_of_eq g8.symm))) nin0)) E11)
                  obtain ⟨_, _, ⟨T13, L13, k13, n13⟩, -, Xa13, hSa13, ga13, ⟨Lc13, hQ13, l13, y13, z13, CRc13⟩, st13⟩ := X11.specialBackS hx (y := (⟨"java/lang/String", "<init>", "([C)V"⟩ : MethodName)) rfl hown10 (mvT hZ10 (hw _ (List.mem_of_getElem? (i := 4) rfl))) (mvT hZ10 (hw _ (List.mem_of_getElem? (i := 5) rfl))) (mvT hZ10 (hw _ (List.mem_of_getElem? (i := 6) rfl))) (by decide) (backOfSH (W := 1) (rm_e1 l Z a0 hw [] b11 b7 k7 h11 n0 (Nat.le_trans (Nat.le_trans (Nat.le_trans (Nat.le_trans (Nat.le_trans Z0 E6.1) E7.1) E8.1) Kc10.1) E11.1) A11 Fd11_value Fd11_coder ge_b11 F12) hZ10 (hw _ (List.mem_of_getElem? (i := 6) rfl)) (hw _ (List.mem_of_getElem? (i := 3) rfl)) (by decide) (by decide) hEL CR11.1) (g := (mkF m 200 #[.val (.int x0), .val (.int x1), .val (.int x2), .val (.int (0 : Int32)), .val (.int (0 : Int32)), .val (.int (0 : Int32)), .val (.int f6), .val (.int f7), .val (.int u0), .val (.int u1), .val (.int v0), .val (.int v1), .val (.ref b6), .val (.ref b7), .val (.ref b8), .unset, .unset, .unset, .unset] [(.ref b7), (.ref b11), (.ref b11)])) rfl (by rw [hml]; rfl) (Steps.refl _) (a := b11) (argsL := [(.ref b7)]) (rest := [(.ref b11)]) (lenOf pd_4 rfl) rfl (by show 2 * 0 + _ ≤ _; exact Nat.le_of_eq rfl) (hb hby at_200) (fun _ _ => ⟨rfl, e11, (by decide : 8 + 4 ≤ _), (by decide : 16 + 8 ≤ _)⟩)
                  dsimp only [Pt.U, Pt.locs, Pt.cells, Pt.slots] at Xa13 hSa13 ga13 l13 y13 z13 st13 hQ13 CRc13
                  subst l13 y13 z13
                  obtain ⟨X13, hS13, hZ13, hown13⟩ := rebS hS10 (n1 := T11.heap.size) (by rw [e11]; exact (Nat.le_trans (Nat.le_refl _) E11.1)) Xa13 hSa13 ga13 hZ10 hown10
                  obtain ⟨rfl, N13q, Kc13, Es13, Cs13, t13, kb13, Vs13, As13⟩ := hQ13
                  have N13 := Fr.app N10 N13q
                  have K13 : Keep h0 T13.heap [] := K11.trans Kc13 (allS (Or.inr sz_b11) all0)
                  have CR13 := CHr.trans CR11 CRc13
                  have hcd13 : StrChars.Road.CodA ([] : List Int32) 0 (0 : Int32) [] := own_lit rfl rfl own_al0
                  have hbd13 : ∀ c ∈ ([] : List Int32), ¬ c < 0 ∧ ¬ (65535 : Int32) < c := own_al0
                  refine Ends.pre (T' := T13.setTop (mkF m 203 #[.val (.int x0), .val (.int x1), .val (.int x2), .val (.int (0 : Int32)), .val (.int (0 : Int32)), .val (.int (0 : Int32)), .val (.int f6), .val (.int f7), .val (.int u0), .val (.int u1), .val (.int v0), .val (.int v1), .val (.ref b6), .val (.ref b7), .val (.ref b8), .unset, .unset, .unset, .unset] [(.ref b11)])) (fun t k => st13.trans k) ?_
                  refine Ends.pre (fun t k => XS.astore (g := (mkF m 203 #[.val (.int x0), .val (.int x1), .val (.int x2), .val (.int (0 : Int32)), .val (.int (0 : Int32)), .val (.int (0 : Int32)), .val (.int f6), .val (.int f7), .val (.int u0), .val (.int u1), .val (.int v0), .val (.int v1), .val (.ref b6), .val (.ref b7), .val (.ref b8), .unset, .unset, .unset, .unset] [(.ref b11)])) X13.here hx rfl (hb hby at_203) rfl rfl (l' := #[.val (.int x0), .val (.int x1), .val (.int x2), .val (.int (0 : Int32)), .val (.int (0 : Int32)), .val (.int (0 : Int32)), .val (.int f6), .val (.int f7), .val (.int u0), .val (.int u1), .val (.int v0), .val (.int v1), .val (.ref b6), .val (.ref b7), .val (.ref b8), .val (.ref b11), .unset, .unset, .unset]) rfl k) ?_
                  have J219_14 : ∀ (TJ14 : State) (XJ14 : SS X13 TJ14) (eJ14 : TJ14.heap = T13.heap) (ac : Addr), Jvm.RoadKit.Ends p e below (EndW s room_1 Z consts_1 (Q_rm0 Z x0 x1 x2 wREAD wWRITE cz fm h0 n0)) (TJ14.setTop (mkF m 219 #[.val (.int x0), .val (.int x1), .val (.int x2), .val (.int (0 : Int32)), .val (.int (0 : Int32)), .val (.int (0 : Int32)), .val (.int f6), .val (.int f7), .val (.int u0), .val (.int u1), .val (.int v0), .val (.int v1), .val (.ref b6), .val (.ref b7), .val (.ref b8), .val (.ref b11), .unset, .unset, .unset] [(.ref ac)])) := by
                    intro TJ14 XJ14 eJ14 ac
                    unfold SS at XJ14
                    refine Ends.pre (fun t k => XS.astore (g := (mkF m 219 #[.val (.int x0), .val (.int x1), .val (.int x2), .val (.int (0 : Int32)), .val (.int (0 : Int32)), .val (.int (0 : Int32)), .val (.int f6), .val (.int f7), .val (.int u0), .val (.int u1), .val (.int v0), .val (.int v1), .val (.ref b6), .val (.ref b7), .val (.ref b8), .val (.ref b11), .unset, .unset, .unset] [(.ref ac)])) XJ14.here hx rfl (hb hby at_219) rfl rfl (l' := #[.val (.int x0), .val (.int x1), .val (.int x2), .val (.int (0 : Int32)), .val (.int (0 : Int32)), .val (.int (0 : Int32)), .val (.int f6), .val (.int f7), .val (.int u0), .val (.int u1), .val (.int v0), .val (.int v1), .val (.ref b6), .val (.ref b7), .val (.ref b8), .val (.ref b11), .val (.ref ac), .unset, .unset]) rfl k) ?_
                    obtain ⟨T15, h15, X15, e15, E15, A15, D15, -, st15⟩ := newO XJ14 hx hZ13 hown13 (hw _ (List.mem_of_getElem? (i := 36) rfl)) (hw _ (List.mem_of_getElem? (i := 37) rfl)) (hw _ (List.mem_of_getElem? (i := 38) rfl)) eJ14 (g := (mkF m 221 #[.val (.int x0), .val (.int x1), .val (.int x2), .val (.int (0 : Int32)), .val (.int (0 : Int32)), .val (.int (0 : Int32)), .val (.int f6), .val (.int f7), .val (.int u0), .val (.int u1), .val (.int v0), .val (.int v1), .val (.ref b6), .val (.ref b7), .val (.ref b8), .val (.ref b11), .val (.ref ac), .unset, .unset] [])) rfl (hb hby at_221) (by decide) (by decide)
                    obtain ⟨b15, g15⟩ : ∃ z, z = T13.heap.size := ⟨_, rfl⟩
                    rw [← g15] at A15 D15 st15
                    have ge_b15 : n0 ≤ b15 := Nat.le_trans (Nat.le_trans (Nat.le_trans (Nat.le_trans (Nat.le_trans (Nat.le_trans (Nat.le_trans Z0 E6.1) E7.1) E8.1) Kc10.1) E11.1) Kc13.1) (Nat.le_of_eq g15.symm)
                    have sz_b15 : h0.size ≤ b15 := Nat.le_trans K13.1 (Nat.le_of_eq g15.symm)
                    have CR15 := CHr.trans CR13 (CHr.ext E15 CR13.1)
                    have K15 : Keep h0 h15 [] := K13.ext E15
                    have Fd15_holder : Fld Z h15 b15 "com/example/static_permission_checker/staticpermissionchecker/core/FlowConstraint" "holder" "Ljava/lang/String;" .null := D15 (Or.inr (hw _ (List.mem_of_getElem? (i := 55) rfl))) (ty := (.object "java/lang/String")) (by decide)
                    have Fd15_access : Fld Z h15 b15 "com/example/static_permission_checker/staticpermissionchecker/core/FlowConstraint" "access" "Lcom/example/static_permission_checker/staticpermissionchecker/core/FlowConstraint$Access;" .null := D15 (Or.inr (hw _ (List.mem_of_getElem? (i := 57) rfl))) (ty := (.object "com/example/static_permission_checker/staticpermissionchecker/core/FlowConstraint$Access")) (by decide)
                    have Fd15_guard : Fld Z h15 b15 "com/example/static_permission_checker/staticpermissionchecker/core/FlowConstraint" "guard" "Ljava/lang/String;" .null := D15 (Or.inr (hw _ (List.mem_of_getElem? (i := 59) rfl))) (ty := (.object "java/lang/String")) (by decide)
                    refine Ends.pre (T' := T15.setTop (mkF m 224 #[.val (.int x0), .val (.int x1), .val (.int x2), .val (.int (0 : Int32)), .val (.int (0 : Int32)), .val (.int (0 : Int32)), .val (.int f6), .val (.int f7), .val (.int u0), .val (.int u1), .val (.int v0), .val (.int v1), .val (.ref b6), .val (.ref b7), .val (.ref b8), .val (.ref b11), .val (.ref ac), .unset, .unset] [(.ref b15)])) (fun t k => st15 _ k) ?_
                    refine Ends.pre (fun t k => XS.dup X15.here hx rfl (hb hby at_224) rfl rfl k) ?_
                    refine Ends.pre (fun t k => XS.aload X15.here hx rfl (hb hby at_225) rfl rfl k) ?_
                    refine Ends.pre (fun t k => XS.aload X15.here hx rfl (hb hby at_227) rfl rfl k) ?_
                    refine Ends.pre (fun t k => XS.aload X15.here hx rfl (hb hby at_229) rfl rfl k) ?_
                    obtain ⟨_, _, ⟨T16, L16, k16, n16⟩, -, Xa16, hSa16, ga16, ⟨Lc16, hQ16, l16, y16, z16, CRc16⟩, st16⟩ := X15.specialBackS hx (y := (⟨"com/example/static_permission_checker/staticpermissionchecker/core/FlowConstraint", "<init>", "(Ljava/lang/String;Lcom/example/static_permission_checker/staticpermissionchecker/core/FlowConstraint$Access;Ljava/lang/String;)V"⟩ : MethodName)) rfl hown13 (mvT hZ13 (hw _ (List.mem_of_getElem? (i := 39) rfl))) (mvT hZ13 (hw _ (List.mem_of_getElem? (i := 40) rfl))) (mvT hZ13 (hw _ (List.mem_of_getElem? (i := 41) rfl))) (by decide) (backOfSH (W := 1) (rm7r l Z a0 hw [] b15 b8 ac b11 h15 n0 (Nat.le_trans (Nat.le_trans (Nat.le_trans (Nat.le_trans (Nat.le_trans (Nat.le_trans (Nat.le_trans Z0 E6.1) E7.1) E8.1) Kc10.1) E11.1) Kc13.1) E15.1) A15 ge_b15 Fd15_holder Fd15_access Fd15_guard) hZ13 (hw _ (List.mem_of_getElem? (i := 41) rfl)) (hw _ (List.mem_of_getElem? (i := 38) rfl)) (by decide) (by decide) hEL CR15.1) (g := (mkF m 231 #[.val (.int x0), .val (.int x1), .val (.int x2), .val (.int (0 : Int32)), .val (.int (0 : Int32)), .val (.int (0 : Int32)), .val (.int f6), .val (.int f7), .val (.int u0), .val (.int u1), .val (.int v0), .val (.int v1), .val (.ref b6), .val (.ref b7), .val (.ref b8), .val (.ref b11), .val (.ref ac), .unset, .unset] [(.ref b11), (.ref ac), (.ref b8), (.ref b15), (.ref b15)])) rfl (by rw [hml]; rfl) (Steps.refl _) (a := b15) (argsL := [(.ref b8), (.ref ac), (.ref b11)]) (rest := [(.ref b15)]) (lenOf pd_5 rfl) rfl (by show 2 * 0 + _ ≤ _; exact Nat.le_of_eq rfl) (hb hby at_231) (fun _ _ => ⟨rfl, e15, (by decide : 13 + 4 ≤ _), (by decide : 27 + 52 ≤ _)⟩)
                    dsimp only [Pt.U, Pt.locs, Pt.cells, Pt.slots] at Xa16 hSa16 ga16 l16 y16 z16 st16 hQ16 CRc16
                    subst l16 y16 z16
                    obtain ⟨X16, hS16, hZ16, hown16⟩ := rebS hS13 (n1 := T15.heap.size) (by rw [e15]; exact (Nat.le_trans (Nat.le_refl _) E15.1)) Xa16 hSa16 ga16 hZ13 hown13
                    obtain ⟨rfl, N16q, Kc16, Ec16, Fh16, Fg16⟩ := hQ16
                    have N16 := Fr.app N13 N16q
                    have K16 : Keep h0 T16.heap [] := K15.trans Kc16 (allS (Or.inr sz_b15) all0)
                    have CR16 := CHr.trans CR15 CRc16
                    refine Ends.pre (T' := T16.setTop (mkF m 234 #[.val (.int x0), .val (.int x1), .val (.int x2), .val (.int (0 : Int32)), .val (.int (0 : Int32)), .val (.int (0 : Int32)), .val (.int f6), .val (.int f7), .val (.int u0), .val (.int u1), .val (.int v0), .val (.int v1), .val (.ref b6), .val (.ref b7), .val (.ref b8), .val (.ref b11), .val (.ref ac), .unset, .unset] [(.ref b15)])) (fun t k => st16.trans k) ?_
                    refine Ends.pre (fun t k => XS.astore (g := (mkF m 234 #[.val (.int x0), .val (.int x1), .val (.int x2), .val (.int (0 : Int32)), .val (.int (0 : Int32)), .val (.int (0 : Int32)), .val (.int f6), .val (.int f7), .val (.int u0), .val (.int u1), .val (.int v0), .val (.int v1), .val (.ref b6), .val (.ref b7), .val (.ref b8), .val (.ref b11), .val (.ref ac), .unset, .unset] [(.ref b15)])) X16.here hx rfl (hb hby at_234) rfl rfl (l' := #[.val (.int x0), .val (.int x1), .val (.int x2), .val (.int (0 : Int32)), .val (.int (0 : Int32)), .val (.int (0 : Int32)), .val (.int f6), .val (.int f7), .val (.int u0), .val (.int u1), .val (.int v0), .val (.int v1), .val (.ref b6), .val (.ref b7), .val (.ref b8), .val (.ref b11), .val (.ref ac), .val (.ref b15), .unset]) rfl k) ?_
                    refine Ends.pre (fun t k => XS.iload X16.here hx rfl (hb hby at_236) rfl k) ?_
                    refine Ends.pre (T' := T16.setTop (mkF m 241 #[.val (.int x0), .val (.int x1), .val (.int x2), .val (.int (0 : Int32)), .val (.int (0 : Int32)), .val (.int (0 : Int32)), .val (.int f6), .val (.int f7), .val (.int u0), .val (.int u1), .val (.int v0), .val (.int v1), .val (.ref b6), .val (.ref b7), .val (.ref b8), .val (.ref b11), .val (.ref ac), .val (.ref b15), .unset] [])) (fun t k => XS.ifNo X16.here hx rfl (hb hby at_238) rfl (by decide) k) ?_
                    refine Ends.pre (fun t k => XS.iloadN X16.here hx rfl (hb hby at_241) rfl k) ?_
                    refine Ends.pre (fun t k => XS.iload X16.here hx rfl (hb hby at_242) rfl k) ?_
                    refine Ends.pre (T' := T16.setTop (mkF m 247 #[.val (.int x0), .val (.int x1), .val (.int x2), .val (.int (0 : Int32)), .val (.int (0 : Int32)), .val (.int (0 : Int32)), .val (.int f6), .val (.int f7), .val (.int u0), .val (.int u1), .val (.int v0), .val (.int v1), .val (.ref b6), .val (.ref b7), .val (.ref b8), .val (.ref b11), .val (.ref ac), .val (.ref b15), .unset] [])) (fun t k => XS.icmpNo X16.here hx rfl (hb hby at_244) rfl (by decide) k) ?_
                    refine Ends.pre (fun t k => XS.iloadN X16.here hx rfl (hb hby at_247) rfl k) ?_
                    refine Ends.pre (fun t k => XS.iconst X16.here hx rfl (hb hby at_248) k) ?_
                    refine Ends.pre (T' := T16.setTop (mkF m 259 #[.val (.int x0), .val (.int x1), .val (.int x2), .val (.int (0 : Int32)), .val (.int (0 : Int32)), .val (.int (0 : Int32)), .val (.int f6), .val (.int f7), .val (.int u0), .val (.int u1), .val (.int v0), .val (.int v1), .val (.ref b6), .val (.ref b7), .val (.ref b8), .val (.ref b11), .val (.ref ac), .val (.ref b15), .unset] [])) (fun t k => XS.icmpYes X16.here hx rfl (pc0 := 249) (pc' := 259) rfl (hb hby at_249) rfl (by decide) (by decide) (by decide) k) ?_
                    refine Ends.pre (fun t k => XS.iloadN X16.here hx rfl (hb hby at_259) rfl k) ?_
                    refine Ends.pre (fun t k => XS.iconst X16.here hx rfl (hb hby at_260) k) ?_
                    refine Ends.pre (T' := T16.setTop (mkF m 271 #[.val (.int x0), .val (.int x1), .val (.int x2), .val (.int (0 : Int32)), .val (.int (0 : Int32)), .val (.int (0 : Int32)), .val (.int f6), .val (.int f7), .val (.int u0), .val (.int u1), .val (.int v0), .val (.int v1), .val (.ref b6), .val (.ref b7), .val (.ref b8), .val (.ref b11), .val (.ref ac), .val (.ref b15), .unset] [])) (fun t k => XS.icmpYes X16.here hx rfl (pc0 := 261) (pc' := 271) rfl (hb hby at_261) rfl (by decide) (by decide) (by decide) k) ?_
                    refine Ends.pre (fun t k => XS.iconst X16.here hx rfl (hb hby at_271) k) ?_
                    refine Ends.pre (fun t k => XS.goto X16.here hx rfl (pc0 := 272) (pc' := 276) rfl (hb hby at_272) (by decide) (by decide) k) ?_
                    refine Ends.pre (fun t k => XS.istore (g := (mkF m 276 #[.val (.int x0), .val (.int x1), .val (.int x2), .val (.int (0 : Int32)), .val (.int (0 : Int32)), .val (.int (0 : Int32)), .val (.int f6), .val (.int f7), .val (.int u0), .val (.int u1), .val (.int v0), .val (.int v1), .val (.ref b6), .val (.ref b7), .val (.ref b8), .val (.ref b11), .val (.ref ac), .val (.ref b15), .unset] [(.int (1 : Int32))])) X16.here hx rfl (hb hby at_276) rfl (l' := #[.val (.int x0), .val (.int x1), .val (.int x2), .val (.int (0 : Int32)), .val (.int (0 : Int32)), .val (.int (0 : Int32)), .val (.int f6), .val (.int f7), .val (.int u0), .val (.int u1), .val (.int v0), .val (.int v1), .val (.ref b6), .val (.ref b7), .val (.ref b8), .val (.ref b11), .val (.ref ac), .val (.ref b15), .val (.int (1 : Int32))]) rfl k) ?_
                    refine Ends.pre (fun t k => XS.aload X16.here hx rfl (hb hby at_278) rfl rfl k) ?_
                    have F17 : Exa Z T16.heap b11 "java/lang/String" := ((Es13.ext E15).keep Kc16)
                    have F18 : Fld Z T16.heap b11 "java/lang/String" "value" "[B" (.ref t13) := ((Vs13.ext E15).keep Kc16 (ninS (Nat.ne_of_lt (Nat.lt_of_lt_of_le (Nat.lt_of_lt_of_le A11.lt Kc13.1) (Nat.le_of_eq g15.symm))) nin0))
                    have F19 : Fld Z T16.heap b11 "java/lang/String" "coder" "B" (.int 0) := ((Cs13.ext E15).keep Kc16 (ninS (Nat.ne_of_lt (Nat.lt_of_lt_of_le (Nat.lt_of_lt_of_le A11.lt Kc13.1) (Nat.le_of_eq g15.symm))) nin0))
                    have F20 : Arv Z T16.heap t13 kb13 .byte (0 : Int32) [] (.int 0) := ((Arv.ext As13 E15).keep Kc16 (ninS (Nat.ne_of_lt (Nat.lt_of_lt_of_le As13.lt (Nat.le_of_eq g15.symm))) nin0))
                    have F21 : Exa Z T16.heap b8 "java/lang/String" := ((((Es10.ext E11).keep Kc13).ext E15).keep Kc16)
                    have F22 : Fld Z T16.heap b8 "java/lang/String" "value" "[B" (.ref t10) := ((((Vs10.ext E11).keep Kc13 (ninS (Nat.ne_of_lt (Nat.lt_of_lt_of_le (Nat.lt_of_lt_of_le A8.lt Kc10.1) (Nat.le_of_eq g11.symm))) nin0)).ext E15).keep Kc16 (ninS (Nat.ne_of_lt (Nat.lt_of_lt_of_le (Nat.lt_of_lt_of_le (Nat.lt_of_lt_of_le (Nat.lt_of_lt_of_le A8.lt Kc10.1) E11.1) Kc13.1) (Nat.le_of_eq g15.symm))) nin0))
                    have F23 : Fld Z T16.heap b8 "java/lang/String" "coder" "B" (.int 0) := ((((Cs10.ext E11).keep Kc13 (ninS (Nat.ne_of_lt (Nat.lt_of_lt_of_le (Nat.lt_of_lt_of_le A8.lt Kc10.1) (Nat.le_of_eq g11.symm))) nin0)).ext E15).keep Kc16 (ninS (Nat.ne_of_lt (Nat.lt_of_lt_of_le (Nat.lt_of_lt_of_le (Nat.lt_of_lt_of_le (Nat.lt_of_lt_of_le A8.lt Kc10.1) E11.1) Kc13.1) (Nat.le_of_eq g15.symm))) nin0))
                    have F24 : Arv Z T16.heap t10 kb10 .byte (0 : Int32) [] (.int 0) := ((Arv.ext ((Arv.ext As10 E11).keep Kc13 (ninS (Nat.ne_of_lt (Nat.lt_of_lt_of_le As10.lt (Nat.le_of_eq g11.symm))) nin0)) E15).keep Kc16 (ninS (Nat.ne_of_lt (Nat.lt_of_lt_of_le (Nat.lt_of_lt_of_le (Nat.lt_of_lt_of_le As10.lt E11.1) Kc13.1) (Nat.le_of_eq g15.symm))) nin0))
                    have F25 : Sta Z T16.heap "java/lang/String" "COMPACT_STRINGS" "Z" (.int cz) := (Sta_keep0 SCS K16)
                    have F26 : Sta Z T16.heap "jdk/internal/util/Preconditions" "SIOOBE_FORMATTER" "Ljava/util/function/BiFunction;" fm := (Sta_keep0 SFM K16)
                    obtain ⟨cq27, kq27, q27a, q27b, q27c⟩ := isOf hZ16 rfl Ec16
                    obtain ⟨_, _, ⟨T27, L27, k27, n27⟩, -, X27, ⟨Lc27, hQ27, l27, y27, z27⟩, st27⟩ := X16.virtualBack hx (y := (⟨"com/example/static_permission_checker/staticpermissionchecker/core/FlowConstraint", "holds", "()Z"⟩ : MethodName)) (z := (⟨"com/example/static_permission_checker/staticpermissionchecker/core/FlowConstraint", "holds", "()Z"⟩ : MethodName)) hown16 (mvT hZ16 (hw _ (List.mem_of_getElem? (i := 60) rfl))) (mvT hZ16 (hw _ (List.mem_of_getElem? (i := 61) rfl))) (notFace_of_selects (args := #[]) (mvT hZ16 (hw _ (List.mem_of_getElem? (i := 63) rfl)))) (mvT hZ16 (hw _ (List.mem_of_getElem? (i := 63) rfl))) (mvT hZ16 (hw _ (List.mem_of_getElem? (i := 62) rfl))) (by decide) (backOf (W := 0) (rm10y l Z a0 hw [] b15 b11 t13 kb13 ([] : List Int32) (0 : Int32) _ b8 t10 kb10 ([] : List Int32) (0 : Int32) _ cz fm T16.heap n0 (Nat.le_trans (Nat.le_trans (Nat.le_trans (Nat.le_trans (Nat.le_trans (Nat.le_trans (Nat.le_trans (Nat.le_trans Z0 E6.1) E7.1) E8.1) Kc10.1) E11.1) Kc13.1) E15.1) Kc16.1) F17 F19 F18 F20 hcd13 hbd13 (Nat.le_of_ble_eq_true rfl) F21 F23 F22 F24 hcd10 hbd10 (Nat.le_of_ble_eq_true rfl) Fh16 Fg16 F25 hcz F26 hfm rfl) hZ16 (hw _ (List.mem_of_getElem? (i := 64) rfl)) (hw _ (List.mem_of_getElem? (i := 38) rfl)) (by decide) (by decide)) q27a q27c (g := (mkF m 280 #[.val (.int x0), .val (.int x1), .val (.int x2), .val (.int (0 : Int32)), .val (.int (0 : Int32)), .val (.int (0 : Int32)), .val (.int f6), .val (.int f7), .val (.int u0), .val (.int u1), .val (.int v0), .val (.int v1), .val (.ref b6), .val (.ref b7), .val (.ref b8), .val (.ref b11), .val (.ref ac), .val (.ref b15), .val (.int (1 : Int32))] [(.ref b15)])) rfl (by rw [hml]; rfl) (Steps.refl _) (argsL := []) (rest := []) (lenOf pd_6 rfl) rfl (by show 2 * 0 + _ ≤ _; exact Nat.le_of_eq rfl) (hb hby at_280) (fun _ _ => ⟨rfl, rfl, (by decide : 17 + 0 ≤ _), (by decide : 79 + 0 ≤ _)⟩)
                    dsimp only [Pt.U, Pt.locs, Pt.cells, Pt.slots] at X27 l27 y27 z27 st27 hQ27
                    subst l27 y27 z27
                    obtain ⟨rfl, N27q, eh27⟩ := hQ27
                    have N27 := Fr.app N16 N27q
                    refine Ends.pre (T' := T27.setTop (mkF m 283 #[.val (.int x0), .val (.int x1), .val (.int x2), .val (.int (0 : Int32)), .val (.int (0 : Int32)), .val (.int (0 : Int32)), .val (.int f6), .val (.int f7), .val (.int u0), .val (.int u1), .val (.int v0), .val (.int v1), .val (.ref b6), .val (.ref b7), .val (.ref b8), .val (.ref b11), .val (.ref ac), .val (.ref b15), .val (.int (1 : Int32))] [(.int (1 : Int32))])) (fun t k => st27.trans k) ?_
                    refine Ends.pre (fun t k => XS.iload X27.here hx rfl (hb hby at_283) rfl k) ?_
                    refine Ends.pre (T' := T27.setTop (mkF m 288 #[.val (.int x0), .val (.int x1), .val (.int x2), .val (.int (0 : Int32)), .val (.int (0 : Int32)), .val (.int (0 : Int32)), .val (.int f6), .val (.int f7), .val (.int u0), .val (.int u1), .val (.int v0), .val (.int v1), .val (.ref b6), .val (.ref b7), .val (.ref b8), .val (.ref b11), .val (.ref ac), .val (.ref b15), .val (.int (1 : Int32))] [])) (fun t k => XS.icmpNo X27.here hx rfl (hb hby at_285) rfl (by decide) k) ?_
                    refine Ends.pre (fun t k => XS.iconst X27.here hx rfl (hb hby at_288) k) ?_
                    refine Ends.pre (fun t k => XS.goto X27.here hx rfl (pc0 := 289) (pc' := 293) rfl (hb hby at_289) (by decide) (by decide) k) ?_
                    exact Ends.retW (w := (.int (1 : Int32))) X27 hx Bd.notSynchronized Bd.returns rfl (Or.inl ⟨rfl, Or.inr (Or.inl rfl), _, rfl⟩) (hb hby at_293) eh27 hZ16 hEL hS16 (Nat.le_refl _) hh CR16 ⟨rfl, N27⟩ (by decide) (by decide)
                  refine Ends.pre (fun t k => XS.iload X13.here hx rfl (hb hby at_205) rfl k) ?_
                  by_cases hc207_28 : f7 = 0
                  · refine Ends.pre (T' := T13.setTop (mkF m 216 #[.val (.int x0), .val (.int x1), .val (.int x2), .val (.int (0 : Int32)), .val (.int (0 : Int32)), .val (.int (0 : Int32)), .val (.int f6), .val (.int f7), .val (.int u0), .val (.int u1), .val (.int v0), .val (.int v1), .val (.ref b6), .val (.ref b7), .val (.ref b8), .val (.ref b11), .unset, .unset, .unset] [])) (fun t k => XS.ifYes X13.here hx rfl (pc0 := 207) (pc' := 216) rfl (hb hby at_207) rfl (Jvm.Free.XT.i0_eq_t hc207_28) (by decide) (by decide) k) ?_
                    have F29 : Sta Z T13.heap "com/example/static_permission_checker/staticpermissionchecker/core/FlowConstraint$Access" "READ" "Lcom/example/static_permission_checker/staticpermissionchecker/core/FlowConstraint$Access;" (.ref wREAD) := (Sta_keep0 S_READ K13)
                    obtain ⟨T30, X30, e30, st30⟩ := getS2 X13 hx hZ13 hown13 (host := "") (Or.inl (hw _ (List.mem_of_getElem? (i := 33) rfl))) Via.refl rfl F29 (g := (mkF m 216 #[.val (.int x0), .val (.int x1), .val (.int x2), .val (.int (0 : Int32)), .val (.int (0 : Int32)), .val (.int (0 : Int32)), .val (.int f6), .val (.int f7), .val (.int u0), .val (.int u1), .val (.int v0), .val (.int v1), .val (.ref b6), .val (.ref b7), .val (.ref b8), .val (.ref b11), .unset, .unset, .unset] [])) rfl (hb hby at_216)
                    refine Ends.pre (T' := T30.setTop (mkF m 219 #[.val (.int x0), .val (.int x1), .val (.int x2), .val (.int (0 : Int32)), .val (.int (0 : Int32)), .val (.int (0 : Int32)), .val (.int f6), .val (.int f7), .val (.int u0), .val (.int u1), .val (.int v0), .val (.int v1), .val (.ref b6), .val (.ref b7), .val (.ref b8), .val (.ref b11), .unset, .unset, .unset] [(.ref wREAD)])) (fun t k => st30 _ k) ?_
                    exact J219_14 T30 X30 e30 wREAD
                  · refine Ends.pre (T' := T13.setTop (mkF m 210 #[.val (.int x0), .val (.int x1), .val (.int x2), .val (.int (0 : Int32)), .val (.int (0 : Int32)), .val (.int (0 : Int32)), .val (.int f6), .val (.int f7), .val (.int u0), .val (.int u1), .val (.int v0), .val (.int v1), .val (.ref b6), .val (.ref b7), .val (.ref b8), .val (.ref b11), .unset, .unset, .unset] [])) (fun t k => XS.ifNo X13.here hx rfl (hb hby at_207) rfl (Jvm.Free.XT.i0_eq_f hc207_28) k) ?_
                    have F31 : Sta Z T13.heap "com/example/static_permission_checker/staticpermissionchecker/core/FlowConstraint$Access" "WRITE" "Lcom/example/static_permission_checker/staticpermissionchecker/core/FlowConstraint$Access;" (.ref wWRITE) := (Sta_keep0 S_WRITE K13)
                    obtain ⟨T32, X32, e32, st32⟩ := getS2 X13 hx hZ13 hown13 (host := "") (Or.inl (hw _ (List.mem_of_getElem? (i := 75) rfl))) Via.refl rfl F31 (g := (mkF m 210 #[.val (.int x0), .val (.int x1), .val (.int x2), .val (.int (0 : Int32)), .val (.int (0 : Int32)), .val (.int (0 : Int32)), .val (.int f6), .val (.int f7), .val (.int u0), .val (.int u1), .val (.int v0), .val (.int v1), .val (.ref b6), .val (.ref b7), .val (.ref b8), .val (.ref b11), .unset, .unset, .unset] [])) rfl (hb hby at_210)
                    refine Ends.pre (T' := T32.setTop (mkF m 213 #[.val (.int x0), .val (.int x1), .val (.int x2), .val (.int (0 : Int32)), .val (.int (0 : Int32)), .val (.int (0 : Int32)), .val (.int f6), .val (.int f7), .val (.int u0), .val (.int u1), .val (.int v0), .val (.int v1), .val (.ref b6), .val (.ref b7), .val (.ref b8), .val (.ref b11), .unset, .unset, .unset] [(.ref wWRITE)])) (fun t k => st32 _ k) ?_
                    refine Ends.pre (fun t k => XS.goto X32.here hx rfl (pc0 := 213) (pc' := 219) rfl (hb hby at_213) (by decide) (by decide) k) ?_
                    exact J219_14 T32 X32 e32 wWRITE
                · refine Ends.pre (fun t k => XS.iload X7.here hx rfl (hb hby at_174) rfl k) ?_
                  refine Ends.pre (T' := T7.setTop (mkF m 179 #[.val (.int x0), .val (.int x1), .val (.int x2), .val (.int (0 : Int32)), .val (.int (0 : Int32)), .val (.int (1 : Int32)), .val (.int f6), .val (.int f7), .val (.int u0), .val (.int u1), .val (.int v0), .val (.int v1), .val (.ref b6), .val (.ref b7), .unset, .unset, .unset, .unset, .unset] [])) (fun t k => XS.ifNo X7.here hx rfl (hb hby at_176) rfl (by decide) k) ?_
                  refine Ends.pre (fun t k => XS.aconstNull X7.here hx rfl (hb hby at_179) k) ?_
                  refine Ends.pre (fun t k => XS.goto X7.here hx rfl (pc0 := 180) (pc' := 192) rfl (hb hby at_180) (by decide) (by decide) k) ?_
                  refine Ends.pre (fun t k => XS.astore (g := (mkF m 192 #[.val (.int x0), .val (.int x1), .val (.int x2), .val (.int (0 : Int32)), .val (.int (0 : Int32)), .val (.int (1 : Int32)), .val (.int f6), .val (.int f7), .val (.int u0), .val (.int u1), .val (.int v0), .val (.int v1), .val (.ref b6), .val (.ref b7), .unset, .unset, .unset, .unset, .unset] [.null])) X7.here hx rfl (hb hby at_192) rfl rfl (l' := #[.val (.int x0), .val (.int x1), .val (.int x2), .val (.int (0 : Int32)), .val (.int (0 : Int32)), .val (.int (1 : Int32)), .val (.int f6), .val (.int f7), .val (.int u0), .val (.int u1), .val (.int v0), .val (.int v1), .val (.ref b6), .val (.ref b7), .val .null, .unset, .unset, .unset, .unset]) rfl k) ?_
                  obtain ⟨T33, h33, X33, e33, E33, A33, D33, -, st33⟩ := newO X7 hx hZ hown (hw _ (List.mem_of_getElem? (i := 1) rfl)) (hw _ (List.mem_of_getElem? (i := 2) rfl)) (hw _ (List.mem_of_getElem? (i := 3) rfl)) e7 (g := (mkF m 194 #[.val (.int x0), .val (.int x1), .val (.int x2), .val (.int (0 : Int32)), .val (.int (0 : Int32)), .val (.int (1 : Int32)), .val (.int f6), .val (.int f7), .val (.int u0), .val (.int u1), .val (.int v0), .val (.int v1), .val (.ref b6), .val (.ref b7), .val .null, .unset, .unset, .unset, .unset] [])) rfl (hb hby at_194) (by decide) (by decide)
                  obtain ⟨b33, g33⟩ : ∃ z, z = h7.size := ⟨_, rfl⟩
                  rw [← g33] at A33 D33 st33
                  have ge_b33 : n0 ≤ b33 := Nat.le_trans (Nat.le_trans (Nat.le_trans Z0 E6.1) E7.1) (Nat.le_of_eq g33.symm)
                  have sz_b33 : h0.size ≤ b33 := Nat.le_trans K7.1 (Nat.le_of_eq g33.symm)
                  have CR33 := CHr.trans CR7 (CHr.ext E33 CR7.1)
                  have K33 : Keep h0 h33 [] := K7.ext E33
                  have Fd33_coder : Fld Z h33 b33 "java/lang/String" "coder" "B" (.int (0 : Int32)) := D33 (Or.inr (hw _ (List.mem_of_getElem? (i := 27) rfl))) (ty := .byte) (by decide)
                  have Fd33_value : Fld Z h33 b33 "java/lang/String" "value" "[B" .null := D33 (Or.inr (hw _ (List.mem_of_getElem? (i := 29) rfl))) (ty := (.array .byte)) (by decide)
                  refine Ends.pre (T' := T33.setTop (mkF m 197 #[.val (.int x0), .val (.int x1), .val (.int x2), .val (.int (0 : Int32)), .val (.int (0 : Int32)), .val (.int (1 : Int32)), .val (.int f6), .val (.int f7), .val (.int u0), .val (.int u1), .val (.int v0), .val (.int v1), .val (.ref b6), .val (.ref b7), .val .null, .unset, .unset, .unset, .unset] [(.ref b33)])) (fun t k => st33 _ k) ?_
                  refine Ends.pre (fun t k => XS.dup X33.here hx rfl (hb hby at_197) rfl rfl k) ?_
                  refine Ends.pre (fun t k => XS.aload X33.here hx rfl (hb hby at_198) rfl rfl k) ?_
                  have F34 : Arv Z h33 b7 k7 .char (0 : Int32) [] (.int (0 : Int32)) := (Arv.ext V7 E33)
                  obtain ⟨_, _, ⟨T35, L35, k35, n35⟩, -, Xa35, hSa35, ga35, ⟨Lc35, hQ35, l35, y35, z35, CRc35⟩, st35⟩ := X33.specialBackS hx (y := (⟨"java/lang/String", "<init>", "([C)V"⟩ : MethodName)) rfl hown (mvT hZ (hw _ (List.mem_of_getElem? (i := 4) rfl))) (mvT hZ (hw _ (List.mem_of_getElem? (i := 5) rfl))) (mvT hZ (hw _ (List.mem_of_getElem? (i := 6) rfl))) (by decide) (backOfSH (W := 1) (rm_e1 l Z a0 hw [] b33 b7 k7 h33 n0 (Nat.le_trans (Nat.le_trans (Nat.le_trans Z0 E6.1) E7.1) E33.1) A33 Fd33_value Fd33_coder ge_b33 F34) hZ (hw _ (List.mem_of_getElem? (i := 6) rfl)) (hw _ (List.mem_of_getElem? (i := 3) rfl)) (by decide) (by decide) hEL CR33.1) (g := (mkF m 200 #[.val (.int x0), .val (.int x1), .val (.int x2), .val (.int (0 : Int32)), .val (.int (0 : Int32)), .val (.int (1 : Int32)), .val (.int f6), .val (.int f7), .val (.int u0), .val (.int u1), .val (.int v0), .val (.int v1), .val (.ref b6), .val (.ref b7), .val .null, .unset, .unset, .unset, .unset] [(.ref b7), (.ref b33), (.ref b33)])) rfl (by rw [hml]; rfl) (Steps.refl _) (a := b33) (argsL := [(.ref b7)]) (rest := [(.ref b33)]) (lenOf pd_4 rfl) rfl (by show 2 * 0 + _ ≤ _; exact Nat.le_of_eq rfl) (hb hby at_200) (fun _ _ => ⟨rfl, e33, (by decide : 3 + 4 ≤ _), (by decide : 4 + 8 ≤ _)⟩)
                  dsimp only [Pt.U, Pt.locs, Pt.cells, Pt.slots] at Xa35 hSa35 ga35 l35 y35 z35 st35 hQ35 CRc35
                  subst l35 y35 z35
                  obtain ⟨X35, hS35, hZ35, hown35⟩ := rebS hS0 (n1 := T33.heap.size) (by rw [e33]; exact (Nat.le_trans (Nat.le_trans (Nat.le_trans hk0 E6.1) E7.1) E33.1)) Xa35 hSa35 ga35 hZ hown
                  obtain ⟨rfl, N35q, Kc35, Es35, Cs35, t35, kb35, Vs35, As35⟩ := hQ35
                  have N35 := Fr.app N0 N35q
                  have K35 : Keep h0 T35.heap [] := K33.trans Kc35 (allS (Or.inr sz_b33) all0)
                  have CR35 := CHr.trans CR33 CRc35
                  have hcd35 : StrChars.Road.CodA ([] : List Int32) 0 (0 : Int32) [] := own_lit rfl rfl own_al0
                  have hbd35 : ∀ c ∈ ([] : List Int32), ¬ c < 0 ∧ ¬ (65535 : Int32) < c := own_al0
                  refine Ends.pre (T' := T35.setTop (mkF m 203 #[.val (.int x0), .val (.int x1), .val (.int x2), .val (.int (0 : Int32)), .val (.int (0 : Int32)), .val (.int (1 : Int32)), .val (.int f6), .val (.int f7), .val (.int u0), .val (.int u1), .val (.int v0), .val (.int v1), .val (.ref b6), .val (.ref b7), .val .null, .unset, .unset, .unset, .unset] [(.ref b33)])) (fun t k => st35.trans k) ?_
                  refine Ends.pre (fun t k => XS.astore (g := (mkF m 203 #[.val (.int x0), .val (.int x1), .val (.int x2), .val (.int (0 : Int32)), .val (.int (0 : Int32)), .val (.int (1 : Int32)), .val (.int f6), .val (.int f7), .val (.int u0), .val (.int u1), .val (.int v0), .val (.int v1), .val (.ref b6), .val (.ref b7), .val .null, .unset, .unset, .unset, .unset] [(.ref b33)])) X35.here hx rfl (hb hby at_203) rfl rfl (l' := #[.val (.int x0), .val (.int x1), .val (.int x2), .val (.int (0 : Int32)), .val (.int (0 : Int32)), .val (.int (1 : Int32)), .val (.int f6), .val (.int f7), .val (.int u0), .val (.int u1), .val (.int v0), .val (.int v1), .val (.ref b6), .val (.ref b7), .val .null, .val (.ref b33), .unset, .unset, .unset]) rfl k) ?_
                  have J219_36 : ∀ (TJ36 : State) (XJ36 : SS X35 TJ36) (eJ36 : TJ36.heap = T35.heap) (ac : Addr), Jvm.RoadKit.Ends p e below (EndW s room_1 Z consts_1 (Q_rm0 Z x0 x1 x2 wREAD wWRITE cz fm h0 n0)) (TJ36.setTop (mkF m 219 #[.val (.int x0), .val (.int x1), .val (.int x2), .val (.int (0 : Int32)), .val (.int (0 : Int32)), .val (.int (1 : Int32)), .val (.int f6), .val (.int f7), .val (.int u0), .val (.int u1), .val (.int v0), .val (.int v1), .val (.ref b6), .val (.ref b7), .val .null, .val (.ref b33), .unset, .unset, .unset] [(.ref ac)])) := by
                    intro TJ36 XJ36 eJ36 ac
                    unfold SS at XJ36
                    refine Ends.pre (fun t k => XS.astore (g := (mkF m 219 #[.val (.int x0), .val (.int x1), .val (.int x2), .val (.int (0 : Int32)), .val (.int (0 : Int32)), .val (.int (1 : Int32)), .val (.int f6), .val (.int f7), .val (.int u0), .val (.int u1), .val (.int v0), .val (.int v1), .val (.ref b6), .val (.ref b7), .val .null, .val (.ref b33), .unset, .unset, .unset] [(.ref ac)])) XJ36.here hx rfl (hb hby at_219) rfl rfl (l' := #[.val (.int x0), .val (.int x1), .val (.int x2), .val (.int (0 : Int32)), .val (.int (0 : Int32)), .val (.int (1 : Int32)), .val (.int f6), .val (.int f7), .val (.int u0), .val (.int u1), .val (.int v0), .val (.int v1), .val (.ref b6), .val (.ref b7), .val .null, .val (.ref b33), .val (.ref ac), .unset, .unset]) rfl k) ?_
                    obtain ⟨T37, h37, X37, e37, E37, A37, D37, -, st37⟩ := newO XJ36 hx hZ35 hown35 (hw _ (List.mem_of_getElem? (i := 36) rfl)) (hw _ (List.mem_of_getElem? (i := 37) rfl)) (hw _ (List.mem_of_getElem? (i := 38) rfl)) eJ36 (g := (mkF m 221 #[.val (.int x0), .val (.int x1), .val (.int x2), .val (.int (0 : Int32)), .val (.int (0 : Int32)), .val (.int (1 : Int32)), .val (.int f6), .val (.int f7), .val (.int u0), .val (.int u1), .val (.int v0), .val (.int v1), .val (.ref b6), .val (.ref b7), .val .null, .val (.ref b33), .val (.ref ac), .unset, .unset] [])) rfl (hb hby at_221) (by decide) (by decide)
                    obtain ⟨b37, g37⟩ : ∃ z, z = T35.heap.size := ⟨_, rfl⟩
                    rw [← g37] at A37 D37 st37
                    have ge_b37 : n0 ≤ b37 := Nat.le_trans (Nat.le_trans (Nat.le_trans (Nat.le_trans (Nat.le_trans Z0 E6.1) E7.1) E33.1) Kc35.1) (Nat.le_of_eq g37.symm)
                    have sz_b37 : h0.size ≤ b37 := Nat.le_trans K35.1 (Nat.le_of_eq g37.symm)
                    have CR37 := CHr.trans CR35 (CHr.ext E37 CR35.1)
                    have K37 : Keep h0 h37 [] := K35.ext E37
                    have Fd37_holder : Fld Z h37 b37 "com/example/static_permission_checker/staticpermissionchecker/core/FlowConstraint" "holder" "Ljava/lang/String;" .null := D37 (Or.inr (hw _ (List.mem_of_getElem? (i := 55) rfl))) (ty := (.object "java/lang/String")) (by decide)
                    have Fd37_access : Fld Z h37 b37 "com/example/static_permission_checker/staticpermissionchecker/core/FlowConstraint" "access" "Lcom/example/static_permission_checker/staticpermissionchecker/core/FlowConstraint$Access;" .null := D37 (Or.inr (hw _ (List.mem_of_getElem? (i := 57) rfl))) (ty := (.object "com/example/static_permission_checker/staticpermissionchecker/core/FlowConstraint$Access")) (by decide)
                    have Fd37_guard : Fld Z h37 b37 "com/example/static_permission_checker/staticpermissionchecker/core/FlowConstraint" "guard" "Ljava/lang/String;" .null := D37 (Or.inr (hw _ (List.mem_of_getElem? (i := 59) rfl))) (ty := (.object "java/lang/String")) (by decide)
                    refine Ends.pre (T' := T37.setTop (mkF m 224 #[.val (.int x0), .val (.int x1), .val (.int x2), .val (.int (0 : Int32)), .val (.int (0 : Int32)), .val (.int (1 : Int32)), .val (.int f6), .val (.int f7), .val (.int u0), .val (.int u1), .val (.int v0), .val (.int v1), .val (.ref b6), .val (.ref b7), .val .null, .val (.ref b33), .val (.ref ac), .unset, .unset] [(.ref b37)])) (fun t k => st37 _ k) ?_
                    refine Ends.pre (fun t k => XS.dup X37.here hx rfl (hb hby at_224) rfl rfl k) ?_
                    refine Ends.pre (fun t k => XS.aload X37.here hx rfl (hb hby at_225) rfl rfl k) ?_
                    refine Ends.pre (fun t k => XS.aload X37.here hx rfl (hb hby at_227) rfl rfl k) ?_
                    refine Ends.pre (fun t k => XS.aload X37.here hx rfl (hb hby at_229) rfl rfl k) ?_
                    obtain ⟨_, _, ⟨T38, L38, k38, n38⟩, -, Xa38, hSa38, ga38, ⟨Lc38, hQ38, l38, y38, z38, CRc38⟩, st38⟩ := X37.specialBackS hx (y := (⟨"com/example/static_permission_checker/staticpermissionchecker/core/FlowConstraint", "<init>", "(Ljava/lang/String;Lcom/example/static_permission_checker/staticpermissionchecker/core/FlowConstraint$Access;Ljava/lang/String;)V"⟩ : MethodName)) rfl hown35 (mvT hZ35 (hw _ (List.mem_of_getElem? (i := 39) rfl))) (mvT hZ35 (hw _ (List.mem_of_getElem? (i := 40) rfl))) (mvT hZ35 (hw _ (List.mem_of_getElem? (i := 41) rfl))) (by decide) (backOfSH (W := 1) (rm7n l Z a0 hw [] b37 ac b33 h37 n0 (Nat.le_trans (Nat.le_trans (Nat.le_trans (Nat.le_trans (Nat.le_trans Z0 E6.1) E7.1) E33.1) Kc35.1) E37.1) A37 ge_b37 Fd37_holder Fd37_access Fd37_guard) hZ35 (hw _ (List.mem_of_getElem? (i := 41) rfl)) (hw _ (List.mem_of_getElem? (i := 38) rfl)) (by decide) (by decide) hEL CR37.1) (g := (mkF m 231 #[.val (.int x0), .val (.int x1), .val (.int x2), .val (.int (0 : Int32)), .val (.int (0 : Int32)), .val (.int (1 : Int32)), .val (.int f6), .val (.int f7), .val (.int u0), .val (.int u1), .val (.int v0), .val (.int v1), .val (.ref b6), .val (.ref b7), .val .null, .val (.ref b33), .val (.ref ac), .unset, .unset] [(.ref b33), (.ref ac), .null, (.ref b37), (.ref b37)])) rfl (by rw [hml]; rfl) (Steps.refl _) (a := b37) (argsL := [.null, (.ref ac), (.ref b33)]) (rest := [(.ref b37)]) (lenOf pd_5 rfl) rfl (by show 2 * 0 + _ ≤ _; exact Nat.le_of_eq rfl) (hb hby at_231) (fun _ _ => ⟨rfl, e37, (by decide : 8 + 4 ≤ _), (by decide : 15 + 52 ≤ _)⟩)
                    dsimp only [Pt.U, Pt.locs, Pt.cells, Pt.slots] at Xa38 hSa38 ga38 l38 y38 z38 st38 hQ38 CRc38
                    subst l38 y38 z38
                    obtain ⟨X38, hS38, hZ38, hown38⟩ := rebS hS35 (n1 := T37.heap.size) (by rw [e37]; exact (Nat.le_trans (Nat.le_refl _) E37.1)) Xa38 hSa38 ga38 hZ35 hown35
                    obtain ⟨rfl, N38q, Kc38, Ec38, Fh38, Fg38⟩ := hQ38
                    have N38 := Fr.app N35 N38q
                    have K38 : Keep h0 T38.heap [] := K37.trans Kc38 (allS (Or.inr sz_b37) all0)
                    have CR38 := CHr.trans CR37 CRc38
                    refine Ends.pre (T' := T38.setTop (mkF m 234 #[.val (.int x0), .val (.int x1), .val (.int x2), .val (.int (0 : Int32)), .val (.int (0 : Int32)), .val (.int (1 : Int32)), .val (.int f6), .val (.int f7), .val (.int u0), .val (.int u1), .val (.int v0), .val (.int v1), .val (.ref b6), .val (.ref b7), .val .null, .val (.ref b33), .val (.ref ac), .unset, .unset] [(.ref b37)])) (fun t k => st38.trans k) ?_
                    refine Ends.pre (fun t k => XS.astore (g := (mkF m 234 #[.val (.int x0), .val (.int x1), .val (.int x2), .val (.int (0 : Int32)), .val (.int (0 : Int32)), .val (.int (1 : Int32)), .val (.int f6), .val (.int f7), .val (.int u0), .val (.int u1), .val (.int v0), .val (.int v1), .val (.ref b6), .val (.ref b7), .val .null, .val (.ref b33), .val (.ref ac), .unset, .unset] [(.ref b37)])) X38.here hx rfl (hb hby at_234) rfl rfl (l' := #[.val (.int x0), .val (.int x1), .val (.int x2), .val (.int (0 : Int32)), .val (.int (0 : Int32)), .val (.int (1 : Int32)), .val (.int f6), .val (.int f7), .val (.int u0), .val (.int u1), .val (.int v0), .val (.int v1), .val (.ref b6), .val (.ref b7), .val .null, .val (.ref b33), .val (.ref ac), .val (.ref b37), .unset]) rfl k) ?_
                    refine Ends.pre (fun t k => XS.iload X38.here hx rfl (hb hby at_236) rfl k) ?_
                    refine Ends.pre (T' := T38.setTop (mkF m 275 #[.val (.int x0), .val (.int x1), .val (.int x2), .val (.int (0 : Int32)), .val (.int (0 : Int32)), .val (.int (1 : Int32)), .val (.int f6), .val (.int f7), .val (.int u0), .val (.int u1), .val (.int v0), .val (.int v1), .val (.ref b6), .val (.ref b7), .val .null, .val (.ref b33), .val (.ref ac), .val (.ref b37), .unset] [])) (fun t k => XS.ifYes X38.here hx rfl (pc0 := 238) (pc' := 275) rfl (hb hby at_238) rfl (by decide) (by decide) (by decide) k) ?_
                    refine Ends.pre (fun t k => XS.iconst X38.here hx rfl (hb hby at_275) k) ?_
                    refine Ends.pre (fun t k => XS.istore (g := (mkF m 276 #[.val (.int x0), .val (.int x1), .val (.int x2), .val (.int (0 : Int32)), .val (.int (0 : Int32)), .val (.int (1 : Int32)), .val (.int f6), .val (.int f7), .val (.int u0), .val (.int u1), .val (.int v0), .val (.int v1), .val (.ref b6), .val (.ref b7), .val .null, .val (.ref b33), .val (.ref ac), .val (.ref b37), .unset] [(.int (0 : Int32))])) X38.here hx rfl (hb hby at_276) rfl (l' := #[.val (.int x0), .val (.int x1), .val (.int x2), .val (.int (0 : Int32)), .val (.int (0 : Int32)), .val (.int (1 : Int32)), .val (.int f6), .val (.int f7), .val (.int u0), .val (.int u1), .val (.int v0), .val (.int v1), .val (.ref b6), .val (.ref b7), .val .null, .val (.ref b33), .val (.ref ac), .val (.ref b37), .val (.int (0 : Int32))]) rfl k) ?_
                    refine Ends.pre (fun t k => XS.aload X38.here hx rfl (hb hby at_278) rfl rfl k) ?_
                    have F39 : Exa Z T38.heap b33 "java/lang/String" := ((Es35.ext E37).keep Kc38)
                    have F40 : Fld Z T38.heap b33 "java/lang/String" "value" "[B" (.ref t35) := ((Vs35.ext E37).keep Kc38 (ninS (Nat.ne_of_lt (Nat.lt_of_lt_of_le (Nat.lt_of_lt_of_le A33.lt Kc35.1) (Nat.le_of_eq g37.symm))) nin0))
                    have F41 : Fld Z T38.heap b33 "java/lang/String" "coder" "B" (.int 0) := ((Cs35.ext E37).keep Kc38 (ninS (Nat.ne_of_lt (Nat.lt_of_lt_of_le (Nat.lt_of_lt_of_le A33.lt Kc35.1) (Nat.le_of_eq g37.symm))) nin0))
                    have F42 : Arv Z T38.heap t35 kb35 .byte (0 : Int32) [] (.int 0) := ((Arv.ext As35 E37).keep Kc38 (ninS (Nat.ne_of_lt (Nat.lt_of_lt_of_le As35.lt (Nat.le_of_eq g37.symm))) nin0))
                    have F43 : Sta Z T38.heap "java/lang/String" "COMPACT_STRINGS" "Z" (.int cz) := (Sta_keep0 SCS K38)
                    have F44 : Sta Z T38.heap "jdk/internal/util/Preconditions" "SIOOBE_FORMATTER" "Ljava/util/function/BiFunction;" fm := (Sta_keep0 SFM K38)
                    obtain ⟨cq45, kq45, q45a, q45b, q45c⟩ := isOf hZ38 rfl Ec38
                    obtain ⟨_, _, ⟨T45, L45, k45, n45⟩, -, X45, ⟨Lc45, hQ45, l45, y45, z45⟩, st45⟩ := X38.virtualBack hx (y := (⟨"com/example/static_permission_checker/staticpermissionchecker/core/FlowConstraint", "holds", "()Z"⟩ : MethodName)) (z := (⟨"com/example/static_permission_checker/staticpermissionchecker/core/FlowConstraint", "holds", "()Z"⟩ : MethodName)) hown38 (mvT hZ38 (hw _ (List.mem_of_getElem? (i := 60) rfl))) (mvT hZ38 (hw _ (List.mem_of_getElem? (i := 61) rfl))) (notFace_of_selects (args := #[]) (mvT hZ38 (hw _ (List.mem_of_getElem? (i := 63) rfl)))) (mvT hZ38 (hw _ (List.mem_of_getElem? (i := 63) rfl))) (mvT hZ38 (hw _ (List.mem_of_getElem? (i := 62) rfl))) (by decide) (backOf (W := 0) (rm10n l Z a0 hw [] b37 b33 t35 kb35 ([] : List Int32) (0 : Int32) _  cz fm T38.heap n0 (Nat.le_trans (Nat.le_trans (Nat.le_trans (Nat.le_trans (Nat.le_trans (Nat.le_trans Z0 E6.1) E7.1) E33.1) Kc35.1) E37.1) Kc38.1) F39 F41 F40 F42 hcd35 hbd35 (Nat.le_of_ble_eq_true rfl)  Fh38 Fg38 F43 hcz F44 hfm ) hZ38 (hw _ (List.mem_of_getElem? (i := 64) rfl)) (hw _ (List.mem_of_getElem? (i := 38) rfl)) (by decide) (by decide)) q45a q45c (g := (mkF m 280 #[.val (.int x0), .val (.int x1), .val (.int x2), .val (.int (0 : Int32)), .val (.int (0 : Int32)), .val (.int (1 : Int32)), .val (.int f6), .val (.int f7), .val (.int u0), .val (.int u1), .val (.int v0), .val (.int v1), .val (.ref b6), .val (.ref b7), .val .null, .val (.ref b33), .val (.ref ac), .val (.ref b37), .val (.int (0 : Int32))] [(.ref b37)])) rfl (by rw [hml]; rfl) (Steps.refl _) (argsL := []) (rest := []) (lenOf pd_6 rfl) rfl (by show 2 * 0 + _ ≤ _; exact Nat.le_of_eq rfl) (hb hby at_280) (fun _ _ => ⟨rfl, rfl, (by decide : 12 + 0 ≤ _), (by decide : 67 + 0 ≤ _)⟩)
                    dsimp only [Pt.U, Pt.locs, Pt.cells, Pt.slots] at X45 l45 y45 z45 st45 hQ45
                    subst l45 y45 z45
                    obtain ⟨rfl, N45q, eh45⟩ := hQ45
                    have N45 := Fr.app N38 N45q
                    refine Ends.pre (T' := T45.setTop (mkF m 283 #[.val (.int x0), .val (.int x1), .val (.int x2), .val (.int (0 : Int32)), .val (.int (0 : Int32)), .val (.int (1 : Int32)), .val (.int f6), .val (.int f7), .val (.int u0), .val (.int u1), .val (.int v0), .val (.int v1), .val (.ref b6), .val (.ref b7), .val .null, .val (.ref b33), .val (.ref ac), .val (.ref b37), .val (.int (0 : Int32))] [(.int (0 : Int32))])) (fun t k => st45.trans k) ?_
                    refine Ends.pre (fun t k => XS.iload X45.here hx rfl (hb hby at_283) rfl k) ?_
                    refine Ends.pre (T' := T45.setTop (mkF m 288 #[.val (.int x0), .val (.int x1), .val (.int x2), .val (.int (0 : Int32)), .val (.int (0 : Int32)), .val (.int (1 : Int32)), .val (.int f6), .val (.int f7), .val (.int u0), .val (.int u1), .val (.int v0), .val (.int v1), .val (.ref b6), .val (.ref b7), .val .null, .val (.ref b33), .val (.ref ac), .val (.ref b37), .val (.int (0 : Int32))] [])) (fun t k => XS.icmpNo X45.here hx rfl (hb hby at_285) rfl (by decide) k) ?_
                    refine Ends.pre (fun t k => XS.iconst X45.here hx rfl (hb hby at_288) k) ?_
                    refine Ends.pre (fun t k => XS.goto X45.here hx rfl (pc0 := 289) (pc' := 293) rfl (hb hby at_289) (by decide) (by decide) k) ?_
                    exact Ends.retW (w := (.int (1 : Int32))) X45 hx Bd.notSynchronized Bd.returns rfl (Or.inl ⟨rfl, Or.inr (Or.inl rfl), _, rfl⟩) (hb hby at_293) eh45 hZ38 hEL hS38 (Nat.le_refl _) hh CR38 ⟨rfl, N45⟩ (by decide) (by decide)
                  refine Ends.pre (fun t k => XS.iload X35.here hx rfl (hb hby at_205) rfl k) ?_
                  by_cases hc207_46 : f7 = 0
                  · refine Ends.pre (T' := T35.setTop (mkF m 216 #[.val (.int x0), .val (.int x1), .val (.int x2), .val (.int (0 : Int32)), .val (.int (0 : Int32)), .val (.int (1 : Int32)), .val (.int f6), .val (.int f7), .val (.int u0), .val (.int u1), .val (.int v0), .val (.int v1), .val (.ref b6), .val (.ref b7), .val .null, .val (.ref b33), .unset, .unset, .unset] [])) (fun t k => XS.ifYes X35.here hx rfl (pc0 := 207) (pc' := 216) rfl (hb hby at_207) rfl (Jvm.Free.XT.i0_eq_t hc207_46) (by decide) (by decide) k) ?_
                    have F47 : Sta Z T35.heap "com/example/static_permission_checker/staticpermissionchecker/core/FlowConstraint$Access" "READ" "Lcom/example/static_permission_checker/staticpermissionchecker/core/FlowConstraint$Access;" (.ref wREAD) := (Sta_keep0 S_READ K35)
                    obtain ⟨T48, X48, e48, st48⟩ := getS2 X35 hx hZ35 hown35 (host := "") (Or.inl (hw _ (List.mem_of_getElem? (i := 33) rfl))) Via.refl rfl F47 (g := (mkF m 216 #[.val (.int x0), .val (.int x1), .val (.int x2), .val (.int (0 : Int32)), .val (.int (0 : Int32)), .val (.int (1 : Int32)), .val (.int f6), .val (.int f7), .val (.int u0), .val (.int u1), .val (.int v0), .val (.int v1), .val (.ref b6), .val (.ref b7), .val .null, .val (.ref b33), .unset, .unset, .unset] [])) rfl (hb hby at_216)
                    refine Ends.pre (T' := T48.setTop (mkF m 219 #[.val (.int x0), .val (.int x1), .val (.int x2), .val (.int (0 : Int32)), .val (.int (0 : Int32)), .val (.int (1 : Int32)), .val (.int f6), .val (.int f7), .val (.int u0), .val (.int u1), .val (.int v0), .val (.int v1), .val (.ref b6), .val (.ref b7), .val .null, .val (.ref b33), .unset, .unset, .unset] [(.ref wREAD)])) (fun t k => st48 _ k) ?_
                    exact J219_36 T48 X48 e48 wREAD
                  · refine Ends.pre (T' := T35.setTop (mkF m 210 #[.val (.int x0), .val (.int x1), .val (.int x2), .val (.int (0 : Int32)), .val (.int (0 : Int32)), .val (.int (1 : Int32)), .val (.int f6), .val (.int f7), .val (.int u0), .val (.int u1), .val (.int v0), .val (.int v1), .val (.ref b6), .val (.ref b7), .val .null, .val (.ref b33), .unset, .unset, .unset] [])) (fun t k => XS.ifNo X35.here hx rfl (hb hby at_207) rfl (Jvm.Free.XT.i0_eq_f hc207_46) k) ?_
                    have F49 : Sta Z T35.heap "com/example/static_permission_checker/staticpermissionchecker/core/FlowConstraint$Access" "WRITE" "Lcom/example/static_permission_checker/staticpermissionchecker/core/FlowConstraint$Access;" (.ref wWRITE) := (Sta_keep0 S_WRITE K35)
                    obtain ⟨T50, X50, e50, st50⟩ := getS2 X35 hx hZ35 hown35 (host := "") (Or.inl (hw _ (List.mem_of_getElem? (i := 75) rfl))) Via.refl rfl F49 (g := (mkF m 210 #[.val (.int x0), .val (.int x1), .val (.int x2), .val (.int (0 : Int32)), .val (.int (0 : Int32)), .val (.int (1 : Int32)), .val (.int f6), .val (.int f7), .val (.int u0), .val (.int u1), .val (.int v0), .val (.int v1), .val (.ref b6), .val (.ref b7), .val .null, .val (.ref b33), .unset, .unset, .unset] [])) rfl (hb hby at_210)
                    refine Ends.pre (T' := T50.setTop (mkF m 213 #[.val (.int x0), .val (.int x1), .val (.int x2), .val (.int (0 : Int32)), .val (.int (0 : Int32)), .val (.int (1 : Int32)), .val (.int f6), .val (.int f7), .val (.int u0), .val (.int u1), .val (.int v0), .val (.int v1), .val (.ref b6), .val (.ref b7), .val .null, .val (.ref b33), .unset, .unset, .unset] [(.ref wWRITE)])) (fun t k => st50 _ k) ?_
                    refine Ends.pre (fun t k => XS.goto X50.here hx rfl (pc0 := 213) (pc' := 219) rfl (hb hby at_213) (by decide) (by decide) k) ?_
                    exact J219_36 T50 X50 e50 wWRITE
              · refine Ends.pre (fun t k => XS.iload X6.here hx rfl (hb hby at_145) rfl k) ?_
                obtain ⟨T51, h51, k51, X51, e51, E51, A51, st51⟩ := newP X6 hx hZ (hw _ (List.mem_of_getElem? (i := 0) rfl)) e6 (g := (mkF m 147 #[.val (.int x0), .val (.int x1), .val (.int x2), .val (.int (0 : Int32)), .val (.int (1 : Int32)), .val (.int f5), .val (.int f6), .val (.int f7), .val (.int u0), .val (.int u1), .val (.int v0), .val (.int v1), .val (.ref b6), .unset, .unset, .unset, .unset, .unset, .unset] [(.int (1 : Int32))])) rfl (hb hby at_147) rfl (by decide) (cap := 1) (by decide) (by decide) (by decide) (by decide)
                obtain ⟨b51, g51⟩ : ∃ z, z = h6.size := ⟨_, rfl⟩
                rw [← g51] at A51 st51
                have ge_b51 : n0 ≤ b51 := Nat.le_trans (Nat.le_trans Z0 E6.1) (Nat.le_of_eq g51.symm)
                have sz_b51 : h0.size ≤ b51 := Nat.le_trans K6.1 (Nat.le_of_eq g51.symm)
                have CR51 := CHr.trans CR6 (CHr.ext E51 CR6.1)
                have K51 : Keep h0 h51 [] := K6.ext E51
                have V51 : Arv Z h51 b51 k51 .char (1 : Int32) [(.int (0 : Int32))] (.int (0 : Int32)) := (Arv.new A51 (by decide)).pad (pad_rep [] (.int (0 : Int32)) 1)
                refine Ends.pre (T' := T51.setTop (mkF m 149 #[.val (.int x0), .val (.int x1), .val (.int x2), .val (.int (0 : Int32)), .val (.int (1 : Int32)), .val (.int f5), .val (.int f6), .val (.int f7), .val (.int u0), .val (.int u1), .val (.int v0), .val (.int v1), .val (.ref b6), .unset, .unset, .unset, .unset, .unset, .unset] [(.ref b51)])) (fun t k => st51 _ k) ?_
                refine Ends.pre (fun t k => XS.astore (g := (mkF m 149 #[.val (.int x0), .val (.int x1), .val (.int x2), .val (.int (0 : Int32)), .val (.int (1 : Int32)), .val (.int f5), .val (.int f6), .val (.int f7), .val (.int u0), .val (.int u1), .val (.int v0), .val (.int v1), .val (.ref b6), .unset, .unset, .unset, .unset, .unset, .unset] [(.ref b51)])) X51.here hx rfl (hb hby at_149) rfl rfl (l' := #[.val (.int x0), .val (.int x1), .val (.int x2), .val (.int (0 : Int32)), .val (.int (1 : Int32)), .val (.int f5), .val (.int f6), .val (.int f7), .val (.int u0), .val (.int u1), .val (.int v0), .val (.int v1), .val (.ref b6), .val (.ref b51), .unset, .unset, .unset, .unset, .unset]) rfl k) ?_
                refine Ends.pre (fun t k => XS.iload X51.here hx rfl (hb hby at_151) rfl k) ?_
                refine Ends.pre (T' := T51.setTop (mkF m 156 #[.val (.int x0), .val (.int x1), .val (.int x2), .val (.int (0 : Int32)), .val (.int (1 : Int32)), .val (.int f5), .val (.int f6), .val (.int f7), .val (.int u0), .val (.int u1), .val (.int v0), .val (.int v1), .val (.ref b6), .val (.ref b51), .unset, .unset, .unset, .unset, .unset] [])) (fun t k => XS.ifNo X51.here hx rfl (hb hby at_153) rfl (by decide) k) ?_
                refine Ends.pre (fun t k => XS.aload X51.here hx rfl (hb hby at_156) rfl rfl k) ?_
                refine Ends.pre (fun t k => XS.iconst X51.here hx rfl (hb hby at_158) k) ?_
                refine Ends.pre (fun t k => XS.iload X51.here hx rfl (hb hby at_159) rfl k) ?_
                obtain ⟨cl52, Ar52, q52, S52, N52', H52, G52⟩ := id V51
                have hin52 : ¬ ((0 : Int32) < 0 ∨ cl52.slots.size ≤ ((0 : Int32)).toNatClampNeg) := inb_of S52 ⟨by decide, by decide⟩
                obtain ⟨T52, h52, X52, e52, W52, st52⟩ := stC X51 hx hZ e51 Ar52 (j := (0 : Int32)) hin52 (g := (mkF m 161 #[.val (.int x0), .val (.int x1), .val (.int x2), .val (.int (0 : Int32)), .val (.int (1 : Int32)), .val (.int f5), .val (.int f6), .val (.int f7), .val (.int u0), .val (.int u1), .val (.int v0), .val (.int v1), .val (.ref b6), .val (.ref b51), .unset, .unset, .unset, .unset, .unset] [(.int v0), (.int (0 : Int32)), (.ref b51)])) rfl rfl (hb hby at_161)
                have CR52 := CHr.trans CR51 (CHr.wr W52 (Safe.arv hZo.alike V51 (by decide)) CR51.1)
                have V52 : Arv Z h52 b51 k51 .char (1 : Int32) [(.int v0)] (.int (0 : Int32)) := (by have q := Arv.set Ar52 q52 S52 N52' H52 G52 (fits_nar_char _) W52 0 rfl (Nat.le_of_ble_eq_true rfl); rw [own_char cv0] at q; exact q)
                have N52 := Fr.snoc X52 N0 ge_b51
                refine Ends.pre (T' := T52.setTop (mkF m 162 #[.val (.int x0), .val (.int x1), .val (.int x2), .val (.int (0 : Int32)), .val (.int (1 : Int32)), .val (.int f5), .val (.int f6), .val (.int f7), .val (.int u0), .val (.int u1), .val (.int v0), .val (.int v1), .val (.ref b6), .val (.ref b51), .unset, .unset, .unset, .unset, .unset] [])) (fun t k => st52 _ k) ?_
                have K52 : Keep h0 h52 [] := K51.wr W52 (Or.inr sz_b51)
                refine Ends.pre (fun t k => XS.iload X52.here hx rfl (hb hby at_162) rfl k) ?_
                refine Ends.pre (fun t k => XS.iconst X52.here hx rfl (hb hby at_164) k) ?_
                refine Ends.pre (T' := T52.setTop (mkF m 174 #[.val (.int x0), .val (.int x1), .val (.int x2), .val (.int (0 : Int32)), .val (.int (1 : Int32)), .val (.int f5), .val (.int f6), .val (.int f7), .val (.int u0), .val (.int u1), .val (.int v0), .val (.int v1), .val (.ref b6), .val (.ref b51), .unset, .unset, .unset, .unset, .unset] [])) (fun t k => XS.icmpYes X52.here hx rfl (pc0 := 165) (pc' := 174) rfl (hb hby at_165) rfl (by decide) (by decide) (by decide) k) ?_
                rcases qf5 with rfl | rfl
                · refine Ends.pre (fun t k => XS.iload X52.here hx rfl (hb hby at_174) rfl k) ?_
                  refine Ends.pre (T' := T52.setTop (mkF m 183 #[.val (.int x0), .val (.int x1), .val (.int x2), .val (.int (0 : Int32)), .val (.int (1 : Int32)), .val (.int (0 : Int32)), .val (.int f6), .val (.int f7), .val (.int u0), .val (.int u1), .val (.int v0), .val (.int v1), .val (.ref b6), .val (.ref b51), .unset, .unset, .unset, .unset, .unset] [])) (fun t k => XS.ifYes X52.here hx rfl (pc0 := 176) (pc' := 183) rfl (hb hby at_176) rfl (by decide) (by decide) (by decide) k) ?_
                  obtain ⟨T53, h53, X53, e53, E53, A53, D53, -, st53⟩ := newO X52 hx hZ hown (hw _ (List.mem_of_getElem? (i := 1) rfl)) (hw _ (List.mem_of_getElem? (i := 2) rfl)) (hw _ (List.mem_of_getElem? (i := 3) rfl)) e52 (g := (mkF m 183 #[.val (.int x0), .val (.int x1), .val (.int x2), .val (.int (0 : Int32)), .val (.int (1 : Int32)), .val (.int (0 : Int32)), .val (.int f6), .val (.int f7), .val (.int u0), .val (.int u1), .val (.int v0), .val (.int v1), .val (.ref b6), .val (.ref b51), .unset, .unset, .unset, .unset, .unset] [])) rfl (hb hby at_183) (by decide) (by decide)
                  obtain ⟨b53, g53⟩ : ∃ z, z = h52.size := ⟨_, rfl⟩
                  rw [← g53] at A53 D53 st53
                  have ge_b53 : n0 ≤ b53 := Nat.le_trans (Nat.le_trans (Nat.le_trans (Nat.le_trans Z0 E6.1) E51.1) (Keep.of_wr W52).1) (Nat.le_of_eq g53.symm)
                  have sz_b53 : h0.size ≤ b53 := Nat.le_trans K52.1 (Nat.le_of_eq g53.symm)
                  have CR53 := CHr.trans CR52 (CHr.ext E53 CR52.1)
                  have K53 : Keep h0 h53 [] := K52.ext E53
                  have Fd53_coder : Fld Z h53 b53 "java/lang/String" "coder" "B" (.int (0 : Int32)) := D53 (Or.inr (hw _ (List.mem_of_getElem? (i := 27) rfl))) (ty := .byte) (by decide)
                  have Fd53_value : Fld Z h53 b53 "java/lang/String" "value" "[B" .null := D53 (Or.inr (hw _ (List.mem_of_getElem? (i := 29) rfl))) (ty := (.array .byte)) (by decide)
                  refine Ends.pre (T' := T53.setTop (mkF m 186 #[.val (.int x0), .val (.int x1), .val (.int x2), .val (.int (0 : Int32)), .val (.int (1 : Int32)), .val (.int (0 : Int32)), .val (.int f6), .val (.int f7), .val (.int u0), .val (.int u1), .val (.int v0), .val (.int v1), .val (.ref b6), .val (.ref b51), .unset, .unset, .unset, .unset, .unset] [(.ref b53)])) (fun t k => st53 _ k) ?_
                  refine Ends.pre (fun t k => XS.dup X53.here hx rfl (hb hby at_186) rfl rfl k) ?_
                  refine Ends.pre (fun t k => XS.aload X53.here hx rfl (hb hby at_187) rfl rfl k) ?_
                  have F54 : Arv Z h53 b6 k6 .char (0 : Int32) [] (.int (0 : Int32)) := (Arv.ext ((Arv.ext V6 E51).other W52 (Nat.ne_of_lt (Nat.lt_of_lt_of_le V6.lt (Nat.le_of_eq g51.symm)))) E53)
                  obtain ⟨_, _, ⟨T55, L55, k55, n55⟩, -, Xa55, hSa55, ga55, ⟨Lc55, hQ55, l55, y55, z55, CRc55⟩, st55⟩ := X53.specialBackS hx (y := (⟨"java/lang/String", "<init>", "([C)V"⟩ : MethodName)) rfl hown (mvT hZ (hw _ (List.mem_of_getElem? (i := 4) rfl))) (mvT hZ (hw _ (List.mem_of_getElem? (i := 5) rfl))) (mvT hZ (hw _ (List.mem_of_getElem? (i := 6) rfl))) (by decide) (backOfSH (W := 1) (rm_e1 l Z a0 hw [] b53 b6 k6 h53 n0 (Nat.le_trans (Nat.le_trans (Nat.le_trans (Nat.le_trans Z0 E6.1) E51.1) (Keep.of_wr W52).1) E53.1) A53 Fd53_value Fd53_coder ge_b53 F54) hZ (hw _ (List.mem_of_getElem? (i := 6) rfl)) (hw _ (List.mem_of_getElem? (i := 3) rfl)) (by decide) (by decide) hEL CR53.1) (g := (mkF m 189 #[.val (.int x0), .val (.int x1), .val (.int x2), .val (.int (0 : Int32)), .val (.int (1 : Int32)), .val (.int (0 : Int32)), .val (.int f6), .val (.int f7), .val (.int u0), .val (.int u1), .val (.int v0), .val (.int v1), .val (.ref b6), .val (.ref b51), .unset, .unset, .unset, .unset, .unset] [(.ref b6), (.ref b53), (.ref b53)])) rfl (by rw [hml]; rfl) (Steps.refl _) (a := b53) (argsL := [(.ref b6)]) (rest := [(.ref b53)]) (lenOf pd_4 rfl) rfl (by show 2 * 0 + _ ≤ _; exact Nat.le_of_eq rfl) (hb hby at_189) (fun _ _ => ⟨rfl, e53, (by decide : 3 + 4 ≤ _), (by decide : 5 + 8 ≤ _)⟩)
                  dsimp only [Pt.U, Pt.locs, Pt.cells, Pt.slots] at Xa55 hSa55 ga55 l55 y55 z55 st55 hQ55 CRc55
                  subst l55 y55 z55
                  obtain ⟨X55, hS55, hZ55, hown55⟩ := rebS hS0 (n1 := T53.heap.size) (by rw [e53]; exact (Nat.le_trans (Nat.le_trans (Nat.le_trans (Nat.le_trans hk0 E6.1) E51.1) (Keep.of_wr W52).1) E53.1)) Xa55 hSa55 ga55 hZ hown
                  obtain ⟨rfl, N55q, Kc55, Es55, Cs55, t55, kb55, Vs55, As55⟩ := hQ55
                  have N55 := Fr.app N52 N55q
                  have K55 : Keep h0 T55.heap [] := K53.trans Kc55 (allS (Or.inr sz_b53) all0)
                  have CR55 := CHr.trans CR53 CRc55
                  have hcd55 : StrChars.Road.CodA ([] : List Int32) 0 (0 : Int32) [] := own_lit rfl rfl own_al0
                  have hbd55 : ∀ c ∈ ([] : List Int32), ¬ c < 0 ∧ ¬ (65535 : Int32) < c := own_al0
                  refine Ends.pre (T' := T55.setTop (mkF m 192 #[.val (.int x0), .val (.int x1), .val (.int x2), .val (.int (0 : Int32)), .val (.int (1 : Int32)), .val (.int (0 : Int32)), .val (.int f6), .val (.int f7), .val (.int u0), .val (.int u1), .val (.int v0), .val (.int v1), .val (.ref b6), .val (.ref b51), .unset, .unset, .unset, .unset, .unset] [(.ref b53)])) (fun t k => st55.trans k) ?_
                  refine Ends.pre (fun t k => XS.astore (g := (mkF m 192 #[.val (.int x0), .val (.int x1), .val (.int x2), .val (.int (0 : Int32)), .val (.int (1 : Int32)), .val (.int (0 : Int32)), .val (.int f6), .val (.int f7), .val (.int u0), .val (.int u1), .val (.int v0), .val (.int v1), .val (.ref b6), .val (.ref b51), .unset, .unset, .unset, .unset, .unset] [(.ref b53)])) X55.here hx rfl (hb hby at_192) rfl rfl (l' := #[.val (.int x0), .val (.int x1), .val (.int x2), .val (.int (0 : Int32)), .val (.int (1 : Int32)), .val (.int (0 : Int32)), .val (.int f6), .val (.int f7), .val (.int u0), .val (.int u1), .val (.int v0), .val (.int v1), .val (.ref b6), .val (.ref b51), .val (.ref b53), .unset, .unset, .unset, .unset]) rfl k) ?_
                  obtain ⟨T56, h56, X56, e56, E56, A56, D56, -, st56⟩ := newO X55 hx hZ55 hown55 (hw _ (List.mem_of_getElem? (i := 1) rfl)) (hw _ (List.mem_of_getElem? (i := 2) rfl)) (hw _ (List.mem_of_getElem? (i := 3) rfl)) rfl (g := (mkF m 194 #[.val (.int x0), .val (.int x1), .val (.int x2), .val (.int (0 : Int32)), .val (.int (1 : Int32)), .val (.int (0 : Int32)), .val (.int f6), .val (.int f7), .val (.int u0), .val (.int u1), .val (.int v0), .val (.int v1), .val (.ref b6), .val (.ref b51), .val (.ref b53), .unset, .unset, .unset, .unset] [])) rfl (hb hby at_194) (by decide) (by decide)
                  obtain ⟨b56, g56⟩ : ∃ z, z = T55.heap.size := ⟨_, rfl⟩
                  rw [← g56] at A56 D56 st56
                  have ge_b56 : n0 ≤ b56 := Nat.le_trans (Nat.le_trans (Nat.le_trans (Nat.le_trans (Nat.le_trans (Nat.le_trans Z0 E6.1) E51.1) (Keep.of_wr W52).1) E53.1) Kc55.1) (Nat.le_of_eq g56.symm)
                  have sz_b56 : h0.size ≤ b56 := Nat.le_trans K55.1 (Nat.le_of_eq g56.symm)
                  have CR56 := CHr.trans CR55 (CHr.ext E56 CR55.1)
                  have K56 : Keep h0 h56 [] := K55.ext E56
                  have Fd56_coder : Fld Z h56 b56 "java/lang/String" "coder" "B" (.int (0 : Int32)) := D56 (Or.inr (hw _ (List.mem_of_getElem? (i := 27) rfl))) (ty := .byte) (by decide)
                  have Fd56_value : Fld Z h56 b56 "java/lang/String" "value" "[B" .null := D56 (Or.inr (hw _ (List.mem_of_getElem? (i := 29) rfl))) (ty := (.array .byte)) (by decide)
                  refine Ends.pre (T' := T56.setTop (mkF m 197 #[.val (.int x0), .val (.int x1), .val (.int x2), .val (.int (0 : Int32)), .val (.int (1 : Int32)), .val (.int (0 : Int32)), .val (.int f6), .val (.int f7), .val (.int u0), .val (.int u1), .val (.int v0), .val (.int v1), .val (.ref b6), .val (.ref b51), .val (.ref b53), .unset, .unset, .unset, .unset] [(.ref b56)])) (fun t k => st56 _ k) ?_
                  refine Ends.pre (fun t k => XS.dup X56.here hx rfl (hb hby at_197) rfl rfl k) ?_
                  refine Ends.pre (fun t k => XS.aload X56.here hx rfl (hb hby at_198) rfl rfl k) ?_
                  have hp57 : ∀ c ∈ ([v0] : List Int32), ¬ c < 0 ∧ ¬ (255 : Int32) < c := (own_alS cv0 own_al0)
                  have hbd57 := own_up _ hp57
                  have F58 : Arv Z h56 b51 k51 .char (1 : Int32) [(.int v0)] (.int (0 : Int32)) := (Arv.ext ((Arv.ext V52 E53).keep Kc55 (ninS (Nat.ne_of_lt (Nat.lt_of_lt_of_le (Nat.lt_of_lt_of_le V51.lt (Keep.of_wr W52).1) (Nat.le_of_eq g53.symm))) nin0)) E56)
                  have F59 : Sta Z h56 "java/lang/String" "COMPACT_STRINGS" "Z" (.int cz) := (Sta_keep0 SCS K56)
                  obtain ⟨_, _, ⟨T60, L60, k60, n60⟩, -, X60, ⟨Lc60, hQ60, l60, y60, z60⟩, st60⟩ := X56.specialBack hx (y := (⟨"java/lang/String", "<init>", "([C)V"⟩ : MethodName)) rfl hown55 (mvT hZ55 (hw _ (List.mem_of_getElem? (i := 4) rfl))) (mvT hZ55 (hw _ (List.mem_of_getElem? (i := 5) rfl))) (mvT hZ55 (hw _ (List.mem_of_getElem? (i := 6) rfl))) (by decide) (StrChars.Road.backV (W := 1) hZ55 (own_hws hw) (kI := 4) (hw _ (List.mem_of_getElem? (i := 2) rfl)) (cs := ([v0] : List Int32)) (bs := (([v0] : List Int32).map (fun c => c.toInt8.toInt32))) (n := 1) ge_b56 (Nat.le_trans (Nat.le_trans (Nat.le_trans (Nat.le_trans (Nat.le_trans (Nat.le_trans Z0 E6.1) E51.1) (Keep.of_wr W52).1) E53.1) Kc55.1) E56.1) A56 Fd56_value Fd56_coder F58 F59 hcz rfl rfl (by decide) (by decide) hp57 rfl (by decide) (by decide)) (g := (mkF m 200 #[.val (.int x0), .val (.int x1), .val (.int x2), .val (.int (0 : Int32)), .val (.int (1 : Int32)), .val (.int (0 : Int32)), .val (.int f6), .val (.int f7), .val (.int u0), .val (.int u1), .val (.int v0), .val (.int v1), .val (.ref b6), .val (.ref b51), .val (.ref b53), .unset, .unset, .unset, .unset] [(.ref b51), (.ref b56), (.ref b56)])) rfl (by rw [hml]; rfl) (Steps.refl _) (a := b56) (argsL := [(.ref b51)]) (rest := [(.ref b56)]) (lenOf pd_4 rfl) rfl (by show 2 * 0 + _ ≤ _; exact Nat.le_of_eq rfl) (hb hby at_200) (fun _ _ => ⟨rfl, e56, (by decide : 8 + 1 ≤ _), (by decide : 17 + 1 ≤ _)⟩)
                  dsimp only [Pt.U, Pt.locs, Pt.cells, Pt.slots] at X60 l60 y60 z60 st60 hQ60
                  subst l60 y60 z60
                  obtain ⟨rfl, N60q, Kc60, Es60, Cs60, t60, kb60, gt60, ft60, nt60, Vs60, As60⟩ := hQ60
                  have N60 := Fr.app N55 N60q
                  have K60 : Keep h0 T60.heap [] := K56.trans Kc60 (allS (Or.inr sz_b56) all0)
                  have CR60 := CHr.trans CR56 (CHr.keep Kc60 (sfS (Safe.ext E56 CR55.1 (Safe.new (Nat.le_of_eq g56.symm))) sf0) CR56.1)
                  have hcd60 : StrChars.Road.CodA ([v0] : List Int32) 0 (1 : Int32) ((([v0] : List Int32).map (fun c => c.toInt8.toInt32)).map Value.int) := StrChars.Road.codOf (n := 1) rfl (fun c hc => (hp57 c hc).2)
                  refine Ends.pre (T' := T60.setTop (mkF m 203 #[.val (.int x0), .val (.int x1), .val (.int x2), .val (.int (0 : Int32)), .val (.int (1 : Int32)), .val (.int (0 : Int32)), .val (.int f6), .val (.int f7), .val (.int u0), .val (.int u1), .val (.int v0), .val (.int v1), .val (.ref b6), .val (.ref b51), .val (.ref b53), .unset, .unset, .unset, .unset] [(.ref b56)])) (fun t k => st60.trans k) ?_
                  refine Ends.pre (fun t k => XS.astore (g := (mkF m 203 #[.val (.int x0), .val (.int x1), .val (.int x2), .val (.int (0 : Int32)), .val (.int (1 : Int32)), .val (.int (0 : Int32)), .val (.int f6), .val (.int f7), .val (.int u0), .val (.int u1), .val (.int v0), .val (.int v1), .val (.ref b6), .val (.ref b51), .val (.ref b53), .unset, .unset, .unset, .unset] [(.ref b56)])) X60.here hx rfl (hb hby at_203) rfl rfl (l' := #[.val (.int x0), .val (.int x1), .val (.int x2), .val (.int (0 : Int32)), .val (.int (1 : Int32)), .val (.int (0 : Int32)), .val (.int f6), .val (.int f7), .val (.int u0), .val (.int u1), .val (.int v0), .val (.int v1), .val (.ref b6), .val (.ref b51), .val (.ref b53), .val (.ref b56), .unset, .unset, .unset]) rfl k) ?_
                  have J219_61 : ∀ (TJ61 : State) (XJ61 : SS X60 TJ61) (eJ61 : TJ61.heap = T60.heap) (ac : Addr), Jvm.RoadKit.Ends p e below (EndW s room_1 Z consts_1 (Q_rm0 Z x0 x1 x2 wREAD wWRITE cz fm h0 n0)) (TJ61.setTop (mkF m 219 #[.val (.int x0), .val (.int x1), .val (.int x2), .val (.int (0 : Int32)), .val (.int (1 : Int32)), .val (.int (0 : Int32)), .val (.int f6), .val (.int f7), .val (.int u0), .val (.int u1), .val (.int v0), .val (.int v1), .val (.ref b6), .val (.ref b51), .val (.ref b53), .val (.ref b56), .unset, .unset, .unset] [(.ref ac)])) := by
                    intro TJ61 XJ61 eJ61 ac
                    unfold SS at XJ61
                    refine Ends.pre (fun t k => XS.astore (g := (mkF m 219 #[.val (.int x0), .val (.int x1), .val (.int x2), .val (.int (0 : Int32)), .val (.int (1 : Int32)), .val (.int (0 : Int32)), .val (.int f6), .val (.int f7), .val (.int u0), .val (.int u1), .val (.int v0), .val (.int v1), .val (.ref b6), .val (.ref b51), .val (.ref b53), .val (.ref b56), .unset, .unset, .unset] [(.ref ac)])) XJ61.here hx rfl (hb hby at_219) rfl rfl (l' := #[.val (.int x0), .val (.int x1), .val (.int x2), .val (.int (0 : Int32)), .val (.int (1 : Int32)), .val (.int (0 : Int32)), .val (.int f6), .val (.int f7), .val (.int u0), .val (.int u1), .val (.int v0), .val (.int v1), .val (.ref b6), .val (.ref b51), .val (.ref b53), .val (.ref b56), .val (.ref ac), .unset, .unset]) rfl k) ?_
                    obtain ⟨T62, h62, X62, e62, E62, A62, D62, -, st62⟩ := newO XJ61 hx hZ55 hown55 (hw _ (List.mem_of_getElem? (i := 36) rfl)) (hw _ (List.mem_of_getElem? (i := 37) rfl)) (hw _ (List.mem_of_getElem? (i := 38) rfl)) eJ61 (g := (mkF m 221 #[.val (.int x0), .val (.int x1), .val (.int x2), .val (.int (0 : Int32)), .val (.int (1 : Int32)), .val (.int (0 : Int32)), .val (.int f6), .val (.int f7), .val (.int u0), .val (.int u1), .val (.int v0), .val (.int v1), .val (.ref b6), .val (.ref b51), .val (.ref b53), .val (.ref b56), .val (.ref ac), .unset, .unset] [])) rfl (hb hby at_221) (by decide) (by decide)
                    obtain ⟨b62, g62⟩ : ∃ z, z = T60.heap.size := ⟨_, rfl⟩
                    rw [← g62] at A62 D62 st62
                    have ge_b62 : n0 ≤ b62 := Nat.le_trans (Nat.le_trans (Nat.le_trans (Nat.le_trans (Nat.le_trans (Nat.le_trans (Nat.le_trans (Nat.le_trans Z0 E6.1) E51.1) (Keep.of_wr W52).1) E53.1) Kc55.1) E56.1) Kc60.1) (Nat.le_of_eq g62.symm)
                    have sz_b62 : h0.size ≤ b62 := Nat.le_trans K60.1 (Nat.le_of_eq g62.symm)
                    have CR62 := CHr.trans CR60 (CHr.ext E62 CR60.1)
                    have K62 : Keep h0 h62 [] := K60.ext E62
                    have Fd62_holder : Fld Z h62 b62 "com/example/static_permission_checker/staticpermissionchecker/core/FlowConstraint" "holder" "Ljava/lang/String;" .null := D62 (Or.inr (hw _ (List.mem_of_getElem? (i := 55) rfl))) (ty := (.object "java/lang/String")) (by decide)
                    have Fd62_access : Fld Z h62 b62 "com/example/static_permission_checker/staticpermissionchecker/core/FlowConstraint" "access" "Lcom/example/static_permission_checker/staticpermissionchecker/core/FlowConstraint$Access;" .null := D62 (Or.inr (hw _ (List.mem_of_getElem? (i := 57) rfl))) (ty := (.object "com/example/static_permission_checker/staticpermissionchecker/core/FlowConstraint$Access")) (by decide)
                    have Fd62_guard : Fld Z h62 b62 "com/example/static_permission_checker/staticpermissionchecker/core/FlowConstraint" "guard" "Ljava/lang/String;" .null := D62 (Or.inr (hw _ (List.mem_of_getElem? (i := 59) rfl))) (ty := (.object "java/lang/String")) (by decide)
                    refine Ends.pre (T' := T62.setTop (mkF m 224 #[.val (.int x0), .val (.int x1), .val (.int x2), .val (.int (0 : Int32)), .val (.int (1 : Int32)), .val (.int (0 : Int32)), .val (.int f6), .val (.int f7), .val (.int u0), .val (.int u1), .val (.int v0), .val (.int v1), .val (.ref b6), .val (.ref b51), .val (.ref b53), .val (.ref b56), .val (.ref ac), .unset, .unset] [(.ref b62)])) (fun t k => st62 _ k) ?_
                    refine Ends.pre (fun t k => XS.dup X62.here hx rfl (hb hby at_224) rfl rfl k) ?_
                    refine Ends.pre (fun t k => XS.aload X62.here hx rfl (hb hby at_225) rfl rfl k) ?_
                    refine Ends.pre (fun t k => XS.aload X62.here hx rfl (hb hby at_227) rfl rfl k) ?_
                    refine Ends.pre (fun t k => XS.aload X62.here hx rfl (hb hby at_229) rfl rfl k) ?_
                    obtain ⟨_, _, ⟨T63, L63, k63, n63⟩, -, Xa63, hSa63, ga63, ⟨Lc63, hQ63, l63, y63, z63, CRc63⟩, st63⟩ := X62.specialBackS hx (y := (⟨"com/example/static_permission_checker/staticpermissionchecker/core/FlowConstraint", "<init>", "(Ljava/lang/String;Lcom/example/static_permission_checker/staticpermissionchecker/core/FlowConstraint$Access;Ljava/lang/String;)V"⟩ : MethodName)) rfl hown55 (mvT hZ55 (hw _ (List.mem_of_getElem? (i := 39) rfl))) (mvT hZ55 (hw _ (List.mem_of_getElem? (i := 40) rfl))) (mvT hZ55 (hw _ (List.mem_of_getElem? (i := 41) rfl))) (by decide) (backOfSH (W := 1) (rm7r l Z a0 hw [] b62 b53 ac b56 h62 n0 (Nat.le_trans (Nat.le_trans (Nat.le_trans (Nat.le_trans (Nat.le_trans (Nat.le_trans (Nat.le_trans (Nat.le_trans Z0 E6.1) E51.1) (Keep.of_wr W52).1) E53.1) Kc55.1) E56.1) Kc60.1) E62.1) A62 ge_b62 Fd62_holder Fd62_access Fd62_guard) hZ55 (hw _ (List.mem_of_getElem? (i := 41) rfl)) (hw _ (List.mem_of_getElem? (i := 38) rfl)) (by decide) (by decide) hEL CR62.1) (g := (mkF m 231 #[.val (.int x0), .val (.int x1), .val (.int x2), .val (.int (0 : Int32)), .val (.int (1 : Int32)), .val (.int (0 : Int32)), .val (.int f6), .val (.int f7), .val (.int u0), .val (.int u1), .val (.int v0), .val (.int v1), .val (.ref b6), .val (.ref b51), .val (.ref b53), .val (.ref b56), .val (.ref ac), .unset, .unset] [(.ref b56), (.ref ac), (.ref b53), (.ref b62), (.ref b62)])) rfl (by rw [hml]; rfl) (Steps.refl _) (a := b62) (argsL := [(.ref b53), (.ref ac), (.ref b56)]) (rest := [(.ref b62)]) (lenOf pd_5 rfl) rfl (by show 2 * 0 + _ ≤ _; exact Nat.le_of_eq rfl) (hb hby at_231) (fun _ _ => ⟨rfl, e62, (by decide : 10 + 4 ≤ _), (by decide : 21 + 52 ≤ _)⟩)
                    dsimp only [Pt.U, Pt.locs, Pt.cells, Pt.slots] at Xa63 hSa63 ga63 l63 y63 z63 st63 hQ63 CRc63
                    subst l63 y63 z63
                    obtain ⟨X63, hS63, hZ63, hown63⟩ := rebS hS55 (n1 := T62.heap.size) (by rw [e62]; exact (Nat.le_trans (Nat.le_trans (Nat.le_trans (Nat.le_refl _) E56.1) Kc60.1) E62.1)) Xa63 hSa63 ga63 hZ55 hown55
                    obtain ⟨rfl, N63q, Kc63, Ec63, Fh63, Fg63⟩ := hQ63
                    have N63 := Fr.app N60 N63q
                    have K63 : Keep h0 T63.heap [] := K62.trans Kc63 (allS (Or.inr sz_b62) all0)
                    have CR63 := CHr.trans CR62 CRc63
                    refine Ends.pre (T' := T63.setTop (mkF m 234 #[.val (.int x0), .val (.int x1), .val (.int x2), .val (.int (0 : Int32)), .val (.int (1 : Int32)), .val (.int (0 : Int32)), .val (.int f6), .val (.int f7), .val (.int u0), .val (.int u1), .val (.int v0), .val (.int v1), .val (.ref b6), .val (.ref b51), .val (.ref b53), .val (.ref b56), .val (.ref ac), .unset, .unset] [(.ref b62)])) (fun t k => st63.trans k) ?_
                    refine Ends.pre (fun t k => XS.astore (g := (mkF m 234 #[.val (.int x0), .val (.int x1), .val (.int x2), .val (.int (0 : Int32)), .val (.int (1 : Int32)), .val (.int (0 : Int32)), .val (.int f6), .val (.int f7), .val (.int u0), .val (.int u1), .val (.int v0), .val (.int v1), .val (.ref b6), .val (.ref b51), .val (.ref b53), .val (.ref b56), .val (.ref ac), .unset, .unset] [(.ref b62)])) X63.here hx rfl (hb hby at_234) rfl rfl (l' := #[.val (.int x0), .val (.int x1), .val (.int x2), .val (.int (0 : Int32)), .val (.int (1 : Int32)), .val (.int (0 : Int32)), .val (.int f6), .val (.int f7), .val (.int u0), .val (.int u1), .val (.int v0), .val (.int v1), .val (.ref b6), .val (.ref b51), .val (.ref b53), .val (.ref b56), .val (.ref ac), .val (.ref b62), .unset]) rfl k) ?_
                    refine Ends.pre (fun t k => XS.iload X63.here hx rfl (hb hby at_236) rfl k) ?_
                    refine Ends.pre (T' := T63.setTop (mkF m 241 #[.val (.int x0), .val (.int x1), .val (.int x2), .val (.int (0 : Int32)), .val (.int (1 : Int32)), .val (.int (0 : Int32)), .val (.int f6), .val (.int f7), .val (.int u0), .val (.int u1), .val (.int v0), .val (.int v1), .val (.ref b6), .val (.ref b51), .val (.ref b53), .val (.ref b56), .val (.ref ac), .val (.ref b62), .unset] [])) (fun t k => XS.ifNo X63.here hx rfl (hb hby at_238) rfl (by decide) k) ?_
                    refine Ends.pre (fun t k => XS.iloadN X63.here hx rfl (hb hby at_241) rfl k) ?_
                    refine Ends.pre (fun t k => XS.iload X63.here hx rfl (hb hby at_242) rfl k) ?_
                    refine Ends.pre (T' := T63.setTop (mkF m 275 #[.val (.int x0), .val (.int x1), .val (.int x2), .val (.int (0 : Int32)), .val (.int (1 : Int32)), .val (.int (0 : Int32)), .val (.int f6), .val (.int f7), .val (.int u0), .val (.int u1), .val (.int v0), .val (.int v1), .val (.ref b6), .val (.ref b51), .val (.ref b53), .val (.ref b56), .val (.ref ac), .val (.ref b62), .unset] [])) (fun t k => XS.icmpYes X63.here hx rfl (pc0 := 244) (pc' := 275) rfl (hb hby at_244) rfl (by decide) (by decide) (by decide) k) ?_
                    refine Ends.pre (fun t k => XS.iconst X63.here hx rfl (hb hby at_275) k) ?_
                    refine Ends.pre (fun t k => XS.istore (g := (mkF m 276 #[.val (.int x0), .val (.int x1), .val (.int x2), .val (.int (0 : Int32)), .val (.int (1 : Int32)), .val (.int (0 : Int32)), .val (.int f6), .val (.int f7), .val (.int u0), .val (.int u1), .val (.int v0), .val (.int v1), .val (.ref b6), .val (.ref b51), .val (.ref b53), .val (.ref b56), .val (.ref ac), .val (.ref b62), .unset] [(.int (0 : Int32))])) X63.here hx rfl (hb hby at_276) rfl (l' := #[.val (.int x0), .val (.int x1), .val (.int x2), .val (.int (0 : Int32)), .val (.int (1 : Int32)), .val (.int (0 : Int32)), .val (.int f6), .val (.int f7), .val (.int u0), .val (.int u1), .val (.int v0), .val (.int v1), .val (.ref b6), .val (.ref b51), .val (.ref b53), .val (.ref b56), .val (.ref ac), .val (.ref b62), .val (.int (0 : Int32))]) rfl k) ?_
                    refine Ends.pre (fun t k => XS.aload X63.here hx rfl (hb hby at_278) rfl rfl k) ?_
                    have F64 : Exa Z T63.heap b56 "java/lang/String" := ((Es60.ext E62).keep Kc63)
                    have F65 : Fld Z T63.heap b56 "java/lang/String" "value" "[B" (.ref t60) := ((Vs60.ext E62).keep Kc63 (ninS (Nat.ne_of_lt (Nat.lt_of_lt_of_le (Nat.lt_of_lt_of_le A56.lt Kc60.1) (Nat.le_of_eq g62.symm))) nin0))
                    have F66 : Fld Z T63.heap b56 "java/lang/String" "coder" "B" (.int 0) := ((Cs60.ext E62).keep Kc63 (ninS (Nat.ne_of_lt (Nat.lt_of_lt_of_le (Nat.lt_of_lt_of_le A56.lt Kc60.1) (Nat.le_of_eq g62.symm))) nin0))
                    have F67 : Arv Z T63.heap t60 kb60 .byte (1 : Int32) ((([v0] : List Int32).map (fun c => c.toInt8.toInt32)).map Value.int) (.int 0) := ((Arv.ext As60 E62).keep Kc63 (ninS (Nat.ne_of_lt (Nat.lt_of_lt_of_le As60.lt (Nat.le_of_eq g62.symm))) nin0))
                    have F68 : Exa Z T63.heap b53 "java/lang/String" := ((((Es55.ext E56).keep Kc60).ext E62).keep Kc63)
                    have F69 : Fld Z T63.heap b53 "java/lang/String" "value" "[B" (.ref t55) := ((((Vs55.ext E56).keep Kc60 (ninS (Nat.ne_of_lt (Nat.lt_of_lt_of_le (Nat.lt_of_lt_of_le A53.lt Kc55.1) (Nat.le_of_eq g56.symm))) nin0)).ext E62).keep Kc63 (ninS (Nat.ne_of_lt (Nat.lt_of_lt_of_le (Nat.lt_of_lt_of_le (Nat.lt_of_lt_of_le (Nat.lt_of_lt_of_le A53.lt Kc55.1) E56.1) Kc60.1) (Nat.le_of_eq g62.symm))) nin0))
                    have F70 : Fld Z T63.heap b53 "java/lang/String" "coder" "B" (.int 0) := ((((Cs55.ext E56).keep Kc60 (ninS (Nat.ne_of_lt (Nat.lt_of_lt_of_le (Nat.lt_of_lt_of_le A53.lt Kc55.1) (Nat.le_of_eq g56.symm))) nin0)).ext E62).keep Kc63 (ninS (Nat.ne_of_lt (Nat.lt_of_lt_of_le (Nat.lt_of_lt_of_le (Nat.lt_of_lt_of_le (Nat.lt_of_lt_of_le A53.lt Kc55.1) E56.1) Kc60.1) (Nat.le_of_eq g62.symm))) nin0))
                    have F71 : Arv Z T63.heap t55 kb55 .byte (0 : Int32) [] (.int 0) := ((Arv.ext ((Arv.ext As55 E56).keep Kc60 (ninS (Nat.ne_of_lt (Nat.lt_of_lt_of_le As55.lt (Nat.le_of_eq g56.symm))) nin0)) E62).keep Kc63 (ninS (Nat.ne_of_lt (Nat.lt_of_lt_of_le (Nat.lt_of_lt_of_le (Nat.lt_of_lt_of_le As55.lt E56.1) Kc60.1) (Nat.le_of_eq g62.symm))) nin0))
                    have F72 : Sta Z T63.heap "java/lang/String" "COMPACT_STRINGS" "Z" (.int cz) := (Sta_keep0 SCS K63)
                    have F73 : Sta Z T63.heap "jdk/internal/util/Preconditions" "SIOOBE_FORMATTER" "Ljava/util/function/BiFunction;" fm := (Sta_keep0 SFM K63)
                    obtain ⟨cq74, kq74, q74a, q74b, q74c⟩ := isOf hZ63 rfl Ec63
                    obtain ⟨_, _, ⟨T74, L74, k74, n74⟩, -, X74, ⟨Lc74, hQ74, l74, y74, z74⟩, st74⟩ := X63.virtualBack hx (y := (⟨"com/example/static_permission_checker/staticpermissionchecker/core/FlowConstraint", "holds", "()Z"⟩ : MethodName)) (z := (⟨"com/example/static_permission_checker/staticpermissionchecker/core/FlowConstraint", "holds", "()Z"⟩ : MethodName)) hown63 (mvT hZ63 (hw _ (List.mem_of_getElem? (i := 60) rfl))) (mvT hZ63 (hw _ (List.mem_of_getElem? (i := 61) rfl))) (notFace_of_selects (args := #[]) (mvT hZ63 (hw _ (List.mem_of_getElem? (i := 63) rfl)))) (mvT hZ63 (hw _ (List.mem_of_getElem? (i := 63) rfl))) (mvT hZ63 (hw _ (List.mem_of_getElem? (i := 62) rfl))) (by decide) (backOf (W := 0) (rm10d l Z a0 hw [] b62 b56 t60 kb60 ([v0] : List Int32) (1 : Int32) _ b53 t55 kb55 ([] : List Int32) (0 : Int32) _ cz fm T63.heap n0 (Nat.le_trans (Nat.le_trans (Nat.le_trans (Nat.le_trans (Nat.le_trans (Nat.le_trans (Nat.le_trans (Nat.le_trans (Nat.le_trans Z0 E6.1) E51.1) (Keep.of_wr W52).1) E53.1) Kc55.1) E56.1) Kc60.1) E62.1) Kc63.1) F64 F66 F65 F67 hcd60 hbd57 (Nat.le_of_ble_eq_true rfl) F68 F70 F69 F71 hcd55 hbd55 (Nat.le_of_ble_eq_true rfl) Fh63 Fg63 F72 hcz F73 hfm (by simp)) hZ63 (hw _ (List.mem_of_getElem? (i := 64) rfl)) (hw _ (List.mem_of_getElem? (i := 38) rfl)) (by decide) (by decide)) q74a q74c (g := (mkF m 280 #[.val (.int x0), .val (.int x1), .val (.int x2), .val (.int (0 : Int32)), .val (.int (1 : Int32)), .val (.int (0 : Int32)), .val (.int f6), .val (.int f7), .val (.int u0), .val (.int u1), .val (.int v0), .val (.int v1), .val (.ref b6), .val (.ref b51), .val (.ref b53), .val (.ref b56), .val (.ref ac), .val (.ref b62), .val (.int (0 : Int32))] [(.ref b62)])) rfl (by rw [hml]; rfl) (Steps.refl _) (argsL := []) (rest := []) (lenOf pd_6 rfl) rfl (by show 2 * 0 + _ ≤ _; exact Nat.le_of_eq rfl) (hb hby at_280) (fun _ _ => ⟨rfl, rfl, (by decide : 14 + 0 ≤ _), (by decide : 73 + 0 ≤ _)⟩)
                    dsimp only [Pt.U, Pt.locs, Pt.cells, Pt.slots] at X74 l74 y74 z74 st74 hQ74
                    subst l74 y74 z74
                    obtain ⟨rfl, N74q, eh74⟩ := hQ74
                    have N74 := Fr.app N63 N74q
                    refine Ends.pre (T' := T74.setTop (mkF m 283 #[.val (.int x0), .val (.int x1), .val (.int x2), .val (.int (0 : Int32)), .val (.int (1 : Int32)), .val (.int (0 : Int32)), .val (.int f6), .val (.int f7), .val (.int u0), .val (.int u1), .val (.int v0), .val (.int v1), .val (.ref b6), .val (.ref b51), .val (.ref b53), .val (.ref b56), .val (.ref ac), .val (.ref b62), .val (.int (0 : Int32))] [(.int (0 : Int32))])) (fun t k => st74.trans k) ?_
                    refine Ends.pre (fun t k => XS.iload X74.here hx rfl (hb hby at_283) rfl k) ?_
                    refine Ends.pre (T' := T74.setTop (mkF m 288 #[.val (.int x0), .val (.int x1), .val (.int x2), .val (.int (0 : Int32)), .val (.int (1 : Int32)), .val (.int (0 : Int32)), .val (.int f6), .val (.int f7), .val (.int u0), .val (.int u1), .val (.int v0), .val (.int v1), .val (.ref b6), .val (.ref b51), .val (.ref b53), .val (.ref b56), .val (.ref ac), .val (.ref b62), .val (.int (0 : Int32))] [])) (fun t k => XS.icmpNo X74.here hx rfl (hb hby at_285) rfl (by decide) k) ?_
                    refine Ends.pre (fun t k => XS.iconst X74.here hx rfl (hb hby at_288) k) ?_
                    refine Ends.pre (fun t k => XS.goto X74.here hx rfl (pc0 := 289) (pc' := 293) rfl (hb hby at_289) (by decide) (by decide) k) ?_
                    exact Ends.retW (w := (.int (1 : Int32))) X74 hx Bd.notSynchronized Bd.returns rfl (Or.inl ⟨rfl, Or.inr (Or.inl rfl), _, rfl⟩) (hb hby at_293) eh74 hZ63 hEL hS63 (Nat.le_refl _) hh CR63 ⟨rfl, N74⟩ (by decide) (by decide)
                  refine Ends.pre (fun t k => XS.iload X60.here hx rfl (hb hby at_205) rfl k) ?_
                  by_cases hc207_75 : f7 = 0
                  · refine Ends.pre (T' := T60.setTop (mkF m 216 #[.val (.int x0), .val (.int x1), .val (.int x2), .val (.int (0 : Int32)), .val (.int (1 : Int32)), .val (.int (0 : Int32)), .val (.int f6), .val (.int f7), .val (.int u0), .val (.int u1), .val (.int v0), .val (.int v1), .val (.ref b6), .val (.ref b51), .val (.ref b53), .val (.ref b56), .unset, .unset, .unset] [])) (fun t k => XS.ifYes X60.here hx rfl (pc0 := 207) (pc' := 216) rfl (hb hby at_207) rfl (Jvm.Free.XT.i0_eq_t hc207_75) (by decide) (by decide) k) ?_
                    have F76 : Sta Z T60.heap "com/example/static_permission_checker/staticpermissionchecker/core/FlowConstraint$Access" "READ" "Lcom/example/static_permission_checker/staticpermissionchecker/core/FlowConstraint$Access;" (.ref wREAD) := (Sta_keep0 S_READ K60)
                    obtain ⟨T77, X77, e77, st77⟩ := getS2 X60 hx hZ55 hown55 (host := "") (Or.inl (hw _ (List.mem_of_getElem? (i := 33) rfl))) Via.refl rfl F76 (g := (mkF m 216 #[.val (.int x0), .val (.int x1), .val (.int x2), .val (.int (0 : Int32)), .val (.int (1 : Int32)), .val (.int (0 : Int32)), .val (.int f6), .val (.int f7), .val (.int u0), .val (.int u1), .val (.int v0), .val (.int v1), .val (.ref b6), .val (.ref b51), .val (.ref b53), .val (.ref b56), .unset, .unset, .unset] [])) rfl (hb hby at_216)
                    refine Ends.pre (T' := T77.setTop (mkF m 219 #[.val (.int x0), .val (.int x1), .val (.int x2), .val (.int (0 : Int32)), .val (.int (1 : Int32)), .val (.int (0 : Int32)), .val (.int f6), .val (.int f7), .val (.int u0), .val (.int u1), .val (.int v0), .val (.int v1), .val (.ref b6), .val (.ref b51), .val (.ref b53), .val (.ref b56), .unset, .unset, .unset] [(.ref wREAD)])) (fun t k => st77 _ k) ?_
                    exact J219_61 T77 X77 e77 wREAD
                  · refine Ends.pre (T' := T60.setTop (mkF m 210 #[.val (.int x0), .val (.int x1), .val (.int x2), .val (.int (0 : Int32)), .val (.int (1 : Int32)), .val (.int (0 : Int32)), .val (.int f6), .val (.int f7), .val (.int u0), .val (.int u1), .val (.int v0), .val (.int v1), .val (.ref b6), .val (.ref b51), .val (.ref b53), .val (.ref b56), .unset, .unset, .unset] [])) (fun t k => XS.ifNo X60.here hx rfl (hb hby at_207) rfl (Jvm.Free.XT.i0_eq_f hc207_75) k) ?_
                    have F78 : Sta Z T60.heap "com/example/static_permission_checker/staticpermissionchecker/core/FlowConstraint$Access" "WRITE" "Lcom/example/static_permission_checker/staticpermissionchecker/core/FlowConstraint$Access;" (.ref wWRITE) := (Sta_keep0 S_WRITE K60)
                    obtain ⟨T79, X79, e79, st79⟩ := getS2 X60 hx hZ55 hown55 (host := "") (Or.inl (hw _ (List.mem_of_getElem? (i := 75) rfl))) Via.refl rfl F78 (g := (mkF m 210 #[.val (.int x0), .val (.int x1), .val (.int x2), .val (.int (0 : Int32)), .val (.int (1 : Int32)), .val (.int (0 : Int32)), .val (.int f6), .val (.int f7), .val (.int u0), .val (.int u1), .val (.int v0), .val (.int v1), .val (.ref b6), .val (.ref b51), .val (.ref b53), .val (.ref b56), .unset, .unset, .unset] [])) rfl (hb hby at_210)
                    refine Ends.pre (T' := T79.setTop (mkF m 213 #[.val (.int x0), .val (.int x1), .val (.int x2), .val (.int (0 : Int32)), .val (.int (1 : Int32)), .val (.int (0 : Int32)), .val (.int f6), .val (.int f7), .val (.int u0), .val (.int u1), .val (.int v0), .val (.int v1), .val (.ref b6), .val (.ref b51), .val (.ref b53), .val (.ref b56), .unset, .unset, .unset] [(.ref wWRITE)])) (fun t k => st79 _ k) ?_
                    refine Ends.pre (fun t k => XS.goto X79.here hx rfl (pc0 := 213) (pc' := 219) rfl (hb hby at_213) (by decide) (by decide) k) ?_
                    exact J219_61 T79 X79 e79 wWRITE
                · refine Ends.pre (fun t k => XS.iload X52.here hx rfl (hb hby at_174) rfl k) ?_
                  refine Ends.pre (T' := T52.setTop (mkF m 179 #[.val (.int x0), .val (.int x1), .val (.int x2), .val (.int (0 : Int32)), .val (.int (1 : Int32)), .val (.int (1 : Int32)), .val (.int f6), .val (.int f7), .val (.int u0), .val (.int u1), .val (.int v0), .val (.int v1), .val (.ref b6), .val (.ref b51), .unset, .unset, .unset, .unset, .unset] [])) (fun t k => XS.ifNo X52.here hx rfl (hb hby at_176) rfl (by decide) k) ?_
                  refine Ends.pre (fun t k => XS.aconstNull X52.here hx rfl (hb hby at_179) k) ?_
                  refine Ends.pre (fun t k => XS.goto X52.here hx rfl (pc0 := 180) (pc' := 192) rfl (hb hby at_180) (by decide) (by decide) k) ?_
                  refine Ends.pre (fun t k => XS.astore (g := (mkF m 192 #[.val (.int x0), .val (.int x1), .val (.int x2), .val (.int (0 : Int32)), .val (.int (1 : Int32)), .val (.int (1 : Int32)), .val (.int f6), .val (.int f7), .val (.int u0), .val (.int u1), .val (.int v0), .val (.int v1), .val (.ref b6), .val (.ref b51), .unset, .unset, .unset, .unset, .unset] [.null])) X52.here hx rfl (hb hby at_192) rfl rfl (l' := #[.val (.int x0), .val (.int x1), .val (.int x2), .val (.int (0 : Int32)), .val (.int (1 : Int32)), .val (.int (1 : Int32)), .val (.int f6), .val (.int f7), .val (.int u0), .val (.int u1), .val (.int v0), .val (.int v1), .val (.ref b6), .val (.ref b51), .val .null, .unset, .unset, .unset, .unset]) rfl k) ?_
                  obtain ⟨T80, h80, X80, e80, E80, A80, D80, -, st80⟩ := newO X52 hx hZ hown (hw _ (List.mem_of_getElem? (i := 1) rfl)) (hw _ (List.mem_of_getElem? (i := 2) rfl)) (hw _ (List.mem_of_getElem? (i := 3) rfl)) e52 (g := (mkF m 194 #[.val (.int x0), .val (.int x1), .val (.int x2), .val (.int (0 : Int32)), .val (.int (1 : Int32)), .val (.int (1 : Int32)), .val (.int f6), .val (.int f7), .val (.int u0), .val (.int u1), .val (.int v0), .val (.int v1), .val (.ref b6), .val (.ref b51), .val .null, .unset, .unset, .unset, .unset] [])) rfl (hb hby at_194) (by decide) (by decide)
                  obtain ⟨b80, g80⟩ : ∃ z, z = h52.size := ⟨_, rfl⟩
                  rw [← g80] at A80 D80 st80
                  have ge_b80 : n0 ≤ b80 := Nat.le_trans (Nat.le_trans (Nat.le_trans (Nat.le_trans Z0 E6.1) E51.1) (Keep.of_wr W52).1) (Nat.le_of_eq g80.symm)
                  have sz_b80 : h0.size ≤ b80 := Nat.le_trans K52.1 (Nat.le_of_eq g80.symm)
                  have CR80 := CHr.trans CR52 (CHr.ext E80 CR52.1)
                  have K80 : Keep h0 h80 [] := K52.ext E80
                  have Fd80_coder : Fld Z h80 b80 "java/lang/String" "coder" "B" (.int (0 : Int32)) := D80 (Or.inr (hw _ (List.mem_of_getElem? (i := 27) rfl))) (ty := .byte) (by decide)
                  have Fd80_value : Fld Z h80 b80 "java/lang/String" "value" "[B" .null := D80 (Or.inr (hw _ (List.mem_of_getElem? (i := 29) rfl))) (ty := (.array .byte)) (by decide)
                  refine Ends.pre (T' := T80.setTop (mkF m 197 #[.val (.int x0), .val (.int x1), .val (.int x2), .val (.int (0 : Int32)), .val (.int (1 : Int32)), .val (.int (1 : Int32)), .val (.int f6), .val (.int f7), .val (.int u0), .val (.int u1), .val (.int v0), .val (.int v1), .val (.ref b6), .val (.ref b51), .val .null, .unset, .unset, .unset, .unset] [(.ref b80)])) (fun t k => st80 _ k) ?_
                  refine Ends.pre (fun t k => XS.dup X80.here hx rfl (hb hby at_197) rfl rfl k) ?_
                  refine Ends.pre (fun t k => XS.aload X80.here hx rfl (hb hby at_198) rfl rfl k) ?_
                  have hp81 : ∀ c ∈ ([v0] : List Int32), ¬ c < 0 ∧ ¬ (255 : Int32) < c := (own_alS cv0 own_al0)
                  have hbd81 := own_up _ hp81
                  have F82 : Arv Z h80 b51 k51 .char (1 : Int32) [(.int v0)] (.int (0 : Int32)) := (Arv.ext V52 E80)
                  have F83 : Sta Z h80 "java/lang/String" "COMPACT_STRINGS" "Z" (.int cz) := (Sta_keep0 SCS K80)
                  obtain ⟨_, _, ⟨T84, L84, k84, n84⟩, -, X84, ⟨Lc84, hQ84, l84, y84, z84⟩, st84⟩ := X80.specialBack hx (y := (⟨"java/lang/String", "<init>", "([C)V"⟩ : MethodName)) rfl hown (mvT hZ (hw _ (List.mem_of_getElem? (i := 4) rfl))) (mvT hZ (hw _ (List.mem_of_getElem? (i := 5) rfl))) (mvT hZ (hw _ (List.mem_of_getElem? (i := 6) rfl))) (by decide) (StrChars.Road.backV (W := 1) hZ (own_hws hw) (kI := 4) (hw _ (List.mem_of_getElem? (i := 2) rfl)) (cs := ([v0] : List Int32)) (bs := (([v0] : List Int32).map (fun c => c.toInt8.toInt32))) (n := 1) ge_b80 (Nat.le_trans (Nat.le_trans (Nat.le_trans (Nat.le_trans Z0 E6.1) E51.1) (Keep.of_wr W52).1) E80.1) A80 Fd80_value Fd80_coder F82 F83 hcz rfl rfl (by decide) (by decide) hp81 rfl (by decide) (by decide)) (g := (mkF m 200 #[.val (.int x0), .val (.int x1), .val (.int x2), .val (.int (0 : Int32)), .val (.int (1 : Int32)), .val (.int (1 : Int32)), .val (.int f6), .val (.int f7), .val (.int u0), .val (.int u1), .val (.int v0), .val (.int v1), .val (.ref b6), .val (.ref b51), .val .null, .unset, .unset, .unset, .unset] [(.ref b51), (.ref b80), (.ref b80)])) rfl (by rw [hml]; rfl) (Steps.refl _) (a := b80) (argsL := [(.ref b51)]) (rest := [(.ref b80)]) (lenOf pd_4 rfl) rfl (by show 2 * 0 + _ ≤ _; exact Nat.le_of_eq rfl) (hb hby at_200) (fun _ _ => ⟨rfl, e80, (by decide : 3 + 1 ≤ _), (by decide : 5 + 1 ≤ _)⟩)
                  dsimp only [Pt.U, Pt.locs, Pt.cells, Pt.slots] at X84 l84 y84 z84 st84 hQ84
                  subst l84 y84 z84
                  obtain ⟨rfl, N84q, Kc84, Es84, Cs84, t84, kb84, gt84, ft84, nt84, Vs84, As84⟩ := hQ84
                  have N84 := Fr.app N52 N84q
                  have K84 : Keep h0 T84.heap [] := K80.trans Kc84 (allS (Or.inr sz_b80) all0)
                  have CR84 := CHr.trans CR80 (CHr.keep Kc84 (sfS (Safe.ext E80 CR52.1 (Safe.new (Nat.le_of_eq g80.symm))) sf0) CR80.1)
                  have hcd84 : StrChars.Road.CodA ([v0] : List Int32) 0 (1 : Int32) ((([v0] : List Int32).map (fun c => c.toInt8.toInt32)).map Value.int) := StrChars.Road.codOf (n := 1) rfl (fun c hc => (hp81 c hc).2)
                  refine Ends.pre (T' := T84.setTop (mkF m 203 #[.val (.int x0), .val (.int x1), .val (.int x2), .val (.int (0 : Int32)), .val (.int (1 : Int32)), .val (.int (1 : Int32)), .val (.int f6), .val (.int f7), .val (.int u0), .val (.int u1), .val (.int v0), .val (.int v1), .val (.ref b6), .val (.ref b51), .val .null, .unset, .unset, .unset, .unset] [(.ref b80)])) (fun t k => st84.trans k) ?_
                  refine Ends.pre (fun t k => XS.astore (g := (mkF m 203 #[.val (.int x0), .val (.int x1), .val (.int x2), .val (.int (0 : Int32)), .val (.int (1 : Int32)), .val (.int (1 : Int32)), .val (.int f6), .val (.int f7), .val (.int u0), .val (.int u1), .val (.int v0), .val (.int v1), .val (.ref b6), .val (.ref b51), .val .null, .unset, .unset, .unset, .unset] [(.ref b80)])) X84.here hx rfl (hb hby at_203) rfl rfl (l' := #[.val (.int x0), .val (.int x1), .val (.int x2), .val (.int (0 : Int32)), .val (.int (1 : Int32)), .val (.int (1 : Int32)), .val (.int f6), .val (.int f7), .val (.int u0), .val (.int u1), .val (.int v0), .val (.int v1), .val (.ref b6), .val (.ref b51), .val .null, .val (.ref b80), .unset, .unset, .unset]) rfl k) ?_
                  have J219_85 : ∀ (TJ85 : State) (XJ85 : SS X84 TJ85) (eJ85 : TJ85.heap = T84.heap) (ac : Addr), Jvm.RoadKit.Ends p e below (EndW s room_1 Z consts_1 (Q_rm0 Z x0 x1 x2 wREAD wWRITE cz fm h0 n0)) (TJ85.setTop (mkF m 219 #[.val (.int x0), .val (.int x1), .val (.int x2), .val (.int (0 : Int32)), .val (.int (1 : Int32)), .val (.int (1 : Int32)), .val (.int f6), .val (.int f7), .val (.int u0), .val (.int u1), .val (.int v0), .val (.int v1), .val (.ref b6), .val (.ref b51), .val .null, .val (.ref b80), .unset, .unset, .unset] [(.ref ac)])) := by
                    intro TJ85 XJ85 eJ85 ac
                    unfold SS at XJ85
                    refine Ends.pre (fun t k => XS.astore (g := (mkF m 219 #[.val (.int x0), .val (.int x1), .val (.int x2), .val (.int (0 : Int32)), .val (.int (1 : Int32)), .val (.int (1 : Int32)), .val (.int f6), .val (.int f7), .val (.int u0), .val (.int u1), .val (.int v0), .val (.int v1), .val (.ref b6), .val (.ref b51), .val .null, .val (.ref b80), .unset, .unset, .unset] [(.ref ac)])) XJ85.here hx rfl (hb hby at_219) rfl rfl (l' := #[.val (.int x0), .val (.int x1), .val (.int x2), .val (.int (0 : Int32)), .val (.int (1 : Int32)), .val (.int (1 : Int32)), .val (.int f6), .val (.int f7), .val (.int u0), .val (.int u1), .val (.int v0), .val (.int v1), .val (.ref b6), .val (.ref b51), .val .null, .val (.ref b80), .val (.ref ac), .unset, .unset]) rfl k) ?_
                    obtain ⟨T86, h86, X86, e86, E86, A86, D86, -, st86⟩ := newO XJ85 hx hZ hown (hw _ (List.mem_of_getElem? (i := 36) rfl)) (hw _ (List.mem_of_getElem? (i := 37) rfl)) (hw _ (List.mem_of_getElem? (i := 38) rfl)) eJ85 (g := (mkF m 221 #[.val (.int x0), .val (.int x1), .val (.int x2), .val (.int (0 : Int32)), .val (.int (1 : Int32)), .val (.int (1 : Int32)), .val (.int f6), .val (.int f7), .val (.int u0), .val (.int u1), .val (.int v0), .val (.int v1), .val (.ref b6), .val (.ref b51), .val .null, .val (.ref b80), .val (.ref ac), .unset, .unset] [])) rfl (hb hby at_221) (by decide) (by decide)
                    obtain ⟨b86, g86⟩ : ∃ z, z = T84.heap.size := ⟨_, rfl⟩
                    rw [← g86] at A86 D86 st86
                    have ge_b86 : n0 ≤ b86 := Nat.le_trans (Nat.le_trans (Nat.le_trans (Nat.le_trans (Nat.le_trans (Nat.le_trans Z0 E6.1) E51.1) (Keep.of_wr W52).1) E80.1) Kc84.1) (Nat.le_of_eq g86.symm)
                    have sz_b86 : h0.size ≤ b86 := Nat.le_trans K84.1 (Nat.le_of_eq g86.symm)
                    have CR86 := CHr.trans CR84 (CHr.ext E86 CR84.1)
                    have K86 : Keep h0 h86 [] := K84.ext E86
                    have Fd86_holder : Fld Z h86 b86 "com/example/static_permission_checker/staticpermissionchecker/core/FlowConstraint" "holder" "Ljava/lang/String;" .null := D86 (Or.inr (hw _ (List.mem_of_getElem? (i := 55) rfl))) (ty := (.object "java/lang/String")) (by decide)
                    have Fd86_access : Fld Z h86 b86 "com/example/static_permission_checker/staticpermissionchecker/core/FlowConstraint" "access" "Lcom/example/static_permission_checker/staticpermissionchecker/core/FlowConstraint$Access;" .null := D86 (Or.inr (hw _ (List.mem_of_getElem? (i := 57) rfl))) (ty := (.object "com/example/static_permission_checker/staticpermissionchecker/core/FlowConstraint$Access")) (by decide)
                    have Fd86_guard : Fld Z h86 b86 "com/example/static_permission_checker/staticpermissionchecker/core/FlowConstraint" "guard" "Ljava/lang/String;" .null := D86 (Or.inr (hw _ (List.mem_of_getElem? (i := 59) rfl))) (ty := (.object "java/lang/String")) (by decide)
                    refine Ends.pre (T' := T86.setTop (mkF m 224 #[.val (.int x0), .val (.int x1), .val (.int x2), .val (.int (0 : Int32)), .val (.int (1 : Int32)), .val (.int (1 : Int32)), .val (.int f6), .val (.int f7), .val (.int u0), .val (.int u1), .val (.int v0), .val (.int v1), .val (.ref b6), .val (.ref b51), .val .null, .val (.ref b80), .val (.ref ac), .unset, .unset] [(.ref b86)])) (fun t k => st86 _ k) ?_
                    refine Ends.pre (fun t k => XS.dup X86.here hx rfl (hb hby at_224) rfl rfl k) ?_
                    refine Ends.pre (fun t k => XS.aload X86.here hx rfl (hb hby at_225) rfl rfl k) ?_
                    refine Ends.pre (fun t k => XS.aload X86.here hx rfl (hb hby at_227) rfl rfl k) ?_
                    refine Ends.pre (fun t k => XS.aload X86.here hx rfl (hb hby at_229) rfl rfl k) ?_
                    obtain ⟨_, _, ⟨T87, L87, k87, n87⟩, -, Xa87, hSa87, ga87, ⟨Lc87, hQ87, l87, y87, z87, CRc87⟩, st87⟩ := X86.specialBackS hx (y := (⟨"com/example/static_permission_checker/staticpermissionchecker/core/FlowConstraint", "<init>", "(Ljava/lang/String;Lcom/example/static_permission_checker/staticpermissionchecker/core/FlowConstraint$Access;Ljava/lang/String;)V"⟩ : MethodName)) rfl hown (mvT hZ (hw _ (List.mem_of_getElem? (i := 39) rfl))) (mvT hZ (hw _ (List.mem_of_getElem? (i := 40) rfl))) (mvT hZ (hw _ (List.mem_of_getElem? (i := 41) rfl))) (by decide) (backOfSH (W := 1) (rm7n l Z a0 hw [] b86 ac b80 h86 n0 (Nat.le_trans (Nat.le_trans (Nat.le_trans (Nat.le_trans (Nat.le_trans (Nat.le_trans Z0 E6.1) E51.1) (Keep.of_wr W52).1) E80.1) Kc84.1) E86.1) A86 ge_b86 Fd86_holder Fd86_access Fd86_guard) hZ (hw _ (List.mem_of_getElem? (i := 41) rfl)) (hw _ (List.mem_of_getElem? (i := 38) rfl)) (by decide) (by decide) hEL CR86.1) (g := (mkF m 231 #[.val (.int x0), .val (.int x1), .val (.int x2), .val (.int (0 : Int32)), .val (.int (1 : Int32)), .val (.int (1 : Int32)), .val (.int f6), .val (.int f7), .val (.int u0), .val (.int u1), .val (.int v0), .val (.int v1), .val (.ref b6), .val (.ref b51), .val .null, .val (.ref b80), .val (.ref ac), .unset, .unset] [(.ref b80), (.ref ac), .null, (.ref b86), (.ref b86)])) rfl (by rw [hml]; rfl) (Steps.refl _) (a := b86) (argsL := [.null, (.ref ac), (.ref b80)]) (rest := [(.ref b86)]) (lenOf pd_5 rfl) rfl (by show 2 * 0 + _ ≤ _; exact Nat.le_of_eq rfl) (hb hby at_231) (fun _ _ => ⟨rfl, e86, (by decide : 5 + 4 ≤ _), (by decide : 9 + 52 ≤ _)⟩)
                    dsimp only [Pt.U, Pt.locs, Pt.cells, Pt.slots] at Xa87 hSa87 ga87 l87 y87 z87 st87 hQ87 CRc87
                    subst l87 y87 z87
                    obtain ⟨X87, hS87, hZ87, hown87⟩ := rebS hS0 (n1 := T86.heap.size) (by rw [e86]; exact (Nat.le_trans (Nat.le_trans (Nat.le_trans (Nat.le_trans (Nat.le_trans (Nat.le_trans hk0 E6.1) E51.1) (Keep.of_wr W52).1) E80.1) Kc84.1) E86.1)) Xa87 hSa87 ga87 hZ hown
                    obtain ⟨rfl, N87q, Kc87, Ec87, Fh87, Fg87⟩ := hQ87
                    have N87 := Fr.app N84 N87q
                    have K87 : Keep h0 T87.heap [] := K86.trans Kc87 (allS (Or.inr sz_b86) all0)
                    have CR87 := CHr.trans CR86 CRc87
                    refine Ends.pre (T' := T87.setTop (mkF m 234 #[.val (.int x0), .val (.int x1), .val (.int x2), .val (.int (0 : Int32)), .val (.int (1 : Int32)), .val (.int (1 : Int32)), .val (.int f6), .val (.int f7), .val (.int u0), .val (.int u1), .val (.int v0), .val (.int v1), .val (.ref b6), .val (.ref b51), .val .null, .val (.ref b80), .val (.ref ac), .unset, .unset] [(.ref b86)])) (fun t k => st87.trans k) ?_
                    refine Ends.pre (fun t k => XS.astore (g := (mkF m 234 #[.val (.int x0), .val (.int x1), .val (.int x2), .val (.int (0 : Int32)), .val (.int (1 : Int32)), .val (.int (1 : Int32)), .val (.int f6), .val (.int f7), .val (.int u0), .val (.int u1), .val (.int v0), .val (.int v1), .val (.ref b6), .val (.ref b51), .val .null, .val (.ref b80), .val (.ref ac), .unset, .unset] [(.ref b86)])) X87.here hx rfl (hb hby at_234) rfl rfl (l' := #[.val (.int x0), .val (.int x1), .val (.int x2), .val (.int (0 : Int32)), .val (.int (1 : Int32)), .val (.int (1 : Int32)), .val (.int f6), .val (.int f7), .val (.int u0), .val (.int u1), .val (.int v0), .val (.int v1), .val (.ref b6), .val (.ref b51), .val .null, .val (.ref b80), .val (.ref ac), .val (.ref b86), .unset]) rfl k) ?_
                    refine Ends.pre (fun t k => XS.iload X87.here hx rfl (hb hby at_236) rfl k) ?_
                    refine Ends.pre (T' := T87.setTop (mkF m 275 #[.val (.int x0), .val (.int x1), .val (.int x2), .val (.int (0 : Int32)), .val (.int (1 : Int32)), .val (.int (1 : Int32)), .val (.int f6), .val (.int f7), .val (.int u0), .val (.int u1), .val (.int v0), .val (.int v1), .val (.ref b6), .val (.ref b51), .val .null, .val (.ref b80), .val (.ref ac), .val (.ref b86), .unset] [])) (fun t k => XS.ifYes X87.here hx rfl (pc0 := 238) (pc' := 275) rfl (hb hby at_238) rfl (by decide) (by decide) (by decide) k) ?_
                    refine Ends.pre (fun t k => XS.iconst X87.here hx rfl (hb hby at_275) k) ?_
                    refine Ends.pre (fun t k => XS.istore (g := (mkF m 276 #[.val (.int x0), .val (.int x1), .val (.int x2), .val (.int (0 : Int32)), .val (.int (1 : Int32)), .val (.int (1 : Int32)), .val (.int f6), .val (.int f7), .val (.int u0), .val (.int u1), .val (.int v0), .val (.int v1), .val (.ref b6), .val (.ref b51), .val .null, .val (.ref b80), .val (.ref ac), .val (.ref b86), .unset] [(.int (0 : Int32))])) X87.here hx rfl (hb hby at_276) rfl (l' := #[.val (.int x0), .val (.int x1), .val (.int x2), .val (.int (0 : Int32)), .val (.int (1 : Int32)), .val (.int (1 : Int32)), .val (.int f6), .val (.int f7), .val (.int u0), .val (.int u1), .val (.int v0), .val (.int v1), .val (.ref b6), .val (.ref b51), .val .null, .val (.ref b80), .val (.ref ac), .val (.ref b86), .val (.int (0 : Int32))]) rfl k) ?_
                    refine Ends.pre (fun t k => XS.aload X87.here hx rfl (hb hby at_278) rfl rfl k) ?_
                    have F88 : Exa Z T87.heap b80 "java/lang/String" := ((Es84.ext E86).keep Kc87)
                    have F89 : Fld Z T87.heap b80 "java/lang/String" "value" "[B" (.ref t84) := ((Vs84.ext E86).keep Kc87 (ninS (Nat.ne_of_lt (Nat.lt_of_lt_of_le (Nat.lt_of_lt_of_le A80.lt Kc84.1) (Nat.le_of_eq g86.symm))) nin0))
                    have F90 : Fld Z T87.heap b80 "java/lang/String" "coder" "B" (.int 0) := ((Cs84.ext E86).keep Kc87 (ninS (Nat.ne_of_lt (Nat.lt_of_lt_of_le (Nat.lt_of_lt_of_le A80.lt Kc84.1) (Nat.le_of_eq g86.symm))) nin0))
                    have F91 : Arv Z T87.heap t84 kb84 .byte (1 : Int32) ((([v0] : List Int32).map (fun c => c.toInt8.toInt32)).map Value.int) (.int 0) := ((Arv.ext As84 E86).keep Kc87 (ninS (Nat.ne_of_lt (Nat.lt_of_lt_of_le As84.lt (Nat.le_of_eq g86.symm))) nin0))
                    have F92 : Sta Z T87.heap "java/lang/String" "COMPACT_STRINGS" "Z" (.int cz) := (Sta_keep0 SCS K87)
                    have F93 : Sta Z T87.heap "jdk/internal/util/Preconditions" "SIOOBE_FORMATTER" "Ljava/util/function/BiFunction;" fm := (Sta_keep0 SFM K87)
                    obtain ⟨cq94, kq94, q94a, q94b, q94c⟩ := isOf hZ87 rfl Ec87
                    obtain ⟨_, _, ⟨T94, L94, k94, n94⟩, -, X94, ⟨Lc94, hQ94, l94, y94, z94⟩, st94⟩ := X87.virtualBack hx (y := (⟨"com/example/static_permission_checker/staticpermissionchecker/core/FlowConstraint", "holds", "()Z"⟩ : MethodName)) (z := (⟨"com/example/static_permission_checker/staticpermissionchecker/core/FlowConstraint", "holds", "()Z"⟩ : MethodName)) hown87 (mvT hZ87 (hw _ (List.mem_of_getElem? (i := 60) rfl))) (mvT hZ87 (hw _ (List.mem_of_getElem? (i := 61) rfl))) (notFace_of_selects (args := #[]) (mvT hZ87 (hw _ (List.mem_of_getElem? (i := 63) rfl)))) (mvT hZ87 (hw _ (List.mem_of_getElem? (i := 63) rfl))) (mvT hZ87 (hw _ (List.mem_of_getElem? (i := 62) rfl))) (by decide) (backOf (W := 0) (rm10n l Z a0 hw [] b86 b80 t84 kb84 ([v0] : List Int32) (1 : Int32) _  cz fm T87.heap n0 (Nat.le_trans (Nat.le_trans (Nat.le_trans (Nat.le_trans (Nat.le_trans (Nat.le_trans (Nat.le_trans Z0 E6.1) E51.1) (Keep.of_wr W52).1) E80.1) Kc84.1) E86.1) Kc87.1) F88 F90 F89 F91 hcd84 hbd81 (Nat.le_of_ble_eq_true rfl)  Fh87 Fg87 F92 hcz F93 hfm ) hZ87 (hw _ (List.mem_of_getElem? (i := 64) rfl)) (hw _ (List.mem_of_getElem? (i := 38) rfl)) (by decide) (by decide)) q94a q94c (g := (mkF m 280 #[.val (.int x0), .val (.int x1), .val (.int x2), .val (.int (0 : Int32)), .val (.int (1 : Int32)), .val (.int (1 : Int32)), .val (.int f6), .val (.int f7), .val (.int u0), .val (.int u1), .val (.int v0), .val (.int v1), .val (.ref b6), .val (.ref b51), .val .null, .val (.ref b80), .val (.ref ac), .val (.ref b86), .val (.int (0 : Int32))] [(.ref b86)])) rfl (by rw [hml]; rfl) (Steps.refl _) (argsL := []) (rest := []) (lenOf pd_6 rfl) rfl (by show 2 * 0 + _ ≤ _; exact Nat.le_of_eq rfl) (hb hby at_280) (fun _ _ => ⟨rfl, rfl, (by decide : 9 + 0 ≤ _), (by decide : 61 + 0 ≤ _)⟩)
                    dsimp only [Pt.U, Pt.locs, Pt.cells, Pt.slots] at X94 l94 y94 z94 st94 hQ94
                    subst l94 y94 z94
                    obtain ⟨rfl, N94q, eh94⟩ := hQ94
                    have N94 := Fr.app N87 N94q
                    refine Ends.pre (T' := T94.setTop (mkF m 283 #[.val (.int x0), .val (.int x1), .val (.int x2), .val (.int (0 : Int32)), .val (.int (1 : Int32)), .val (.int (1 : Int32)), .val (.int f6), .val (.int f7), .val (.int u0), .val (.int u1), .val (.int v0), .val (.int v1), .val (.ref b6), .val (.ref b51), .val .null, .val (.ref b80), .val (.ref ac), .val (.ref b86), .val (.int (0 : Int32))] [(.int (0 : Int32))])) (fun t k => st94.trans k) ?_
                    refine Ends.pre (fun t k => XS.iload X94.here hx rfl (hb hby at_283) rfl k) ?_
                    refine Ends.pre (T' := T94.setTop (mkF m 288 #[.val (.int x0), .val (.int x1), .val (.int x2), .val (.int (0 : Int32)), .val (.int (1 : Int32)), .val (.int (1 : Int32)), .val (.int f6), .val (.int f7), .val (.int u0), .val (.int u1), .val (.int v0), .val (.int v1), .val (.ref b6), .val (.ref b51), .val .null, .val (.ref b80), .val (.ref ac), .val (.ref b86), .val (.int (0 : Int32))] [])) (fun t k => XS.icmpNo X94.here hx rfl (hb hby at_285) rfl (by decide) k) ?_
                    refine Ends.pre (fun t k => XS.iconst X94.here hx rfl (hb hby at_288) k) ?_
                    refine Ends.pre (fun t k => XS.goto X94.here hx rfl (pc0 := 289) (pc' := 293) rfl (hb hby at_289) (by decide) (by decide) k) ?_
                    exact Ends.retW (w := (.int (1 : Int32))) X94 hx Bd.notSynchronized Bd.returns rfl (Or.inl ⟨rfl, Or.inr (Or.inl rfl), _, rfl⟩) (hb hby at_293) eh94 hZ87 hEL hS87 (Nat.le_refl _) hh CR87 ⟨rfl, N94⟩ (by decide) (by decide)
                  refine Ends.pre (fun t k => XS.iload X84.here hx rfl (hb hby at_205) rfl k) ?_
                  by_cases hc207_95 : f7 = 0
                  · refine Ends.pre (T' := T84.setTop (mkF m 216 #[.val (.int x0), .val (.int x1), .val (.int x2), .val (.int (0 : Int32)), .val (.int (1 : Int32)), .val (.int (1 : Int32)), .val (.int f6), .val (.int f7), .val (.int u0), .val (.int u1), .val (.int v0), .val (.int v1), .val (.ref b6), .val (.ref b51), .val .null, .val (.ref b80), .unset, .unset, .unset] [])) (fun t k => XS.ifYes X84.here hx rfl (pc0 := 207) (pc' := 216) rfl (hb hby at_207) rfl (Jvm.Free.XT.i0_eq_t hc207_95) (by decide) (by decide) k) ?_
                    have F96 : Sta Z T84.heap "com/example/static_permission_checker/staticpermissionchecker/core/FlowConstraint$Access" "READ" "Lcom/example/static_permission_checker/staticpermissionchecker/core/FlowConstraint$Access;" (.ref wREAD) := (Sta_keep0 S_READ K84)
                    obtain ⟨T97, X97, e97, st97⟩ := getS2 X84 hx hZ hown (host := "") (Or.inl (hw _ (List.mem_of_getElem? (i := 33) rfl))) Via.refl rfl F96 (g := (mkF m 216 #[.val (.int x0), .val (.int x1), .val (.int x2), .val (.int (0 : Int32)), .val (.int (1 : Int32)), .val (.int (1 : Int32)), .val (.int f6), .val (.int f7), .val (.int u0), .val (.int u1), .val (.int v0), .val (.int v1), .val (.ref b6), .val (.ref b51), .val .null, .val (.ref b80), .unset, .unset, .unset] [])) rfl (hb hby at_216)
                    refine Ends.pre (T' := T97.setTop (mkF m 219 #[.val (.int x0), .val (.int x1), .val (.int x2), .val (.int (0 : Int32)), .val (.int (1 : Int32)), .val (.int (1 : Int32)), .val (.int f6), .val (.int f7), .val (.int u0), .val (.int u1), .val (.int v0), .val (.int v1), .val (.ref b6), .val (.ref b51), .val .null, .val (.ref b80), .unset, .unset, .unset] [(.ref wREAD)])) (fun t k => st97 _ k) ?_
                    exact J219_85 T97 X97 e97 wREAD
                  · refine Ends.pre (T' := T84.setTop (mkF m 210 #[.val (.int x0), .val (.int x1), .val (.int x2), .val (.int (0 : Int32)), .val (.int (1 : Int32)), .val (.int (1 : Int32)), .val (.int f6), .val (.int f7), .val (.int u0), .val (.int u1), .val (.int v0), .val (.int v1), .val (.ref b6), .val (.ref b51), .val .null, .val (.ref b80), .unset, .unset, .unset] [])) (fun t k => XS.ifNo X84.here hx rfl (hb hby at_207) rfl (Jvm.Free.XT.i0_eq_f hc207_95) k) ?_
                    have F98 : Sta Z T84.heap "com/example/static_permission_checker/staticpermissionchecker/core/FlowConstraint$Access" "WRITE" "Lcom/example/static_permission_checker/staticpermissionchecker/core/FlowConstraint$Access;" (.ref wWRITE) := (Sta_keep0 S_WRITE K84)
                    obtain ⟨T99, X99, e99, st99⟩ := getS2 X84 hx hZ hown (host := "") (Or.inl (hw _ (List.mem_of_getElem? (i := 75) rfl))) Via.refl rfl F98 (g := (mkF m 210 #[.val (.int x0), .val (.int x1), .val (.int x2), .val (.int (0 : Int32)), .val (.int (1 : Int32)), .val (.int (1 : Int32)), .val (.int f6), .val (.int f7), .val (.int u0), .val (.int u1), .val (.int v0), .val (.int v1), .val (.ref b6), .val (.ref b51), .val .null, .val (.ref b80), .unset, .unset, .unset] [])) rfl (hb hby at_210)
                    refine Ends.pre (T' := T99.setTop (mkF m 213 #[.val (.int x0), .val (.int x1), .val (.int x2), .val (.int (0 : Int32)), .val (.int (1 : Int32)), .val (.int (1 : Int32)), .val (.int f6), .val (.int f7), .val (.int u0), .val (.int u1), .val (.int v0), .val (.int v1), .val (.ref b6), .val (.ref b51), .val .null, .val (.ref b80), .unset, .unset, .unset] [(.ref wWRITE)])) (fun t k => st99 _ k) ?_
                    refine Ends.pre (fun t k => XS.goto X99.here hx rfl (pc0 := 213) (pc' := 219) rfl (hb hby at_213) (by decide) (by decide) k) ?_
                    exact J219_85 T99 X99 e99 wWRITE
              · refine Ends.pre (fun t k => XS.iload X6.here hx rfl (hb hby at_145) rfl k) ?_
                obtain ⟨T100, h100, k100, X100, e100, E100, A100, st100⟩ := newP X6 hx hZ (hw _ (List.mem_of_getElem? (i := 0) rfl)) e6 (g := (mkF m 147 #[.val (.int x0), .val (.int x1), .val (.int x2), .val (.int (0 : Int32)), .val (.int (2 : Int32)), .val (.int f5), .val (.int f6), .val (.int f7), .val (.int u0), .val (.int u1), .val (.int v0), .val (.int v1), .val (.ref b6), .unset, .unset, .unset, .unset, .unset, .unset] [(.int (2 : Int32))])) rfl (hb hby at_147) rfl (by decide) (cap := 2) (by decide) (by decide) (by decide) (by decide)
                obtain ⟨b100, g100⟩ : ∃ z, z = h6.size := ⟨_, rfl⟩
                rw [← g100] at A100 st100
                have ge_b100 : n0 ≤ b100 := Nat.le_trans (Nat.le_trans Z0 E6.1) (Nat.le_of_eq g100.symm)
                have sz_b100 : h0.size ≤ b100 := Nat.le_trans K6.1 (Nat.le_of_eq g100.symm)
                have CR100 := CHr.trans CR6 (CHr.ext E100 CR6.1)
                have K100 : Keep h0 h100 [] := K6.ext E100
                have V100 : Arv Z h100 b100 k100 .char (2 : Int32) [(.int (0 : Int32)), (.int (0 : Int32))] (.int (0 : Int32)) := (Arv.new A100 (by decide)).pad (pad_rep [] (.int (0 : Int32)) 2)
                refine Ends.pre (T' := T100.setTop (mkF m 149 #[.val (.int x0), .val (.int x1), .val (.int x2), .val (.int (0 : Int32)), .val (.int (2 : Int32)), .val (.int f5), .val (.int f6), .val (.int f7), .val (.int u0), .val (.int u1), .val (.int v0), .val (.int v1), .val (.ref b6), .unset, .unset, .unset, .unset, .unset, .unset] [(.ref b100)])) (fun t k => st100 _ k) ?_
                refine Ends.pre (fun t k => XS.astore (g := (mkF m 149 #[.val (.int x0), .val (.int x1), .val (.int x2), .val (.int (0 : Int32)), .val (.int (2 : Int32)), .val (.int f5), .val (.int f6), .val (.int f7), .val (.int u0), .val (.int u1), .val (.int v0), .val (.int v1), .val (.ref b6), .unset, .unset, .unset, .unset, .unset, .unset] [(.ref b100)])) X100.here hx rfl (hb hby at_149) rfl rfl (l' := #[.val (.int x0), .val (.int x1), .val (.int x2), .val (.int (0 : Int32)), .val (.int (2 : Int32)), .val (.int f5), .val (.int f6), .val (.int f7), .val (.int u0), .val (.int u1), .val (.int v0), .val (.int v1), .val (.ref b6), .val (.ref b100), .unset, .unset, .unset, .unset, .unset]) rfl k) ?_
                refine Ends.pre (fun t k => XS.iload X100.here hx rfl (hb hby at_151) rfl k) ?_
                refine Ends.pre (T' := T100.setTop (mkF m 156 #[.val (.int x0), .val (.int x1), .val (.int x2), .val (.int (0 : Int32)), .val (.int (2 : Int32)), .val (.int f5), .val (.int f6), .val (.int f7), .val (.int u0), .val (.int u1), .val (.int v0), .val (.int v1), .val (.ref b6), .val (.ref b100), .unset, .unset, .unset, .unset, .unset] [])) (fun t k => XS.ifNo X100.here hx rfl (hb hby at_153) rfl (by decide) k) ?_
                refine Ends.pre (fun t k => XS.aload X100.here hx rfl (hb hby at_156) rfl rfl k) ?_
                refine Ends.pre (fun t k => XS.iconst X100.here hx rfl (hb hby at_158) k) ?_
                refine Ends.pre (fun t k => XS.iload X100.here hx rfl (hb hby at_159) rfl k) ?_
                obtain ⟨cl101, Ar101, q101, S101, N101', H101, G101⟩ := id V100
                have hin101 : ¬ ((0 : Int32) < 0 ∨ cl101.slots.size ≤ ((0 : Int32)).toNatClampNeg) := inb_of S101 ⟨by decide, by decide⟩
                obtain ⟨T101, h101, X101, e101, W101, st101⟩ := stC X100 hx hZ e100 Ar101 (j := (0 : Int32)) hin101 (g := (mkF m 161 #[.val (.int x0), .val (.int x1), .val (.int x2), .val (.int (0 : Int32)), .val (.int (2 : Int32)), .val (.int f5), .val (.int f6), .val (.int f7), .val (.int u0), .val (.int u1), .val (.int v0), .val (.int v1), .val (.ref b6), .val (.ref b100), .unset, .unset, .unset, .unset, .unset] [(.int v0), (.int (0 : Int32)), (.ref b100)])) rfl rfl (hb hby at_161)
                have CR101 := CHr.trans CR100 (CHr.wr W101 (Safe.arv hZo.alike V100 (by decide)) CR100.1)
                have V101 : Arv Z h101 b100 k100 .char (2 : Int32) [(.int v0), (.int (0 : Int32))] (.int (0 : Int32)) := (by have q := Arv.set Ar101 q101 S101 N101' H101 G101 (fits_nar_char _) W101 0 rfl (Nat.le_of_ble_eq_true rfl); rw [own_char cv0] at q; exact q)
                have N101 := Fr.snoc X101 N0 ge_b100
                refine Ends.pre (T' := T101.setTop (mkF m 162 #[.val (.int x0), .val (.int x1), .val (.int x2), .val (.int (0 : Int32)), .val (.int (2 : Int32)), .val (.int f5), .val (.int f6), .val (.int f7), .val (.int u0), .val (.int u1), .val (.int v0), .val (.int v1), .val (.ref b6), .val (.ref b100), .unset, .unset, .unset, .unset, .unset] [])) (fun t k => st101 _ k) ?_
                have K101 : Keep h0 h101 [] := K100.wr W101 (Or.inr sz_b100)
                refine Ends.pre (fun t k => XS.iload X101.here hx rfl (hb hby at_162) rfl k) ?_
                refine Ends.pre (fun t k => XS.iconst X101.here hx rfl (hb hby at_164) k) ?_
                refine Ends.pre (T' := T101.setTop (mkF m 168 #[.val (.int x0), .val (.int x1), .val (.int x2), .val (.int (0 : Int32)), .val (.int (2 : Int32)), .val (.int f5), .val (.int f6), .val (.int f7), .val (.int u0), .val (.int u1), .val (.int v0), .val (.int v1), .val (.ref b6), .val (.ref b100), .unset, .unset, .unset, .unset, .unset] [])) (fun t k => XS.icmpNo X101.here hx rfl (hb hby at_165) rfl (by decide) k) ?_
                refine Ends.pre (fun t k => XS.aload X101.here hx rfl (hb hby at_168) rfl rfl k) ?_
                refine Ends.pre (fun t k => XS.iconst X101.here hx rfl (hb hby at_170) k) ?_
                refine Ends.pre (fun t k => XS.iload X101.here hx rfl (hb hby at_171) rfl k) ?_
                obtain ⟨cl102, Ar102, q102, S102, N102', H102, G102⟩ := id V101
                have hin102 : ¬ ((1 : Int32) < 0 ∨ cl102.slots.size ≤ ((1 : Int32)).toNatClampNeg) := inb_of S102 ⟨by decide, by decide⟩
                obtain ⟨T102, h102, X102, e102, W102, st102⟩ := stC X101 hx hZ e101 Ar102 (j := (1 : Int32)) hin102 (g := (mkF m 173 #[.val (.int x0), .val (.int x1), .val (.int x2), .val (.int (0 : Int32)), .val (.int (2 : Int32)), .val (.int f5), .val (.int f6), .val (.int f7), .val (.int u0), .val (.int u1), .val (.int v0), .val (.int v1), .val (.ref b6), .val (.ref b100), .unset, .unset, .unset, .unset, .unset] [(.int v1), (.int (1 : Int32)), (.ref b100)])) rfl rfl (hb hby at_173)
                have CR102 := CHr.trans CR101 (CHr.wr W102 (Safe.arv hZo.alike V101 (by decide)) CR101.1)
                have V102 : Arv Z h102 b100 k100 .char (2 : Int32) [(.int v0), (.int v1)] (.int (0 : Int32)) := (by have q := Arv.set Ar102 q102 S102 N102' H102 G102 (fits_nar_char _) W102 1 rfl (Nat.le_of_ble_eq_true rfl); rw [own_char cv1] at q; exact q)
                have N102 := Fr.snoc X102 N101 ge_b100
                refine Ends.pre (T' := T102.setTop (mkF m 174 #[.val (.int x0), .val (.int x1), .val (.int x2), .val (.int (0 : Int32)), .val (.int (2 : Int32)), .val (.int f5), .val (.int f6), .val (.int f7), .val (.int u0), .val (.int u1), .val (.int v0), .val (.int v1), .val (.ref b6), .val (.ref b100), .unset, .unset, .unset, .unset, .unset] [])) (fun t k => st102 _ k) ?_
                have K102 : Keep h0 h102 [] := K101.wr W102 (Or.inr sz_b100)
                rcases qf5 with rfl | rfl
                · refine Ends.pre (fun t k => XS.iload X102.here hx rfl (hb hby at_174) rfl k) ?_
                  refine Ends.pre (T' := T102.setTop (mkF m 183 #[.val (.int x0), .val (.int x1), .val (.int x2), .val (.int (0 : Int32)), .val (.int (2 : Int32)), .val (.int (0 : Int32)), .val (.int f6), .val (.int f7), .val (.int u0), .val (.int u1), .val (.int v0), .val (.int v1), .val (.ref b6), .val (.ref b100), .unset, .unset, .unset, .unset, .unset] [])) (fun t k => XS.ifYes X102.here hx rfl (pc0 := 176) (pc' := 183) rfl (hb hby at_176) rfl (by decide) (by decide) (by decide) k) ?_
                  obtain ⟨T103, h103, X103, e103, E103, A103, D103, -, st103⟩ := newO X102 hx hZ hown (hw _ (List.mem_of_getElem? (i := 1) rfl)) (hw _ (List.mem_of_getElem? (i := 2) rfl)) (hw _ (List.mem_of_getElem? (i := 3) rfl)) e102 (g := (mkF m 183 #[.val (.int x0), .val (.int x1), .val (.int x2), .val (.int (0 : Int32)), .val (.int (2 : Int32)), .val (.int (0 : Int32)), .val (.int f6), .val (.int f7), .val (.int u0), .val (.int u1), .val (.int v0), .val (.int v1), .val (.ref b6), .val (.ref b100), .unset, .unset, .unset, .unset, .unset] [])) rfl (hb hby at_183) (by decide) (by decide)
                  obtain ⟨b103, g103⟩ : ∃ z, z = h102.size := ⟨_, rfl⟩
                  rw [← g103] at A103 D103 st103
                  have ge_b103 : n0 ≤ b103 := Nat.le_trans (Nat.le_trans (Nat.le_trans (Nat.le_trans (Nat.le_trans Z0 E6.1) E100.1) (Keep.of_wr W101).1) (Keep.of_wr W102).1) (Nat.le_of_eq g103.symm)
                  have sz_b103 : h0.size ≤ b103 := Nat.le_trans K102.1 (Nat.le_of_eq g103.symm)
                  have CR103 := CHr.trans CR102 (CHr.ext E103 CR102.1)
                  have K103 : Keep h0 h103 [] := K102.ext E103
                  have Fd103_coder : Fld Z h103 b103 "java/lang/String" "coder" "B" (.int (0 : Int32)) := D103 (Or.inr (hw _ (List.mem_of_getElem? (i := 27) rfl))) (ty := .byte) (by decide)
                  have Fd103_value : Fld Z h103 b103 "java/lang/String" "value" "[B" .null := D103 (Or.inr (hw _ (List.mem_of_getElem? (i := 29) rfl))) (ty := (.array .byte)) (by decide)
                  refine Ends.pre (T' := T103.setTop (mkF m 186 #[.val (.int x0), .val (.int x1), .val (.int x2), .val (.int (0 : Int32)), .val (.int (2 : Int32)), .val (.int (0 : Int32)), .val (.int f6), .val (.int f7), .val (.int u0), .val (.int u1), .val (.int v0), .val (.int v1), .val (.ref b6), .val (.ref b100), .unset, .unset, .unset, .unset, .unset] [(.ref b103)])) (fun t k => st103 _ k) ?_
                  refine Ends.pre (fun t k => XS.dup X103.here hx rfl (hb hby at_186) rfl rfl k) ?_
                  refine Ends.pre (fun t k => XS.aload X103.here hx rfl (hb hby at_187) rfl rfl k) ?_
                  have F104 : Arv Z h103 b6 k6 .char (0 : Int32) [] (.int (0 : Int32)) := (Arv.ext (((Arv.ext V6 E100).other W101 (Nat.ne_of_lt (Nat.lt_of_lt_of_le V6.lt (Nat.le_of_eq g100.symm)))).other W102 (Nat.ne_of_lt (Nat.lt_of_lt_of_le V6.lt (Nat.le_of_eq g100.symm)))) E103)
                  obtain ⟨_, _, ⟨T105, L105, k105, n105⟩, -, Xa105, hSa105, ga105, ⟨Lc105, hQ105, l105, y105, z105, CRc105⟩, st105⟩ := X103.specialBackS hx (y := (⟨"java/lang/String", "<init>", "([C)V"⟩ : MethodName)) rfl hown (mvT hZ (hw _ (List.mem_of_getElem? (i := 4) rfl))) (mvT hZ (hw _ (List.mem_of_getElem? (i := 5) rfl))) (mvT hZ (hw _ (List.mem_of_getElem? (i := 6) rfl))) (by decide) (backOfSH (W := 1) (rm_e1 l Z a0 hw [] b103 b6 k6 h103 n0 (Nat.le_trans (Nat.le_trans (Nat.le_trans (Nat.le_trans (Nat.le_trans Z0 E6.1) E100.1) (Keep.of_wr W101).1) (Keep.of_wr W102).1) E103.1) A103 Fd103_value Fd103_coder ge_b103 F104) hZ (hw _ (List.mem_of_getElem? (i := 6) rfl)) (hw _ (List.mem_of_getElem? (i := 3) rfl)) (by decide) (by decide) hEL CR103.1) (g := (mkF m 189 #[.val (.int x0), .val (.int x1), .val (.int x2), .val (.int (0 : Int32)), .val (.int (2 : Int32)), .val (.int (0 : Int32)), .val (.int f6), .val (.int f7), .val (.int u0), .val (.int u1), .val (.int v0), .val (.int v1), .val (.ref b6), .val (.ref b100), .unset, .unset, .unset, .unset, .unset] [(.ref b6), (.ref b103), (.ref b103)])) rfl (by rw [hml]; rfl) (Steps.refl _) (a := b103) (argsL := [(.ref b6)]) (rest := [(.ref b103)]) (lenOf pd_4 rfl) rfl (by show 2 * 0 + _ ≤ _; exact Nat.le_of_eq rfl) (hb hby at_189) (fun _ _ => ⟨rfl, e103, (by decide : 3 + 4 ≤ _), (by decide : 6 + 8 ≤ _)⟩)
                  dsimp only [Pt.U, Pt.locs, Pt.cells, Pt.slots] at Xa105 hSa105 ga105 l105 y105 z105 st105 hQ105 CRc105
                  subst l105 y105 z105
                  obtain ⟨X105, hS105, hZ105, hown105⟩ := rebS hS0 (n1 := T103.heap.size) (by rw [e103]; exact (Nat.le_trans (Nat.le_trans (Nat.le_trans (Nat.le_trans (Nat.le_trans hk0 E6.1) E100.1) (Keep.of_wr W101).1) (Keep.of_wr W102).1) E103.1)) Xa105 hSa105 ga105 hZ hown
                  obtain ⟨rfl, N105q, Kc105, Es105, Cs105, t105, kb105, Vs105, As105⟩ := hQ105
                  have N105 := Fr.app N102 N105q
                  have K105 : Keep h0 T105.heap [] := K103.trans Kc105 (allS (Or.inr sz_b103) all0)
                  have CR105 := CHr.trans CR103 CRc105
                  have hcd105 : StrChars.Road.CodA ([] : List Int32) 0 (0 : Int32) [] := own_lit rfl rfl own_al0
                  have hbd105 : ∀ c ∈ ([] : List Int32), ¬ c < 0 ∧ ¬ (65535 : Int32) < c := own_al0
                  refine Ends.pre (T' := T105.setTop (mkF m 192 #[.val (.int x0), .val (.int x1), .val (.int x2), .val (.int (0 : Int32)), .val (.int (2 : Int32)), .val (.int (0 : Int32)), .val (.int f6), .val (.int f7), .val (.int u0), .val (.int u1), .val (.int v0), .val (.int v1), .val (.ref b6), .val (.ref b100), .unset, .unset, .unset, .unset, .unset] [(.ref b103)])) (fun t k => st105.trans k) ?_
                  refine Ends.pre (fun t k => XS.astore (g := (mkF m 192 #[.val (.int x0), .val (.int x1), .val (.int x2), .val (.int (0 : Int32)), .val (.int (2 : Int32)), .val (.int (0 : Int32)), .val (.int f6), .val (.int f7), .val (.int u0), .val (.int u1), .val (.int v0), .val (.int v1), .val (.ref b6), .val (.ref b100), .unset, .unset, .unset, .unset, .unset] [(.ref b103)])) X105.here hx rfl (hb hby at_192) rfl rfl (l' := #[.val (.int x0), .val (.int x1), .val (.int x2), .val (.int (0 : Int32)), .val (.int (2 : Int32)), .val (.int (0 : Int32)), .val (.int f6), .val (.int f7), .val (.int u0), .val (.int u1), .val (.int v0), .val (.int v1), .val (.ref b6), .val (.ref b100), .val (.ref b103), .unset, .unset, .unset, .unset]) rfl k) ?_
                  obtain ⟨T106, h106, X106, e106, E106, A106, D106, -, st106⟩ := newO X105 hx hZ105 hown105 (hw _ (List.mem_of_getElem? (i := 1) rfl)) (hw _ (List.mem_of_getElem? (i := 2) rfl)) (hw _ (List.mem_of_getElem? (i := 3) rfl)) rfl (g := (mkF m 194 #[.val (.int x0), .val (.int x1), .val (.int x2), .val (.int (0 : Int32)), .val (.int (2 : Int32)), .val (.int (0 : Int32)), .val (.int f6), .val (.int f7), .val (.int u0), .val (.int u1), .val (.int v0), .val (.int v1), .val (.ref b6), .val (.ref b100), .val (.ref b103), .unset, .unset, .unset, .unset] [])) rfl (hb hby at_194) (by decide) (by decide)
                  obtain ⟨b106, g106⟩ : ∃ z, z = T105.heap.size := ⟨_, rfl⟩
                  rw [← g106] at A106 D106 st106
                  have ge_b106 : n0 ≤ b106 := Nat.le_trans (Nat.le_trans (Nat.le_trans (Nat.le_trans (Nat.le_trans (Nat.le_trans (Nat.le_trans Z0 E6.1) E100.1) (Keep.of_wr W101).1) (Keep.of_wr W102).1) E103.1) Kc105.1) (Nat.le_of_eq g106.symm)
                  have sz_b106 : h0.size ≤ b106 := Nat.le_trans K105.1 (Nat.le_of_eq g106.symm)
                  have CR106 := CHr.trans CR105 (CHr.ext E106 CR105.1)
                  have K106 : Keep h0 h106 [] := K105.ext E106
                  have Fd106_coder : Fld Z h106 b106 "java/lang/String" "coder" "B" (.int (0 : Int32)) := D106 (Or.inr (hw _ (List.mem_of_getElem? (i := 27) rfl))) (ty := .byte) (by decide)
                  have Fd106_value : Fld Z h106 b106 "java/lang/String" "value" "[B" .null := D106 (Or.inr (hw _ (List.mem_of_getElem? (i := 29) rfl))) (ty := (.array .byte)) (by decide)
                  refine Ends.pre (T' := T106.setTop (mkF m 197 #[.val (.int x0), .val (.int x1), .val (.int x2), .val (.int (0 : Int32)), .val (.int (2 : Int32)), .val (.int (0 : Int32)), .val (.int f6), .val (.int f7), .val (.int u0), .val (.int u1), .val (.int v0), .val (.int v1), .val (.ref b6), .val (.ref b100), .val (.ref b103), .unset, .unset, .unset, .unset] [(.ref b106)])) (fun t k => st106 _ k) ?_
                  refine Ends.pre (fun t k => XS.dup X106.here hx rfl (hb hby at_197) rfl rfl k) ?_
                  refine Ends.pre (fun t k => XS.aload X106.here hx rfl (hb hby at_198) rfl rfl k) ?_
                  have hp107 : ∀ c ∈ ([v0, v1] : List Int32), ¬ c < 0 ∧ ¬ (255 : Int32) < c := (own_alS cv0 (own_alS cv1 own_al0))
                  have hbd107 := own_up _ hp107
                  have F108 : Arv Z h106 b100 k100 .char (2 : Int32) [(.int v0), (.int v1)] (.int (0 : Int32)) := (Arv.ext ((Arv.ext V102 E103).keep Kc105 (ninS (Nat.ne_of_lt (Nat.lt_of_lt_of_le (Nat.lt_of_lt_of_le (Nat.lt_of_lt_of_le V100.lt (Keep.of_wr W101).1) (Keep.of_wr W102).1) (Nat.le_of_eq g103.symm))) nin0)) E106)
                  have F109 : Sta Z h106 "java/lang/String" "COMPACT_STRINGS" "Z" (.int cz) := (Sta_keep0 SCS K106)
                  obtain ⟨_, _, ⟨T110, L110, k110, n110⟩, -, X110, ⟨Lc110, hQ110, l110, y110, z110⟩, st110⟩ := X106.specialBack hx (y := (⟨"java/lang/String", "<init>", "([C)V"⟩ : MethodName)) rfl hown105 (mvT hZ105 (hw _ (List.mem_of_getElem? (i := 4) rfl))) (mvT hZ105 (hw _ (List.mem_of_getElem? (i := 5) rfl))) (mvT hZ105 (hw _ (List.mem_of_getElem? (i := 6) rfl))) (by decide) (StrChars.Road.backV (W := 1) hZ105 (own_hws hw) (kI := 4) (hw _ (List.mem_of_getElem? (i := 2) rfl)) (cs := ([v0, v1] : List Int32)) (bs := (([v0, v1] : List Int32).map (fun c => c.toInt8.toInt32))) (n := 2) ge_b106 (Nat.le_trans (Nat.le_trans (Nat.le_trans (Nat.le_trans (Nat.le_trans (Nat.le_trans (Nat.le_trans Z0 E6.1) E100.1) (Keep.of_wr W101).1) (Keep.of_wr W102).1) E103.1) Kc105.1) E106.1) A106 Fd106_value Fd106_coder F108 F109 hcz rfl rfl (by decide) (by decide) hp107 rfl (by decide) (by decide)) (g := (mkF m 200 #[.val (.int x0), .val (.int x1), .val (.int x2), .val (.int (0 : Int32)), .val (.int (2 : Int32)), .val (.int (0 : Int32)), .val (.int f6), .val (.int f7), .val (.int u0), .val (.int u1), .val (.int v0), .val (.int v1), .val (.ref b6), .val (.ref b100), .val (.ref b103), .unset, .unset, .unset, .unset] [(.ref b100), (.ref b106), (.ref b106)])) rfl (by rw [hml]; rfl) (Steps.refl _) (a := b106) (argsL := [(.ref b100)]) (rest := [(.ref b106)]) (lenOf pd_4 rfl) rfl (by show 2 * 0 + _ ≤ _; exact Nat.le_of_eq rfl) (hb hby at_200) (fun _ _ => ⟨rfl, e106, (by decide : 8 + 1 ≤ _), (by decide : 18 + 2 ≤ _)⟩)
                  dsimp only [Pt.U, Pt.locs, Pt.cells, Pt.slots] at X110 l110 y110 z110 st110 hQ110
                  subst l110 y110 z110
                  obtain ⟨rfl, N110q, Kc110, Es110, Cs110, t110, kb110, gt110, ft110, nt110, Vs110, As110⟩ := hQ110
                  have N110 := Fr.app N105 N110q
                  have K110 : Keep h0 T110.heap [] := K106.trans Kc110 (allS (Or.inr sz_b106) all0)
                  have CR110 := CHr.trans CR106 (CHr.keep Kc110 (sfS (Safe.ext E106 CR105.1 (Safe.new (Nat.le_of_eq g106.symm))) sf0) CR106.1)
                  have hcd110 : StrChars.Road.CodA ([v0, v1] : List Int32) 0 (2 : Int32) ((([v0, v1] : List Int32).map (fun c => c.toInt8.toInt32)).map Value.int) := StrChars.Road.codOf (n := 2) rfl (fun c hc => (hp107 c hc).2)
                  refine Ends.pre (T' := T110.setTop (mkF m 203 #[.val (.int x0), .val (.int x1), .val (.int x2), .val (.int (0 : Int32)), .val (.int (2 : Int32)), .val (.int (0 : Int32)), .val (.int f6), .val (.int f7), .val (.int u0), .val (.int u1), .val (.int v0), .val (.int v1), .val (.ref b6), .val (.ref b100), .val (.ref b103), .unset, .unset, .unset, .unset] [(.ref b106)])) (fun t k => st110.trans k) ?_
                  refine Ends.pre (fun t k => XS.astore (g := (mkF m 203 #[.val (.int x0), .val (.int x1), .val (.int x2), .val (.int (0 : Int32)), .val (.int (2 : Int32)), .val (.int (0 : Int32)), .val (.int f6), .val (.int f7), .val (.int u0), .val (.int u1), .val (.int v0), .val (.int v1), .val (.ref b6), .val (.ref b100), .val (.ref b103), .unset, .unset, .unset, .unset] [(.ref b106)])) X110.here hx rfl (hb hby at_203) rfl rfl (l' := #[.val (.int x0), .val (.int x1), .val (.int x2), .val (.int (0 : Int32)), .val (.int (2 : Int32)), .val (.int (0 : Int32)), .val (.int f6), .val (.int f7), .val (.int u0), .val (.int u1), .val (.int v0), .val (.int v1), .val (.ref b6), .val (.ref b100), .val (.ref b103), .val (.ref b106), .unset, .unset, .unset]) rfl k) ?_
                  have J219_111 : ∀ (TJ111 : State) (XJ111 : SS X110 TJ111) (eJ111 : TJ111.heap = T110.heap) (ac : Addr), Jvm.RoadKit.Ends p e below (EndW s room_1 Z consts_1 (Q_rm0 Z x0 x1 x2 wREAD wWRITE cz fm h0 n0)) (TJ111.setTop (mkF m 219 #[.val (.int x0), .val (.int x1), .val (.int x2), .val (.int (0 : Int32)), .val (.int (2 : Int32)), .val (.int (0 : Int32)), .val (.int f6), .val (.int f7), .val (.int u0), .val (.int u1), .val (.int v0), .val (.int v1), .val (.ref b6), .val (.ref b100), .val (.ref b103), .val (.ref b106), .unset, .unset, .unset] [(.ref ac)])) := by
                    intro TJ111 XJ111 eJ111 ac
                    unfold SS at XJ111
                    refine Ends.pre (fun t k => XS.astore (g := (mkF m 219 #[.val (.int x0), .val (.int x1), .val (.int x2), .val (.int (0 : Int32)), .val (.int (2 : Int32)), .val (.int (0 : Int32)), .val (.int f6), .val (.int f7), .val (.int u0), .val (.int u1), .val (.int v0), .val (.int v1), .val (.ref b6), .val (.ref b100), .val (.ref b103), .val (.ref b106), .unset, .unset, .unset] [(.ref ac)])) XJ111.here hx rfl (hb hby at_219) rfl rfl (l' := #[.val (.int x0), .val (.int x1), .val (.int x2), .val (.int (0 : Int32)), .val (.int (2 : Int32)), .val (.int (0 : Int32)), .val (.int f6), .val (.int f7), .val (.int u0), .val (.int u1), .val (.int v0), .val (.int v1), .val (.ref b6), .val (.ref b100), .val (.ref b103), .val (.ref b106), .val (.ref ac), .unset, .unset]) rfl k) ?_
                    obtain ⟨T112, h112, X112, e112, E112, A112, D112, -, st112⟩ := newO XJ111 hx hZ105 hown105 (hw _ (List.mem_of_getElem? (i := 36) rfl)) (hw _ (List.mem_of_getElem? (i := 37) rfl)) (hw _ (List.mem_of_getElem? (i := 38) rfl)) eJ111 (g := (mkF m 221 #[.val (.int x0), .val (.int x1), .val (.int x2), .val (.int (0 : Int32)), .val (.int (2 : Int32)), .val (.int (0 : Int32)), .val (.int f6), .val (.int f7), .val (.int u0), .val (.int u1), .val (.int v0), .val (.int v1), .val (.ref b6), .val (.ref b100), .val (.ref b103), .val (.ref b106), .val (.ref ac), .unset, .unset] [])) rfl (hb hby at_221) (by decide) (by decide)
                    obtain ⟨b112, g112⟩ : ∃ z, z = T110.heap.size := ⟨_, rfl⟩
                    rw [← g112] at A112 D112 st112
                    have ge_b112 : n0 ≤ b112 := Nat.le_trans (Nat.le_trans (Nat.le_trans (Nat.le_trans (Nat.le_trans (Nat.le_trans (Nat.le_trans (Nat.le_trans (Nat.le_trans Z0 E6.1) E100.1) (Keep.of_wr W101).1) (Keep.of_wr W102).1) E103.1) Kc105.1) E106.1) Kc110.1) (Nat.le_of_eq g112.symm)
                    have sz_b112 : h0.size ≤ b112 := Nat.le_trans K110.1 (Nat.le_of_eq g112.symm)
                    have CR112 := CHr.trans CR110 (CHr.ext E112 CR110.1)
                    have K112 : Keep h0 h112 [] := K110.ext E112
                    have Fd112_holder : Fld Z h112 b112 "com/example/static_permission_checker/staticpermissionchecker/core/FlowConstraint" "holder" "Ljava/lang/String;" .null := D112 (Or.inr (hw _ (List.mem_of_getElem? (i := 55) rfl))) (ty := (.object "java/lang/String")) (by decide)
                    have Fd112_access : Fld Z h112 b112 "com/example/static_permission_checker/staticpermissionchecker/core/FlowConstraint" "access" "Lcom/example/static_permission_checker/staticpermissionchecker/core/FlowConstraint$Access;" .null := D112 (Or.inr (hw _ (List.mem_of_getElem? (i := 57) rfl))) (ty := (.object "com/example/static_permission_checker/staticpermissionchecker/core/FlowConstraint$Access")) (by decide)
                    have Fd112_guard : Fld Z h112 b112 "com/example/static_permission_checker/staticpermissionchecker/core/FlowConstraint" "guard" "Ljava/lang/String;" .null := D112 (Or.inr (hw _ (List.mem_of_getElem? (i := 59) rfl))) (ty := (.object "java/lang/String")) (by decide)
                    refine Ends.pre (T' := T112.setTop (mkF m 224 #[.val (.int x0), .val (.int x1), .val (.int x2), .val (.int (0 : Int32)), .val (.int (2 : Int32)), .val (.int (0 : Int32)), .val (.int f6), .val (.int f7), .val (.int u0), .val (.int u1), .val (.int v0), .val (.int v1), .val (.ref b6), .val (.ref b100), .val (.ref b103), .val (.ref b106), .val (.ref ac), .unset, .unset] [(.ref b112)])) (fun t k => st112 _ k) ?_
                    refine Ends.pre (fun t k => XS.dup X112.here hx rfl (hb hby at_224) rfl rfl k) ?_
                    refine Ends.pre (fun t k => XS.aload X112.here hx rfl (hb hby at_225) rfl rfl k) ?_
                    refine Ends.pre (fun t k => XS.aload X112.here hx rfl (hb hby at_227) rfl rfl k) ?_
                    refine Ends.pre (fun t k => XS.aload X112.here hx rfl (hb hby at_229) rfl rfl k) ?_
                    obtain ⟨_, _, ⟨T113, L113, k113, n113⟩, -, Xa113, hSa113, ga113, ⟨Lc113, hQ113, l113, y113, z113, CRc113⟩, st113⟩ := X112.specialBackS hx (y := (⟨"com/example/static_permission_checker/staticpermissionchecker/core/FlowConstraint", "<init>", "(Ljava/lang/String;Lcom/example/static_permission_checker/staticpermissionchecker/core/FlowConstraint$Access;Ljava/lang/String;)V"⟩ : MethodName)) rfl hown105 (mvT hZ105 (hw _ (List.mem_of_getElem? (i := 39) rfl))) (mvT hZ105 (hw _ (List.mem_of_getElem? (i := 40) rfl))) (mvT hZ105 (hw _ (List.mem_of_getElem? (i := 41) rfl))) (by decide) (backOfSH (W := 1) (rm7r l Z a0 hw [] b112 b103 ac b106 h112 n0 (Nat.le_trans (Nat.le_trans (Nat.le_trans (Nat.le_trans (Nat.le_trans (Nat.le_trans (Nat.le_trans (Nat.le_trans (Nat.le_trans Z0 E6.1) E100.1) (Keep.of_wr W101).1) (Keep.of_wr W102).1) E103.1) Kc105.1) E106.1) Kc110.1) E112.1) A112 ge_b112 Fd112_holder Fd112_access Fd112_guard) hZ105 (hw _ (List.mem_of_getElem? (i := 41) rfl)) (hw _ (List.mem_of_getElem? (i := 38) rfl)) (by decide) (by decide) hEL CR112.1) (g := (mkF m 231 #[.val (.int x0), .val (.int x1), .val (.int x2), .val (.int (0 : Int32)), .val (.int (2 : Int32)), .val (.int (0 : Int32)), .val (.int f6), .val (.int f7), .val (.int u0), .val (.int u1), .val (.int v0), .val (.int v1), .val (.ref b6), .val (.ref b100), .val (.ref b103), .val (.ref b106), .val (.ref ac), .unset, .unset] [(.ref b106), (.ref ac), (.ref b103), (.ref b112), (.ref b112)])) rfl (by rw [hml]; rfl) (Steps.refl _) (a := b112) (argsL := [(.ref b103), (.ref ac), (.ref b106)]) (rest := [(.ref b112)]) (lenOf pd_5 rfl) rfl (by show 2 * 0 + _ ≤ _; exact Nat.le_of_eq rfl) (hb hby at_231) (fun _ _ => ⟨rfl, e112, (by decide : 10 + 4 ≤ _), (by decide : 23 + 52 ≤ _)⟩)
                    dsimp only [Pt.U, Pt.locs, Pt.cells, Pt.slots] at Xa113 hSa113 ga113 l113 y113 z113 st113 hQ113 CRc113
                    subst l113 y113 z113
                    obtain ⟨X113, hS113, hZ113, hown113⟩ := rebS hS105 (n1 := T112.heap.size) (by rw [e112]; exact (Nat.le_trans (Nat.le_trans (Nat.le_trans (Nat.le_refl _) E106.1) Kc110.1) E112.1)) Xa113 hSa113 ga113 hZ105 hown105
                    obtain ⟨rfl, N113q, Kc113, Ec113, Fh113, Fg113⟩ := hQ113
                    have N113 := Fr.app N110 N113q
                    have K113 : Keep h0 T113.heap [] := K112.trans Kc113 (allS (Or.inr sz_b112) all0)
                    have CR113 := CHr.trans CR112 CRc113
                    refine Ends.pre (T' := T113.setTop (mkF m 234 #[.val (.int x0), .val (.int x1), .val (.int x2), .val (.int (0 : Int32)), .val (.int (2 : Int32)), .val (.int (0 : Int32)), .val (.int f6), .val (.int f7), .val (.int u0), .val (.int u1), .val (.int v0), .val (.int v1), .val (.ref b6), .val (.ref b100), .val (.ref b103), .val (.ref b106), .val (.ref ac), .unset, .unset] [(.ref b112)])) (fun t k => st113.trans k) ?_
                    refine Ends.pre (fun t k => XS.astore (g := (mkF m 234 #[.val (.int x0), .val (.int x1), .val (.int x2), .val (.int (0 : Int32)), .val (.int (2 : Int32)), .val (.int (0 : Int32)), .val (.int f6), .val (.int f7), .val (.int u0), .val (.int u1), .val (.int v0), .val (.int v1), .val (.ref b6), .val (.ref b100), .val (.ref b103), .val (.ref b106), .val (.ref ac), .unset, .unset] [(.ref b112)])) X113.here hx rfl (hb hby at_234) rfl rfl (l' := #[.val (.int x0), .val (.int x1), .val (.int x2), .val (.int (0 : Int32)), .val (.int (2 : Int32)), .val (.int (0 : Int32)), .val (.int f6), .val (.int f7), .val (.int u0), .val (.int u1), .val (.int v0), .val (.int v1), .val (.ref b6), .val (.ref b100), .val (.ref b103), .val (.ref b106), .val (.ref ac), .val (.ref b112), .unset]) rfl k) ?_
                    refine Ends.pre (fun t k => XS.iload X113.here hx rfl (hb hby at_236) rfl k) ?_
                    refine Ends.pre (T' := T113.setTop (mkF m 241 #[.val (.int x0), .val (.int x1), .val (.int x2), .val (.int (0 : Int32)), .val (.int (2 : Int32)), .val (.int (0 : Int32)), .val (.int f6), .val (.int f7), .val (.int u0), .val (.int u1), .val (.int v0), .val (.int v1), .val (.ref b6), .val (.ref b100), .val (.ref b103), .val (.ref b106), .val (.ref ac), .val (.ref b112), .unset] [])) (fun t k => XS.ifNo X113.here hx rfl (hb hby at_238) rfl (by decide) k) ?_
                    refine Ends.pre (fun t k => XS.iloadN X113.here hx rfl (hb hby at_241) rfl k) ?_
                    refine Ends.pre (fun t k => XS.iload X113.here hx rfl (hb hby at_242) rfl k) ?_
                    refine Ends.pre (T' := T113.setTop (mkF m 275 #[.val (.int x0), .val (.int x1), .val (.int x2), .val (.int (0 : Int32)), .val (.int (2 : Int32)), .val (.int (0 : Int32)), .val (.int f6), .val (.int f7), .val (.int u0), .val (.int u1), .val (.int v0), .val (.int v1), .val (.ref b6), .val (.ref b100), .val (.ref b103), .val (.ref b106), .val (.ref ac), .val (.ref b112), .unset] [])) (fun t k => XS.icmpYes X113.here hx rfl (pc0 := 244) (pc' := 275) rfl (hb hby at_244) rfl (by decide) (by decide) (by decide) k) ?_
                    refine Ends.pre (fun t k => XS.iconst X113.here hx rfl (hb hby at_275) k) ?_
                    refine Ends.pre (fun t k => XS.istore (g := (mkF m 276 #[.val (.int x0), .val (.int x1), .val (.int x2), .val (.int (0 : Int32)), .val (.int (2 : Int32)), .val (.int (0 : Int32)), .val (.int f6), .val (.int f7), .val (.int u0), .val (.int u1), .val (.int v0), .val (.int v1), .val (.ref b6), .val (.ref b100), .val (.ref b103), .val (.ref b106), .val (.ref ac), .val (.ref b112), .unset] [(.int (0 : Int32))])) X113.here hx rfl (hb hby at_276) rfl (l' := #[.val (.int x0), .val (.int x1), .val (.int x2), .val (.int (0 : Int32)), .val (.int (2 : Int32)), .val (.int (0 : Int32)), .val (.int f6), .val (.int f7), .val (.int u0), .val (.int u1), .val (.int v0), .val (.int v1), .val (.ref b6), .val (.ref b100), .val (.ref b103), .val (.ref b106), .val (.ref ac), .val (.ref b112), .val (.int (0 : Int32))]) rfl k) ?_
                    refine Ends.pre (fun t k => XS.aload X113.here hx rfl (hb hby at_278) rfl rfl k) ?_
                    have F114 : Exa Z T113.heap b106 "java/lang/String" := ((Es110.ext E112).keep Kc113)
                    have F115 : Fld Z T113.heap b106 "java/lang/String" "value" "[B" (.ref t110) := ((Vs110.ext E112).keep Kc113 (ninS (Nat.ne_of_lt (Nat.lt_of_lt_of_le (Nat.lt_of_lt_of_le A106.lt Kc110.1) (Nat.le_of_eq g112.symm))) nin0))
                    have F116 : Fld Z T113.heap b106 "java/lang/String" "coder" "B" (.int 0) := ((Cs110.ext E112).keep Kc113 (ninS (Nat.ne_of_lt (Nat.lt_of_lt_of_le (Nat.lt_of_lt_of_le A106.lt Kc110.1) (Nat.le_of_eq g112.symm))) nin0))
                    have F117 : Arv Z T113.heap t110 kb110 .byte (2 : Int32) ((([v0, v1] : List Int32).map (fun c => c.toInt8.toInt32)).map Value.int) (.int 0) := ((Arv.ext As110 E112).keep Kc113 (ninS (Nat.ne_of_lt (Nat.lt_of_lt_of_le As110.lt (Nat.le_of_eq g112.symm))) nin0))
                    have F118 : Exa Z T113.heap b103 "java/lang/String" := ((((Es105.ext E106).keep Kc110).ext E112).keep Kc113)
                    have F119 : Fld Z T113.heap b103 "java/lang/String" "value" "[B" (.ref t105) := ((((Vs105.ext E106).keep Kc110 (ninS (Nat.ne_of_lt (Nat.lt_of_lt_of_le (Nat.lt_of_lt_of_le A103.lt Kc105.1) (Nat.le_of_eq g106.symm))) nin0)).ext E112).keep Kc113 (ninS (Nat.ne_of_lt (Nat.lt_of_lt_of_le (Nat.lt_of_lt_of_le (Nat.lt_of_lt_of_le (Nat.lt_of_lt_of_le A103.lt Kc105.1) E106.1) Kc110.1) (Nat.le_of_eq g112.symm))) nin0))
                    have F120 : Fld Z T113.heap b103 "java/lang/String" "coder" "B" (.int 0) := ((((Cs105.ext E106).keep Kc110 (ninS (Nat.ne_of_lt (Nat.lt_of_lt_of_le (Nat.lt_of_lt_of_le A103.lt Kc105.1) (Nat.le_of_eq g106.symm))) nin0)).ext E112).keep Kc113 (ninS (Nat.ne_of_lt (Nat.lt_of_lt_of_le (Nat.lt_of_lt_of_le (Nat.lt_of_lt_of_le (Nat.lt_of_lt_of_le A103.lt Kc105.1) E106.1) Kc110.1) (Nat.le_of_eq g112.symm))) nin0))
                    have F121 : Arv Z T113.heap t105 kb105 .byte (0 : Int32) [] (.int 0) := ((Arv.ext ((Arv.ext As105 E106).keep Kc110 (ninS (Nat.ne_of_lt (Nat.lt_of_lt_of_le As105.lt (Nat.le_of_eq g106.symm))) nin0)) E112).keep Kc113 (ninS (Nat.ne_of_lt (Nat.lt_of_lt_of_le (Nat.lt_of_lt_of_le (Nat.lt_of_lt_of_le As105.lt E106.1) Kc110.1) (Nat.le_of_eq g112.symm))) nin0))
                    have F122 : Sta Z T113.heap "java/lang/String" "COMPACT_STRINGS" "Z" (.int cz) := (Sta_keep0 SCS K113)
                    have F123 : Sta Z T113.heap "jdk/internal/util/Preconditions" "SIOOBE_FORMATTER" "Ljava/util/function/BiFunction;" fm := (Sta_keep0 SFM K113)
                    obtain ⟨cq124, kq124, q124a, q124b, q124c⟩ := isOf hZ113 rfl Ec113
                    obtain ⟨_, _, ⟨T124, L124, k124, n124⟩, -, X124, ⟨Lc124, hQ124, l124, y124, z124⟩, st124⟩ := X113.virtualBack hx (y := (⟨"com/example/static_permission_checker/staticpermissionchecker/core/FlowConstraint", "holds", "()Z"⟩ : MethodName)) (z := (⟨"com/example/static_permission_checker/staticpermissionchecker/core/FlowConstraint", "holds", "()Z"⟩ : MethodName)) hown113 (mvT hZ113 (hw _ (List.mem_of_getElem? (i := 60) rfl))) (mvT hZ113 (hw _ (List.mem_of_getElem? (i := 61) rfl))) (notFace_of_selects (args := #[]) (mvT hZ113 (hw _ (List.mem_of_getElem? (i := 63) rfl)))) (mvT hZ113 (hw _ (List.mem_of_getElem? (i := 63) rfl))) (mvT hZ113 (hw _ (List.mem_of_getElem? (i := 62) rfl))) (by decide) (backOf (W := 0) (rm10d l Z a0 hw [] b112 b106 t110 kb110 ([v0, v1] : List Int32) (2 : Int32) _ b103 t105 kb105 ([] : List Int32) (0 : Int32) _ cz fm T113.heap n0 (Nat.le_trans (Nat.le_trans (Nat.le_trans (Nat.le_trans (Nat.le_trans (Nat.le_trans (Nat.le_trans (Nat.le_trans (Nat.le_trans (Nat.le_trans Z0 E6.1) E100.1) (Keep.of_wr W101).1) (Keep.of_wr W102).1) E103.1) Kc105.1) E106.1) Kc110.1) E112.1) Kc113.1) F114 F116 F115 F117 hcd110 hbd107 (Nat.le_of_ble_eq_true rfl) F118 F120 F119 F121 hcd105 hbd105 (Nat.le_of_ble_eq_true rfl) Fh113 Fg113 F122 hcz F123 hfm (by simp)) hZ113 (hw _ (List.mem_of_getElem? (i := 64) rfl)) (hw _ (List.mem_of_getElem? (i := 38) rfl)) (by decide) (by decide)) q124a q124c (g := (mkF m 280 #[.val (.int x0), .val (.int x1), .val (.int x2), .val (.int (0 : Int32)), .val (.int (2 : Int32)), .val (.int (0 : Int32)), .val (.int f6), .val (.int f7), .val (.int u0), .val (.int u1), .val (.int v0), .val (.int v1), .val (.ref b6), .val (.ref b100), .val (.ref b103), .val (.ref b106), .val (.ref ac), .val (.ref b112), .val (.int (0 : Int32))] [(.ref b112)])) rfl (by rw [hml]; rfl) (Steps.refl _) (argsL := []) (rest := []) (lenOf pd_6 rfl) rfl (by show 2 * 0 + _ ≤ _; exact Nat.le_of_eq rfl) (hb hby at_280) (fun _ _ => ⟨rfl, rfl, (by decide : 14 + 0 ≤ _), (by decide : 75 + 0 ≤ _)⟩)
                    dsimp only [Pt.U, Pt.locs, Pt.cells, Pt.slots] at X124 l124 y124 z124 st124 hQ124
                    subst l124 y124 z124
                    obtain ⟨rfl, N124q, eh124⟩ := hQ124
                    have N124 := Fr.app N113 N124q
                    refine Ends.pre (T' := T124.setTop (mkF m 283 #[.val (.int x0), .val (.int x1), .val (.int x2), .val (.int (0 : Int32)), .val (.int (2 : Int32)), .val (.int (0 : Int32)), .val (.int f6), .val (.int f7), .val (.int u0), .val (.int u1), .val (.int v0), .val (.int v1), .val (.ref b6), .val (.ref b100), .val (.ref b103), .val (.ref b106), .val (.ref ac), .val (.ref b112), .val (.int (0 : Int32))] [(.int (0 : Int32))])) (fun t k => st124.trans k) ?_
                    refine Ends.pre (fun t k => XS.iload X124.here hx rfl (hb hby at_283) rfl k) ?_
                    refine Ends.pre (T' := T124.setTop (mkF m 288 #[.val (.int x0), .val (.int x1), .val (.int x2), .val (.int (0 : Int32)), .val (.int (2 : Int32)), .val (.int (0 : Int32)), .val (.int f6), .val (.int f7), .val (.int u0), .val (.int u1), .val (.int v0), .val (.int v1), .val (.ref b6), .val (.ref b100), .val (.ref b103), .val (.ref b106), .val (.ref ac), .val (.ref b112), .val (.int (0 : Int32))] [])) (fun t k => XS.icmpNo X124.here hx rfl (hb hby at_285) rfl (by decide) k) ?_
                    refine Ends.pre (fun t k => XS.iconst X124.here hx rfl (hb hby at_288) k) ?_
                    refine Ends.pre (fun t k => XS.goto X124.here hx rfl (pc0 := 289) (pc' := 293) rfl (hb hby at_289) (by decide) (by decide) k) ?_
                    exact Ends.retW (w := (.int (1 : Int32))) X124 hx Bd.notSynchronized Bd.returns rfl (Or.inl ⟨rfl, Or.inr (Or.inl rfl), _, rfl⟩) (hb hby at_293) eh124 hZ113 hEL hS113 (Nat.le_refl _) hh CR113 ⟨rfl, N124⟩ (by decide) (by decide)
                  refine Ends.pre (fun t k => XS.iload X110.here hx rfl (hb hby at_205) rfl k) ?_
                  by_cases hc207_125 : f7 = 0
                  · refine Ends.pre (T' := T110.setTop (mkF m 216 #[.val (.int x0), .val (.int x1), .val (.int x2), .val (.int (0 : Int32)), .val (.int (2 : Int32)), .val (.int (0 : Int32)), .val (.int f6), .val (.int f7), .val (.int u0), .val (.int u1), .val (.int v0), .val (.int v1), .val (.ref b6), .val (.ref b100), .val (.ref b103), .val (.ref b106), .unset, .unset, .unset] [])) (fun t k => XS.ifYes X110.here hx rfl (pc0 := 207) (pc' := 216) rfl (hb hby at_207) rfl (Jvm.Free.XT.i0_eq_t hc207_125) (by decide) (by decide) k) ?_
                    have F126 : Sta Z T110.heap "com/example/static_permission_checker/staticpermissionchecker/core/FlowConstraint$Access" "READ" "Lcom/example/static_permission_checker/staticpermissionchecker/core/FlowConstraint$Access;" (.ref wREAD) := (Sta_keep0 S_READ K110)
                    obtain ⟨T127, X127, e127, st127⟩ := getS2 X110 hx hZ105 hown105 (host := "") (Or.inl (hw _ (List.mem_of_getElem? (i := 33) rfl))) Via.refl rfl F126 (g := (mkF m 216 #[.val (.int x0), .val (.int x1), .val (.int x2), .val (.int (0 : Int32)), .val (.int (2 : Int32)), .val (.int (0 : Int32)), .val (.int f6), .val (.int f7), .val (.int u0), .val (.int u1), .val (.int v0), .val (.int v1), .val (.ref b6), .val (.ref b100), .val (.ref b103), .val (.ref b106), .unset, .unset, .unset] [])) rfl (hb hby at_216)
                    refine Ends.pre (T' := T127.setTop (mkF m 219 #[.val (.int x0), .val (.int x1), .val (.int x2), .val (.int (0 : Int32)), .val (.int (2 : Int32)), .val (.int (0 : Int32)), .val (.int f6), .val (.int f7), .val (.int u0), .val (.int u1), .val (.int v0), .val (.int v1), .val (.ref b6), .val (.ref b100), .val (.ref b103), .val (.ref b106), .unset, .unset, .unset] [(.ref wREAD)])) (fun t k => st127 _ k) ?_
                    exact J219_111 T127 X127 e127 wREAD
                  · refine Ends.pre (T' := T110.setTop (mkF m 210 #[.val (.int x0), .val (.int x1), .val (.int x2), .val (.int (0 : Int32)), .val (.int (2 : Int32)), .val (.int (0 : Int32)), .val (.int f6), .val (.int f7), .val (.int u0), .val (.int u1), .val (.int v0), .val (.int v1), .val (.ref b6), .val (.ref b100), .val (.ref b103), .val (.ref b106), .unset, .unset, .unset] [])) (fun t k => XS.ifNo X110.here hx rfl (hb hby at_207) rfl (Jvm.Free.XT.i0_eq_f hc207_125) k) ?_
                    have F128 : Sta Z T110.heap "com/example/static_permission_checker/staticpermissionchecker/core/FlowConstraint$Access" "WRITE" "Lcom/example/static_permission_checker/staticpermissionchecker/core/FlowConstraint$Access;" (.ref wWRITE) := (Sta_keep0 S_WRITE K110)
                    obtain ⟨T129, X129, e129, st129⟩ := getS2 X110 hx hZ105 hown105 (host := "") (Or.inl (hw _ (List.mem_of_getElem? (i := 75) rfl))) Via.refl rfl F128 (g := (mkF m 210 #[.val (.int x0), .val (.int x1), .val (.int x2), .val (.int (0 : Int32)), .val (.int (2 : Int32)), .val (.int (0 : Int32)), .val (.int f6), .val (.int f7), .val (.int u0), .val (.int u1), .val (.int v0), .val (.int v1), .val (.ref b6), .val (.ref b100), .val (.ref b103), .val (.ref b106), .unset, .unset, .unset] [])) rfl (hb hby at_210)
                    refine Ends.pre (T' := T129.setTop (mkF m 213 #[.val (.int x0), .val (.int x1), .val (.int x2), .val (.int (0 : Int32)), .val (.int (2 : Int32)), .val (.int (0 : Int32)), .val (.int f6), .val (.int f7), .val (.int u0), .val (.int u1), .val (.int v0), .val (.int v1), .val (.ref b6), .val (.ref b100), .val (.ref b103), .val (.ref b106), .unset, .unset, .unset] [(.ref wWRITE)])) (fun t k => st129 _ k) ?_
                    refine Ends.pre (fun t k => XS.goto X129.here hx rfl (pc0 := 213) (pc' := 219) rfl (hb hby at_213) (by decide) (by decide) k) ?_
                    exact J219_111 T129 X129 e129 wWRITE
                · refine Ends.pre (fun t k => XS.iload X102.here hx rfl (hb hby at_174) rfl k) ?_
                  refine Ends.pre (T' := T102.setTop (mkF m 179 #[.val (.int x0), .val (.int x1), .val (.int x2), .val (.int (0 : Int32)), .val (.int (2 : Int32)), .val (.int (1 : Int32)), .val (.int f6), .val (.int f7), .val (.int u0), .val (.int u1), .val (.int v0), .val (.int v1), .val (.ref b6), .val (.ref b100), .unset, .unset, .unset, .unset, .unset] [])) (fun t k => XS.ifNo X102.here hx rfl (hb hby at_176) rfl (by decide) k) ?_
                  refine Ends.pre (fun t k => XS.aconstNull X102.here hx rfl (hb hby at_179) k) ?_
                  refine Ends.pre (fun t k => XS.goto X102.here hx rfl (pc0 := 180) (pc' := 192) rfl (hb hby at_180) (by decide) (by decide) k) ?_
                  refine Ends.pre (fun t k => XS.astore (g := (mkF m 192 #[.val (.int x0), .val (.int x1), .val (.int x2), .val (.int (0 : Int32)), .val (.int (2 : Int32)), .val (.int (1 : Int32)), .val (.int f6), .val (.int f7), .val (.int u0), .val (.int u1), .val (.int v0), .val (.int v1), .val (.ref b6), .val (.ref b100), .unset, .unset, .unset, .unset, .unset] [.null])) X102.here hx rfl (hb hby at_192) rfl rfl (l' := #[.val (.int x0), .val (.int x1), .val (.int x2), .val (.int (0 : Int32)), .val (.int (2 : Int32)), .val (.int (1 : Int32)), .val (.int f6), .val (.int f7), .val (.int u0), .val (.int u1), .val (.int v0), .val (.int v1), .val (.ref b6), .val (.ref b100), .val .null, .unset, .unset, .unset, .unset]) rfl k) ?_
                  obtain ⟨T130, h130, X130, e130, E130, A130, D130, -, st130⟩ := newO X102 hx hZ hown (hw _ (List.mem_of_getElem? (i := 1) rfl)) (hw _ (List.mem_of_getElem? (i := 2) rfl)) (hw _ (List.mem_of_getElem? (i := 3) rfl)) e102 (g := (mkF m 194 #[.val (.int x0), .val (.int x1), .val (.int x2), .val (.int (0 : Int32)), .val (.int (2 : Int32)), .val (.int (1 : Int32)), .val (.int f6), .val (.int f7), .val (.int u0), .val (.int u1), .val (.int v0), .val (.int v1), .val (.ref b6), .val (.ref b100), .val .null, .unset, .unset, .unset, .unset] [])) rfl (hb hby at_194) (by decide) (by decide)
                  obtain ⟨b130, g130⟩ : ∃ z, z = h102.size := ⟨_, rfl⟩
                  rw [← g130] at A130 D130 st130
                  have ge_b130 : n0 ≤ b130 := Nat.le_trans (Nat.le_trans (Nat.le_trans (Nat.le_trans (Nat.le_trans Z0 E6.1) E100.1) (Keep.of_wr W101).1) (Keep.of_wr W102).1) (Nat.le_of_eq g130.symm)
                  have sz_b130 : h0.size ≤ b130 := Nat.le_trans K102.1 (Nat.le_of_eq g130.symm)
                  have CR130 := CHr.trans CR102 (CHr.ext E130 CR102.1)
                  have K130 : Keep h0 h130 [] := K102.ext E130
                  have Fd130_coder : Fld Z h130 b130 "java/lang/String" "coder" "B" (.int (0 : Int32)) := D130 (Or.inr (hw _ (List.mem_of_getElem? (i := 27) rfl))) (ty := .byte) (by decide)
                  have Fd130_value : Fld Z h130 b130 "java/lang/String" "value" "[B" .null := D130 (Or.inr (hw _ (List.mem_of_getElem? (i := 29) rfl))) (ty := (.array .byte)) (by decide)
                  refine Ends.pre (T' := T130.setTop (mkF m 197 #[.val (.int x0), .val (.int x1), .val (.int x2), .val (.int (0 : Int32)), .val (.int (2 : Int32)), .val (.int (1 : Int32)), .val (.int f6), .val (.int f7), .val (.int u0), .val (.int u1), .val (.int v0), .val (.int v1), .val (.ref b6), .val (.ref b100), .val .null, .unset, .unset, .unset, .unset] [(.ref b130)])) (fun t k => st130 _ k) ?_
                  refine Ends.pre (fun t k => XS.dup X130.here hx rfl (hb hby at_197) rfl rfl k) ?_
                  refine Ends.pre (fun t k => XS.aload X130.here hx rfl (hb hby at_198) rfl rfl k) ?_
                  have hp131 : ∀ c ∈ ([v0, v1] : List Int32), ¬ c < 0 ∧ ¬ (255 : Int32) < c := (own_alS cv0 (own_alS cv1 own_al0))
                  have hbd131 := own_up _ hp131
                  have F132 : Arv Z h130 b100 k100 .char (2 : Int32) [(.int v0), (.int v1)] (.int (0 : Int32)) := (Arv.ext V102 E130)
                  have F133 : Sta Z h130 "java/lang/String" "COMPACT_STRINGS" "Z" (.int cz) := (Sta_keep0 SCS K130)
                  obtain ⟨_, _, ⟨T134, L134, k134, n134⟩, -, X134, ⟨Lc134, hQ134, l134, y134, z134⟩, st134⟩ := X130.specialBack hx (y := (⟨"java/lang/String", "<init>", "([C)V"⟩ : MethodName)) rfl hown (mvT hZ (hw _ (List.mem_of_getElem? (i := 4) rfl))) (mvT hZ (hw _ (List.mem_of_getElem? (i := 5) rfl))) (mvT hZ (hw _ (List.mem_of_getElem? (i := 6) rfl))) (by decide) (StrChars.Road.backV (W := 1) hZ (own_hws hw) (kI := 4) (hw _ (List.mem_of_getElem? (i := 2) rfl)) (cs := ([v0, v1] : List Int32)) (bs := (([v0, v1] : List Int32).map (fun c => c.toInt8.toInt32))) (n := 2) ge_b130 (Nat.le_trans (Nat.le_trans (Nat.le_trans (Nat.le_trans (Nat.le_trans Z0 E6.1) E100.1) (Keep.of_wr W101).1) (Keep.of_wr W102).1) E130.1) A130 Fd130_value Fd130_coder F132 F133 hcz rfl rfl (by decide) (by decide) hp131 rfl (by decide) (by decide)) (g := (mkF m 200 #[.val (.int x0), .val (.int x1), .val (.int x2), .val (.int (0 : Int32)), .val (.int (2 : Int32)), .val (.int (1 : Int32)), .val (.int f6), .val (.int f7), .val (.int u0), .val (.int u1), .val (.int v0), .val (.int v1), .val (.ref b6), .val (.ref b100), .val .null, .unset, .unset, .unset, .unset] [(.ref b100), (.ref b130), (.ref b130)])) rfl (by rw [hml]; rfl) (Steps.refl _) (a := b130) (argsL := [(.ref b100)]) (rest := [(.ref b130)]) (lenOf pd_4 rfl) rfl (by show 2 * 0 + _ ≤ _; exact Nat.le_of_eq rfl) (hb hby at_200) (fun _ _ => ⟨rfl, e130, (by decide : 3 + 1 ≤ _), (by decide : 6 + 2 ≤ _)⟩)
                  dsimp only [Pt.U, Pt.locs, Pt.cells, Pt.slots] at X134 l134 y134 z134 st134 hQ134
                  subst l134 y134 z134
                  obtain ⟨rfl, N134q, Kc134, Es134, Cs134, t134, kb134, gt134, ft134, nt134, Vs134, As134⟩ := hQ134
                  have N134 := Fr.app N102 N134q
                  have K134 : Keep h0 T134.heap [] := K130.trans Kc134 (allS (Or.inr sz_b130) all0)
                  have CR134 := CHr.trans CR130 (CHr.keep Kc134 (sfS (Safe.ext E130 CR102.1 (Safe.new (Nat.le_of_eq g130.symm))) sf0) CR130.1)
                  have hcd134 : StrChars.Road.CodA ([v0, v1] : List Int32) 0 (2 : Int32) ((([v0, v1] : List Int32).map (fun c => c.toInt8.toInt32)).map Value.int) := StrChars.Road.codOf (n := 2) rfl (fun c hc => (hp131 c hc).2)
                  refine Ends.pre (T' := T134.setTop (mkF m 203 #[.val (.int x0), .val (.int x1), .val (.int x2), .val (.int (0 : Int32)), .val (.int (2 : Int32)), .val (.int (1 : Int32)), .val (.int f6), .val (.int f7), .val (.int u0), .val (.int u1), .val (.int v0), .val (.int v1), .val (.ref b6), .val (.ref b100), .val .null, .unset, .unset, .unset, .unset] [(.ref b130)])) (fun t k => st134.trans k) ?_
                  refine Ends.pre (fun t k => XS.astore (g := (mkF m 203 #[.val (.int x0), .val (.int x1), .val (.int x2), .val (.int (0 : Int32)), .val (.int (2 : Int32)), .val (.int (1 : Int32)), .val (.int f6), .val (.int f7), .val (.int u0), .val (.int u1), .val (.int v0), .val (.int v1), .val (.ref b6), .val (.ref b100), .val .null, .unset, .unset, .unset, .unset] [(.ref b130)])) X134.here hx rfl (hb hby at_203) rfl rfl (l' := #[.val (.int x0), .val (.int x1), .val (.int x2), .val (.int (0 : Int32)), .val (.int (2 : Int32)), .val (.int (1 : Int32)), .val (.int f6), .val (.int f7), .val (.int u0), .val (.int u1), .val (.int v0), .val (.int v1), .val (.ref b6), .val (.ref b100), .val .null, .val (.ref b130), .unset, .unset, .unset]) rfl k) ?_
                  have J219_135 : ∀ (TJ135 : State) (XJ135 : SS X134 TJ135) (eJ135 : TJ135.heap = T134.heap) (ac : Addr), Jvm.RoadKit.Ends p e below (EndW s room_1 Z consts_1 (Q_rm0 Z x0 x1 x2 wREAD wWRITE cz fm h0 n0)) (TJ135.setTop (mkF m 219 #[.val (.int x0), .val (.int x1), .val (.int x2), .val (.int (0 : Int32)), .val (.int (2 : Int32)), .val (.int (1 : Int32)), .val (.int f6), .val (.int f7), .val (.int u0), .val (.int u1), .val (.int v0), .val (.int v1), .val (.ref b6), .val (.ref b100), .val .null, .val (.ref b130), .unset, .unset, .unset] [(.ref ac)])) := by
                    intro TJ135 XJ135 eJ135 ac
                    unfold SS at XJ135
                    refine Ends.pre (fun t k => XS.astore (g := (mkF m 219 #[.val (.int x0), .val (.int x1), .val (.int x2), .val (.int (0 : Int32)), .val (.int (2 : Int32)), .val (.int (1 : Int32)), .val (.int f6), .val (.int f7), .val (.int u0), .val (.int u1), .val (.int v0), .val (.int v1), .val (.ref b6), .val (.ref b100), .val .null, .val (.ref b130), .unset, .unset, .unset] [(.ref ac)])) XJ135.here hx rfl (hb hby at_219) rfl rfl (l' := #[.val (.int x0), .val (.int x1), .val (.int x2), .val (.int (0 : Int32)), .val (.int (2 : Int32)), .val (.int (1 : Int32)), .val (.int f6), .val (.int f7), .val (.int u0), .val (.int u1), .val (.int v0), .val (.int v1), .val (.ref b6), .val (.ref b100), .val .null, .val (.ref b130), .val (.ref ac), .unset, .unset]) rfl k) ?_
                    obtain ⟨T136, h136, X136, e136, E136, A136, D136, -, st136⟩ := newO XJ135 hx hZ hown (hw _ (List.mem_of_getElem? (i := 36) rfl)) (hw _ (List.mem_of_getElem? (i := 37) rfl)) (hw _ (List.mem_of_getElem? (i := 38) rfl)) eJ135 (g := (mkF m 221 #[.val (.int x0), .val (.int x1), .val (.int x2), .val (.int (0 : Int32)), .val (.int (2 : Int32)), .val (.int (1 : Int32)), .val (.int f6), .val (.int f7), .val (.int u0), .val (.int u1), .val (.int v0), .val (.int v1), .val (.ref b6), .val (.ref b100), .val .null, .val (.ref b130), .val (.ref ac), .unset, .unset] [])) rfl (hb hby at_221) (by decide) (by decide)
                    obtain ⟨b136, g136⟩ : ∃ z, z = T134.heap.size := ⟨_, rfl⟩
                    rw [← g136] at A136 D136 st136
                    have ge_b136 : n0 ≤ b136 := Nat.le_trans (Nat.le_trans (Nat.le_trans (Nat.le_trans (Nat.le_trans (Nat.le_trans (Nat.le_trans Z0 E6.1) E100.1) (Keep.of_wr W101).1) (Keep.of_wr W102).1) E130.1) Kc134.1) (Nat.le_of_eq g136.symm)
                    have sz_b136 : h0.size ≤ b136 := Nat.le_trans K134.1 (Nat.le_of_eq g136.symm)
                    have CR136 := CHr.trans CR134 (CHr.ext E136 CR134.1)
                    have K136 : Keep h0 h136 [] := K134.ext E136
                    have Fd136_holder : Fld Z h136 b136 "com/example/static_permission_checker/staticpermissionchecker/core/FlowConstraint" "holder" "Ljava/lang/String;" .null := D136 (Or.inr (hw _ (List.mem_of_getElem? (i := 55) rfl))) (ty := (.object "java/lang/String")) (by decide)
                    have Fd136_access : Fld Z h136 b136 "com/example/static_permission_checker/staticpermissionchecker/core/FlowConstraint" "access" "Lcom/example/static_permission_checker/staticpermissionchecker/core/FlowConstraint$Access;" .null := D136 (Or.inr (hw _ (List.mem_of_getElem? (i := 57) rfl))) (ty := (.object "com/example/static_permission_checker/staticpermissionchecker/core/FlowConstraint$Access")) (by decide)
                    have Fd136_guard : Fld Z h136 b136 "com/example/static_permission_checker/staticpermissionchecker/core/FlowConstraint" "guard" "Ljava/lang/String;" .null := D136 (Or.inr (hw _ (List.mem_of_getElem? (i := 59) rfl))) (ty := (.object "java/lang/String")) (by decide)
                    refine Ends.pre (T' := T136.setTop (mkF m 224 #[.val (.int x0), .val (.int x1), .val (.int x2), .val (.int (0 : Int32)), .val (.int (2 : Int32)), .val (.int (1 : Int32)), .val (.int f6), .val (.int f7), .val (.int u0), .val (.int u1), .val (.int v0), .val (.int v1), .val (.ref b6), .val (.ref b100), .val .null, .val (.ref b130), .val (.ref ac), .unset, .unset] [(.ref b136)])) (fun t k => st136 _ k) ?_
                    refine Ends.pre (fun t k => XS.dup X136.here hx rfl (hb hby at_224) rfl rfl k) ?_
                    refine Ends.pre (fun t k => XS.aload X136.here hx rfl (hb hby at_225) rfl rfl k) ?_
                    refine Ends.pre (fun t k => XS.aload X136.here hx rfl (hb hby at_227) rfl rfl k) ?_
                    refine Ends.pre (fun t k => XS.aload X136.here hx rfl (hb hby at_229) rfl rfl k) ?_
                    obtain ⟨_, _, ⟨T137, L137, k137, n137⟩, -, Xa137, hSa137, ga137, ⟨Lc137, hQ137, l137, y137, z137, CRc137⟩, st137⟩ := X136.specialBackS hx (y := (⟨"com/example/static_permission_checker/staticpermissionchecker/core/FlowConstraint", "<init>", "(Ljava/lang/String;Lcom/example/static_permission_checker/staticpermissionchecker/core/FlowConstraint$Access;Ljava/lang/String;)V"⟩ : MethodName)) rfl hown (mvT hZ (hw _ (List.mem_of_getElem? (i := 39) rfl))) (mvT hZ (hw _ (List.mem_of_getElem? (i := 40) rfl))) (mvT hZ (hw _ (List.mem_of_getElem? (i := 41) rfl))) (by decide) (backOfSH (W := 1) (rm7n l Z a0 hw [] b136 ac b130 h136 n0 (Nat.le_trans (Nat.le_trans (Nat.le_trans (Nat.le_trans (Nat.le_trans (Nat.le_trans (Nat.le_trans Z0 E6.1) E100.1) (Keep.of_wr W101).1) (Keep.of_wr W102).1) E130.1) Kc134.1) E136.1) A136 ge_b136 Fd136_holder Fd136_access Fd136_guard) hZ (hw _ (List.mem_of_getElem? (i := 41) rfl)) (hw _ (List.mem_of_getElem? (i := 38) rfl)) (by decide) (by decide) hEL CR136.1) (g := (mkF m 231 #[.val (.int x0), .val (.int x1), .val (.int x2), .val (.int (0 : Int32)), .val (.int (2 : Int32)), .val (.int (1 : Int32)), .val (.int f6), .val (.int f7), .val (.int u0), .val (.int u1), .val (.int v0), .val (.int v1), .val (.ref b6), .val (.ref b100), .val .null, .val (.ref b130), .val (.ref ac), .unset, .unset] [(.ref b130), (.ref ac), .null, (.ref b136), (.ref b136)])) rfl (by rw [hml]; rfl) (Steps.refl _) (a := b136) (argsL := [.null, (.ref ac), (.ref b130)]) (rest := [(.ref b136)]) (lenOf pd_5 rfl) rfl (by show 2 * 0 + _ ≤ _; exact Nat.le_of_eq rfl) (hb hby at_231) (fun _ _ => ⟨rfl, e136, (by decide : 5 + 4 ≤ _), (by decide : 11 + 52 ≤ _)⟩)
                    dsimp only [Pt.U, Pt.locs, Pt.cells, Pt.slots] at Xa137 hSa137 ga137 l137 y137 z137 st137 hQ137 CRc137
                    subst l137 y137 z137
                    obtain ⟨X137, hS137, hZ137, hown137⟩ := rebS hS0 (n1 := T136.heap.size) (by rw [e136]; exact (Nat.le_trans (Nat.le_trans (Nat.le_trans (Nat.le_trans (Nat.le_trans (Nat.le_trans (Nat.le_trans hk0 E6.1) E100.1) (Keep.of_wr W101).1) (Keep.of_wr W102).1) E130.1) Kc134.1) E136.1)) Xa137 hSa137 ga137 hZ hown
                    obtain ⟨rfl, N137q, Kc137, Ec137, Fh137, Fg137⟩ := hQ137
                    have N137 := Fr.app N134 N137q
                    have K137 : Keep h0 T137.heap [] := K136.trans Kc137 (allS (Or.inr sz_b136) all0)
                    have CR137 := CHr.trans CR136 CRc137
                    refine Ends.pre (T' := T137.setTop (mkF m 234 #[.val (.int x0), .val (.int x1), .val (.int x2), .val (.int (0 : Int32)), .val (.int (2 : Int32)), .val (.int (1 : Int32)), .val (.int f6), .val (.int f7), .val (.int u0), .val (.int u1), .val (.int v0), .val (.int v1), .val (.ref b6), .val (.ref b100), .val .null, .val (.ref b130), .val (.ref ac), .unset, .unset] [(.ref b136)])) (fun t k => st137.trans k) ?_
                    refine Ends.pre (fun t k => XS.astore (g := (mkF m 234 #[.val (.int x0), .val (.int x1), .val (.int x2), .val (.int (0 : Int32)), .val (.int (2 : Int32)), .val (.int (1 : Int32)), .val (.int f6), .val (.int f7), .val (.int u0), .val (.int u1), .val (.int v0), .val (.int v1), .val (.ref b6), .val (.ref b100), .val .null, .val (.ref b130), .val (.ref ac), .unset, .unset] [(.ref b136)])) X137.here hx rfl (hb hby at_234) rfl rfl (l' := #[.val (.int x0), .val (.int x1), .val (.int x2), .val (.int (0 : Int32)), .val (.int (2 : Int32)), .val (.int (1 : Int32)), .val (.int f6), .val (.int f7), .val (.int u0), .val (.int u1), .val (.int v0), .val (.int v1), .val (.ref b6), .val (.ref b100), .val .null, .val (.ref b130), .val (.ref ac), .val (.ref b136), .unset]) rfl k) ?_
                    refine Ends.pre (fun t k => XS.iload X137.here hx rfl (hb hby at_236) rfl k) ?_
                    refine Ends.pre (T' := T137.setTop (mkF m 275 #[.val (.int x0), .val (.int x1), .val (.int x2), .val (.int (0 : Int32)), .val (.int (2 : Int32)), .val (.int (1 : Int32)), .val (.int f6), .val (.int f7), .val (.int u0), .val (.int u1), .val (.int v0), .val (.int v1), .val (.ref b6), .val (.ref b100), .val .null, .val (.ref b130), .val (.ref ac), .val (.ref b136), .unset] [])) (fun t k => XS.ifYes X137.here hx rfl (pc0 := 238) (pc' := 275) rfl (hb hby at_238) rfl (by decide) (by decide) (by decide) k) ?_
                    refine Ends.pre (fun t k => XS.iconst X137.here hx rfl (hb hby at_275) k) ?_
                    refine Ends.pre (fun t k => XS.istore (g := (mkF m 276 #[.val (.int x0), .val (.int x1), .val (.int x2), .val (.int (0 : Int32)), .val (.int (2 : Int32)), .val (.int (1 : Int32)), .val (.int f6), .val (.int f7), .val (.int u0), .val (.int u1), .val (.int v0), .val (.int v1), .val (.ref b6), .val (.ref b100), .val .null, .val (.ref b130), .val (.ref ac), .val (.ref b136), .unset] [(.int (0 : Int32))])) X137.here hx rfl (hb hby at_276) rfl (l' := #[.val (.int x0), .val (.int x1), .val (.int x2), .val (.int (0 : Int32)), .val (.int (2 : Int32)), .val (.int (1 : Int32)), .val (.int f6), .val (.int f7), .val (.int u0), .val (.int u1), .val (.int v0), .val (.int v1), .val (.ref b6), .val (.ref b100), .val .null, .val (.ref b130), .val (.ref ac), .val (.ref b136), .val (.int (0 : Int32))]) rfl k) ?_
                    refine Ends.pre (fun t k => XS.aload X137.here hx rfl (hb hby at_278) rfl rfl k) ?_
                    have F138 : Exa Z T137.heap b130 "java/lang/String" := ((Es134.ext E136).keep Kc137)
                    have F139 : Fld Z T137.heap b130 "java/lang/String" "value" "[B" (.ref t134) := ((Vs134.ext E136).keep Kc137 (ninS (Nat.ne_of_lt (Nat.lt_of_lt_of_le (Nat.lt_of_lt_of_le A130.lt Kc134.1) (Nat.le_of_eq g136.symm))) nin0))
                    have F140 : Fld Z T137.heap b130 "java/lang/String" "coder" "B" (.int 0) := ((Cs134.ext E136).keep Kc137 (ninS (Nat.ne_of_lt (Nat.lt_of_lt_of_le (Nat.lt_of_lt_of_le A130.lt Kc134.1) (Nat.le_of_eq g136.symm))) nin0))
                    have F141 : Arv Z T137.heap t134 kb134 .byte (2 : Int32) ((([v0, v1] : List Int32).map (fun c => c.toInt8.toInt32)).map Value.int) (.int 0) := ((Arv.ext As134 E136).keep Kc137 (ninS (Nat.ne_of_lt (Nat.lt_of_lt_of_le As134.lt (Nat.le_of_eq g136.symm))) nin0))
                    have F142 : Sta Z T137.heap "java/lang/String" "COMPACT_STRINGS" "Z" (.int cz) := (Sta_keep0 SCS K137)
                    have F143 : Sta Z T137.heap "jdk/internal/util/Preconditions" "SIOOBE_FORMATTER" "Ljava/util/function/BiFunction;" fm := (Sta_keep0 SFM K137)
                    obtain ⟨cq144, kq144, q144a, q144b, q144c⟩ := isOf hZ137 rfl Ec137
                    obtain ⟨_, _, ⟨T144, L144, k144, n144⟩, -, X144, ⟨Lc144, hQ144, l144, y144, z144⟩, st144⟩ := X137.virtualBack hx (y := (⟨"com/example/static_permission_checker/staticpermissionchecker/core/FlowConstraint", "holds", "()Z"⟩ : MethodName)) (z := (⟨"com/example/static_permission_checker/staticpermissionchecker/core/FlowConstraint", "holds", "()Z"⟩ : MethodName)) hown137 (mvT hZ137 (hw _ (List.mem_of_getElem? (i := 60) rfl))) (mvT hZ137 (hw _ (List.mem_of_getElem? (i := 61) rfl))) (notFace_of_selects (args := #[]) (mvT hZ137 (hw _ (List.mem_of_getElem? (i := 63) rfl)))) (mvT hZ137 (hw _ (List.mem_of_getElem? (i := 63) rfl))) (mvT hZ137 (hw _ (List.mem_of_getElem? (i := 62) rfl))) (by decide) (backOf (W := 0) (rm10n l Z a0 hw [] b136 b130 t134 kb134 ([v0, v1] : List Int32) (2 : Int32) _  cz fm T137.heap n0 (Nat.le_trans (Nat.le_trans (Nat.le_trans (Nat.le_trans (Nat.le_trans (Nat.le_trans (Nat.le_trans (Nat.le_trans Z0 E6.1) E100.1) (Keep.of_wr W101).1) (Keep.of_wr W102).1) E130.1) Kc134.1) E136.1) Kc137.1) F138 F140 F139 F141 hcd134 hbd131 (Nat.le_of_ble_eq_true rfl)  Fh137 Fg137 F142 hcz F143 hfm ) hZ137 (hw _ (List.mem_of_getElem? (i := 64) rfl)) (hw _ (List.mem_of_getElem? (i := 38) rfl)) (by decide) (by decide)) q144a q144c (g := (mkF m 280 #[.val (.int x0), .val (.int x1), .val (.int x2), .val (.int (0 : Int32)), .val (.int (2 : Int32)), .val (.int (1 : Int32)), .val (.int f6), .val (.int f7), .val (.int u0), .val (.int u1), .val (.int v0), .val (.int v1), .val (.ref b6), .val (.ref b100), .val .null, .val (.ref b130), .val (.ref ac), .val (.ref b136), .val (.int (0 : Int32))] [(.ref b136)])) rfl (by rw [hml]; rfl) (Steps.refl _) (argsL := []) (rest := []) (lenOf pd_6 rfl) rfl (by show 2 * 0 + _ ≤ _; exact Nat.le_of_eq rfl) (hb hby at_280) (fun _ _ => ⟨rfl, rfl, (by decide : 9 + 0 ≤ _), (by decide : 63 + 0 ≤ _)⟩)
                    dsimp only [Pt.U, Pt.locs, Pt.cells, Pt.slots] at X144 l144 y144 z144 st144 hQ144
                    subst l144 y144 z144
                    obtain ⟨rfl, N144q, eh144⟩ := hQ144
                    have N144 := Fr.app N137 N144q
                    refine Ends.pre (T' := T144.setTop (mkF m 283 #[.val (.int x0), .val (.int x1), .val (.int x2), .val (.int (0 : Int32)), .val (.int (2 : Int32)), .val (.int (1 : Int32)), .val (.int f6), .val (.int f7), .val (.int u0), .val (.int u1), .val (.int v0), .val (.int v1), .val (.ref b6), .val (.ref b100), .val .null, .val (.ref b130), .val (.ref ac), .val (.ref b136), .val (.int (0 : Int32))] [(.int (0 : Int32))])) (fun t k => st144.trans k) ?_
                    refine Ends.pre (fun t k => XS.iload X144.here hx rfl (hb hby at_283) rfl k) ?_
                    refine Ends.pre (T' := T144.setTop (mkF m 288 #[.val (.int x0), .val (.int x1), .val (.int x2), .val (.int (0 : Int32)), .val (.int (2 : Int32)), .val (.int (1 : Int32)), .val (.int f6), .val (.int f7), .val (.int u0), .val (.int u1), .val (.int v0), .val (.int v1), .val (.ref b6), .val (.ref b100), .val .null, .val (.ref b130), .val (.ref ac), .val (.ref b136), .val (.int (0 : Int32))] [])) (fun t k => XS.icmpNo X144.here hx rfl (hb hby at_285) rfl (by decide) k) ?_
                    refine Ends.pre (fun t k => XS.iconst X144.here hx rfl (hb hby at_288) k) ?_
                    refine Ends.pre (fun t k => XS.goto X144.here hx rfl (pc0 := 289) (pc' := 293) rfl (hb hby at_289) (by decide) (by decide) k) ?_
                    exact Ends.retW (w := (.int (1 : Int32))) X144 hx Bd.notSynchronized Bd.returns rfl (Or.inl ⟨rfl, Or.inr (Or.inl rfl), _, rfl⟩) (hb hby at_293) eh144 hZ137 hEL hS137 (Nat.le_refl _) hh CR137 ⟨rfl, N144⟩ (by decide) (by decide)
                  refine Ends.pre (fun t k => XS.iload X134.here hx rfl (hb hby at_205) rfl k) ?_
                  by_cases hc207_145 : f7 = 0
                  · refine Ends.pre (T' := T134.setTop (mkF m 216 #[.val (.int x0), .val (.int x1), .val (.int x2), .val (.int (0 : Int32)), .val (.int (2 : Int32)), .val (.int (1 : Int32)), .val (.int f6), .val (.int f7), .val (.int u0), .val (.int u1), .val (.int v0), .val (.int v1), .val (.ref b6), .val (.ref b100), .val .null, .val (.ref b130), .unset, .unset, .unset] [])) (fun t k => XS.ifYes X134.here hx rfl (pc0 := 207) (pc' := 216) rfl (hb hby at_207) rfl (Jvm.Free.XT.i0_eq_t hc207_145) (by decide) (by decide) k) ?_
                    have F146 : Sta Z T134.heap "com/example/static_permission_checker/staticpermissionchecker/core/FlowConstraint$Access" "READ" "Lcom/example/static_permission_checker/staticpermissionchecker/core/FlowConstraint$Access;" (.ref wREAD) := (Sta_keep0 S_READ K134)
                    obtain ⟨T147, X147, e147, st147⟩ := getS2 X134 hx hZ hown (host := "") (Or.inl (hw _ (List.mem_of_getElem? (i := 33) rfl))) Via.refl rfl F146 (g := (mkF m 216 #[.val (.int x0), .val (.int x1), .val (.int x2), .val (.int (0 : Int32)), .val (.int (2 : Int32)), .val (.int (1 : Int32)), .val (.int f6), .val (.int f7), .val (.int u0), .val (.int u1), .val (.int v0), .val (.int v1), .val (.ref b6), .val (.ref b100), .val .null, .val (.ref b130), .unset, .unset, .unset] [])) rfl (hb hby at_216)
                    refine Ends.pre (T' := T147.setTop (mkF m 219 #[.val (.int x0), .val (.int x1), .val (.int x2), .val (.int (0 : Int32)), .val (.int (2 : Int32)), .val (.int (1 : Int32)), .val (.int f6), .val (.int f7), .val (.int u0), .val (.int u1), .val (.int v0), .val (.int v1), .val (.ref b6), .val (.ref b100), .val .null, .val (.ref b130), .unset, .unset, .unset] [(.ref wREAD)])) (fun t k => st147 _ k) ?_
                    exact J219_135 T147 X147 e147 wREAD
                  · refine Ends.pre (T' := T134.setTop (mkF m 210 #[.val (.int x0), .val (.int x1), .val (.int x2), .val (.int (0 : Int32)), .val (.int (2 : Int32)), .val (.int (1 : Int32)), .val (.int f6), .val (.int f7), .val (.int u0), .val (.int u1), .val (.int v0), .val (.int v1), .val (.ref b6), .val (.ref b100), .val .null, .val (.ref b130), .unset, .unset, .unset] [])) (fun t k => XS.ifNo X134.here hx rfl (hb hby at_207) rfl (Jvm.Free.XT.i0_eq_f hc207_145) k) ?_
                    have F148 : Sta Z T134.heap "com/example/static_permission_checker/staticpermissionchecker/core/FlowConstraint$Access" "WRITE" "Lcom/example/static_permission_checker/staticpermissionchecker/core/FlowConstraint$Access;" (.ref wWRITE) := (Sta_keep0 S_WRITE K134)
                    obtain ⟨T149, X149, e149, st149⟩ := getS2 X134 hx hZ hown (host := "") (Or.inl (hw _ (List.mem_of_getElem? (i := 75) rfl))) Via.refl rfl F148 (g := (mkF m 210 #[.val (.int x0), .val (.int x1), .val (.int x2), .val (.int (0 : Int32)), .val (.int (2 : Int32)), .val (.int (1 : Int32)), .val (.int f6), .val (.int f7), .val (.int u0), .val (.int u1), .val (.int v0), .val (.int v1), .val (.ref b6), .val (.ref b100), .val .null, .val (.ref b130), .unset, .unset, .unset] [])) rfl (hb hby at_210)
                    refine Ends.pre (T' := T149.setTop (mkF m 213 #[.val (.int x0), .val (.int x1), .val (.int x2), .val (.int (0 : Int32)), .val (.int (2 : Int32)), .val (.int (1 : Int32)), .val (.int f6), .val (.int f7), .val (.int u0), .val (.int u1), .val (.int v0), .val (.int v1), .val (.ref b6), .val (.ref b100), .val .null, .val (.ref b130), .unset, .unset, .unset] [(.ref wWRITE)])) (fun t k => st149 _ k) ?_
                    refine Ends.pre (fun t k => XS.goto X149.here hx rfl (pc0 := 213) (pc' := 219) rfl (hb hby at_213) (by decide) (by decide) k) ?_
                    exact J219_135 T149 X149 e149 wWRITE
            · refine Ends.pre (fun t k => XS.iloadN X0.here hx rfl (hb hby at_119) rfl k) ?_
              obtain ⟨T150, h150, k150, X150, e150, E150, A150, st150⟩ := newP X0 hx hZ (hw _ (List.mem_of_getElem? (i := 0) rfl)) e0 (g := (mkF m 120 #[.val (.int x0), .val (.int x1), .val (.int x2), .val (.int (1 : Int32)), .val (.int gl), .val (.int f5), .val (.int f6), .val (.int f7), .val (.int u0), .val (.int u1), .val (.int v0), .val (.int v1), .unset, .unset, .unset, .unset, .unset, .unset, .unset] [(.int (1 : Int32))])) rfl (hb hby at_120) rfl (by decide) (cap := 1) (by decide) (by decide) (by decide) (by decide)
              obtain ⟨b150, g150⟩ : ∃ z, z = h0.size := ⟨_, rfl⟩
              rw [← g150] at A150 st150
              have ge_b150 : n0 ≤ b150 := Nat.le_trans Z0 (Nat.le_of_eq g150.symm)
              have sz_b150 : h0.size ≤ b150 := Nat.le_trans (Keep.refl h0 []).1 (Nat.le_of_eq g150.symm)
              have CR150 := CHr.trans CR0 (CHr.ext E150 CH0)
              have K150 : Keep h0 h150 [] := (Keep.refl h0 []).ext E150
              have V150 : Arv Z h150 b150 k150 .char (1 : Int32) [(.int (0 : Int32))] (.int (0 : Int32)) := (Arv.new A150 (by decide)).pad (pad_rep [] (.int (0 : Int32)) 1)
              refine Ends.pre (T' := T150.setTop (mkF m 122 #[.val (.int x0), .val (.int x1), .val (.int x2), .val (.int (1 : Int32)), .val (.int gl), .val (.int f5), .val (.int f6), .val (.int f7), .val (.int u0), .val (.int u1), .val (.int v0), .val (.int v1), .unset, .unset, .unset, .unset, .unset, .unset, .unset] [(.ref b150)])) (fun t k => st150 _ k) ?_
              refine Ends.pre (fun t k => XS.astore (g := (mkF m 122 #[.val (.int x0), .val (.int x1), .val (.int x2), .val (.int (1 : Int32)), .val (.int gl), .val (.int f5), .val (.int f6), .val (.int f7), .val (.int u0), .val (.int u1), .val (.int v0), .val (.int v1), .unset, .unset, .unset, .unset, .unset, .unset, .unset] [(.ref b150)])) X150.here hx rfl (hb hby at_122) rfl rfl (l' := #[.val (.int x0), .val (.int x1), .val (.int x2), .val (.int (1 : Int32)), .val (.int gl), .val (.int f5), .val (.int f6), .val (.int f7), .val (.int u0), .val (.int u1), .val (.int v0), .val (.int v1), .val (.ref b150), .unset, .unset, .unset, .unset, .unset, .unset]) rfl k) ?_
              refine Ends.pre (fun t k => XS.iloadN X150.here hx rfl (hb hby at_124) rfl k) ?_
              refine Ends.pre (T' := T150.setTop (mkF m 128 #[.val (.int x0), .val (.int x1), .val (.int x2), .val (.int (1 : Int32)), .val (.int gl), .val (.int f5), .val (.int f6), .val (.int f7), .val (.int u0), .val (.int u1), .val (.int v0), .val (.int v1), .val (.ref b150), .unset, .unset, .unset, .unset, .unset, .unset] [])) (fun t k => XS.ifNo X150.here hx rfl (hb hby at_125) rfl (by decide) k) ?_
              refine Ends.pre (fun t k => XS.aload X150.here hx rfl (hb hby at_128) rfl rfl k) ?_
              refine Ends.pre (fun t k => XS.iconst X150.here hx rfl (hb hby at_130) k) ?_
              refine Ends.pre (fun t k => XS.iload X150.here hx rfl (hb hby at_131) rfl k) ?_
              obtain ⟨cl151, Ar151, q151, S151, N151', H151, G151⟩ := id V150
              have hin151 : ¬ ((0 : Int32) < 0 ∨ cl151.slots.size ≤ ((0 : Int32)).toNatClampNeg) := inb_of S151 ⟨by decide, by decide⟩
              obtain ⟨T151, h151, X151, e151, W151, st151⟩ := stC X150 hx hZ e150 Ar151 (j := (0 : Int32)) hin151 (g := (mkF m 133 #[.val (.int x0), .val (.int x1), .val (.int x2), .val (.int (1 : Int32)), .val (.int gl), .val (.int f5), .val (.int f6), .val (.int f7), .val (.int u0), .val (.int u1), .val (.int v0), .val (.int v1), .val (.ref b150), .unset, .unset, .unset, .unset, .unset, .unset] [(.int u0), (.int (0 : Int32)), (.ref b150)])) rfl rfl (hb hby at_133)
              have CR151 := CHr.trans CR150 (CHr.wr W151 (Safe.arv hZo.alike V150 (by decide)) CR150.1)
              have V151 : Arv Z h151 b150 k150 .char (1 : Int32) [(.int u0)] (.int (0 : Int32)) := (by have q := Arv.set Ar151 q151 S151 N151' H151 G151 (fits_nar_char _) W151 0 rfl (Nat.le_of_ble_eq_true rfl); rw [own_char cu0] at q; exact q)
              have N151 := Fr.snoc X151 N0 ge_b150
              refine Ends.pre (T' := T151.setTop (mkF m 134 #[.val (.int x0), .val (.int x1), .val (.int x2), .val (.int (1 : Int32)), .val (.int gl), .val (.int f5), .val (.int f6), .val (.int f7), .val (.int u0), .val (.int u1), .val (.int v0), .val (.int v1), .val (.ref b150), .unset, .unset, .unset, .unset, .unset, .unset] [])) (fun t k => st151 _ k) ?_
              have K151 : Keep h0 h151 [] := K150.wr W151 (Or.inr sz_b150)
              refine Ends.pre (fun t k => XS.iloadN X151.here hx rfl (hb hby at_134) rfl k) ?_
              refine Ends.pre (fun t k => XS.iconst X151.here hx rfl (hb hby at_135) k) ?_
              refine Ends.pre (T' := T151.setTop (mkF m 145 #[.val (.int x0), .val (.int x1), .val (.int x2), .val (.int (1 : Int32)), .val (.int gl), .val (.int f5), .val (.int f6), .val (.int f7), .val (.int u0), .val (.int u1), .val (.int v0), .val (.int v1), .val (.ref b150), .unset, .unset, .unset, .unset, .unset, .unset] [])) (fun t k => XS.icmpYes X151.here hx rfl (pc0 := 136) (pc' := 145) rfl (hb hby at_136) rfl (by decide) (by decide) (by decide) k) ?_
              rcases (hv_gl ▸ own_m33 _ : gl = 0 ∨ gl = 1 ∨ gl = 2) with rfl | rfl | rfl
              · refine Ends.pre (fun t k => XS.iload X151.here hx rfl (hb hby at_145) rfl k) ?_
                obtain ⟨T152, h152, k152, X152, e152, E152, A152, st152⟩ := newP X151 hx hZ (hw _ (List.mem_of_getElem? (i := 0) rfl)) e151 (g := (mkF m 147 #[.val (.int x0), .val (.int x1), .val (.int x2), .val (.int (1 : Int32)), .val (.int (0 : Int32)), .val (.int f5), .val (.int f6), .val (.int f7), .val (.int u0), .val (.int u1), .val (.int v0), .val (.int v1), .val (.ref b150), .unset, .unset, .unset, .unset, .unset, .unset] [(.int (0 : Int32))])) rfl (hb hby at_147) rfl (by decide) (cap := 0) (by decide) (by decide) (by decide) (by decide)
                obtain ⟨b152, g152⟩ : ∃ z, z = h151.size := ⟨_, rfl⟩
                rw [← g152] at A152 st152
                have ge_b152 : n0 ≤ b152 := Nat.le_trans (Nat.le_trans (Nat.le_trans Z0 E150.1) (Keep.of_wr W151).1) (Nat.le_of_eq g152.symm)
                have sz_b152 : h0.size ≤ b152 := Nat.le_trans K151.1 (Nat.le_of_eq g152.symm)
                have CR152 := CHr.trans CR151 (CHr.ext E152 CR151.1)
                have K152 : Keep h0 h152 [] := K151.ext E152
                have V152 : Arv Z h152 b152 k152 .char (0 : Int32) [] (.int (0 : Int32)) := (Arv.new A152 (by decide))
                refine Ends.pre (T' := T152.setTop (mkF m 149 #[.val (.int x0), .val (.int x1), .val (.int x2), .val (.int (1 : Int32)), .val (.int (0 : Int32)), .val (.int f5), .val (.int f6), .val (.int f7), .val (.int u0), .val (.int u1), .val (.int v0), .val (.int v1), .val (.ref b150), .unset, .unset, .unset, .unset, .unset, .unset] [(.ref b152)])) (fun t k => st152 _ k) ?_
                refine Ends.pre (fun t k => XS.astore (g := (mkF m 149 #[.val (.int x0), .val (.int x1), .val (.int x2), .val (.int (1 : Int32)), .val (.int (0 : Int32)), .val (.int f5), .val (.int f6), .val (.int f7), .val (.int u0), .val (.int u1), .val (.int v0), .val (.int v1), .val (.ref b150), .unset, .unset, .unset, .unset, .unset, .unset] [(.ref b152)])) X152.here hx rfl (hb hby at_149) rfl rfl (l' := #[.val (.int x0), .val (.int x1), .val (.int x2), .val (.int (1 : Int32)), .val (.int (0 : Int32)), .val (.int f5), .val (.int f6), .val (.int f7), .val (.int u0), .val (.int u1), .val (.int v0), .val (.int v1), .val (.ref b150), .val (.ref b152), .unset, .unset, .unset, .unset, .unset]) rfl k) ?_
                refine Ends.pre (fun t k => XS.iload X152.here hx rfl (hb hby at_151) rfl k) ?_
                refine Ends.pre (T' := T152.setTop (mkF m 162 #[.val (.int x0), .val (.int x1), .val (.int x2), .val (.int (1 : Int32)), .val (.int (0 : Int32)), .val (.int f5), .val (.int f6), .val (.int f7), .val (.int u0), .val (.int u1), .val (.int v0), .val (.int v1), .val (.ref b150), .val (.ref b152), .unset, .unset, .unset, .unset, .unset] [])) (fun t k => XS.ifYes X152.here hx rfl (pc0 := 153) (pc' := 162) rfl (hb hby at_153) rfl (by decide) (by decide) (by decide) k) ?_
                refine Ends.pre (fun t k => XS.iload X152.here hx rfl (hb hby at_162) rfl k) ?_
                refine Ends.pre (fun t k => XS.iconst X152.here hx rfl (hb hby at_164) k) ?_
                refine Ends.pre (T' := T152.setTop (mkF m 174 #[.val (.int x0), .val (.int x1), .val (.int x2), .val (.int (1 : Int32)), .val (.int (0 : Int32)), .val (.int f5), .val (.int f6), .val (.int f7), .val (.int u0), .val (.int u1), .val (.int v0), .val (.int v1), .val (.ref b150), .val (.ref b152), .unset, .unset, .unset, .unset, .unset] [])) (fun t k => XS.icmpYes X152.here hx rfl (pc0 := 165) (pc' := 174) rfl (hb hby at_165) rfl (by decide) (by decide) (by decide) k) ?_
                rcases qf5 with rfl | rfl
                · refine Ends.pre (fun t k => XS.iload X152.here hx rfl (hb hby at_174) rfl k) ?_
                  refine Ends.pre (T' := T152.setTop (mkF m 183 #[.val (.int x0), .val (.int x1), .val (.int x2), .val (.int (1 : Int32)), .val (.int (0 : Int32)), .val (.int (0 : Int32)), .val (.int f6), .val (.int f7), .val (.int u0), .val (.int u1), .val (.int v0), .val (.int v1), .val (.ref b150), .val (.ref b152), .unset, .unset, .unset, .unset, .unset] [])) (fun t k => XS.ifYes X152.here hx rfl (pc0 := 176) (pc' := 183) rfl (hb hby at_176) rfl (by decide) (by decide) (by decide) k) ?_
                  obtain ⟨T153, h153, X153, e153, E153, A153, D153, -, st153⟩ := newO X152 hx hZ hown (hw _ (List.mem_of_getElem? (i := 1) rfl)) (hw _ (List.mem_of_getElem? (i := 2) rfl)) (hw _ (List.mem_of_getElem? (i := 3) rfl)) e152 (g := (mkF m 183 #[.val (.int x0), .val (.int x1), .val (.int x2), .val (.int (1 : Int32)), .val (.int (0 : Int32)), .val (.int (0 : Int32)), .val (.int f6), .val (.int f7), .val (.int u0), .val (.int u1), .val (.int v0), .val (.int v1), .val (.ref b150), .val (.ref b152), .unset, .unset, .unset, .unset, .unset] [])) rfl (hb hby at_183) (by decide) (by decide)
                  obtain ⟨b153, g153⟩ : ∃ z, z = h152.size := ⟨_, rfl⟩
                  rw [← g153] at A153 D153 st153
                  have ge_b153 : n0 ≤ b153 := Nat.le_trans (Nat.le_trans (Nat.le_trans (Nat.le_trans Z0 E150.1) (Keep.of_wr W151).1) E152.1) (Nat.le_of_eq g153.symm)
                  have sz_b153 : h0.size ≤ b153 := Nat.le_trans K152.1 (Nat.le_of_eq g153.symm)
                  have CR153 := CHr.trans CR152 (CHr.ext E153 CR152.1)
                  have K153 : Keep h0 h153 [] := K152.ext E153
                  have Fd153_coder : Fld Z h153 b153 "java/lang/String" "coder" "B" (.int (0 : Int32)) := D153 (Or.inr (hw _ (List.mem_of_getElem? (i := 27) rfl))) (ty := .byte) (by decide)
                  have Fd153_value : Fld Z h153 b153 "java/lang/String" "value" "[B" .null := D153 (Or.inr (hw _ (List.mem_of_getElem? (i := 29) rfl))) (ty := (.array .byte)) (by decide)
                  refine Ends.pre (T' := T153.setTop (mkF m 186 #[.val (.int x0), .val (.int x1), .val (.int x2), .val (.int (1 : Int32)), .val (.int (0 : Int32)), .val (.int (0 : Int32)), .val (.int f6), .val (.int f7), .val (.int u0), .val (.int u1), .val (.int v0), .val (.int v1), .val (.ref b150), .val (.ref b152), .unset, .unset, .unset, .unset, .unset] [(.ref b153)])) (fun t k => st153 _ k) ?_
                  refine Ends.pre (fun t k => XS.dup X153.here hx rfl (hb hby at_186) rfl rfl k) ?_
                  refine Ends.pre (fun t k => XS.aload X153.here hx rfl (hb hby at_187) rfl rfl k) ?_
                  have hp154 : ∀ c ∈ ([u0] : List Int32), ¬ c < 0 ∧ ¬ (255 : Int32) < c := (own_alS cu0 own_al0)
                  have hbd154 := own_up _ hp154
                  have F155 : Arv Z h153 b150 k150 .char (1 : Int32) [(.int u0)] (.int (0 : Int32)) := (Arv.ext (Arv.ext V151 E152) E153)
                  have F156 : Sta Z h153 "java/lang/String" "COMPACT_STRINGS" "Z" (.int cz) := (Sta_keep0 SCS K153)
                  obtain ⟨_, _, ⟨T157, L157, k157, n157⟩, -, X157, ⟨Lc157, hQ157, l157, y157, z157⟩, st157⟩ := X153.specialBack hx (y := (⟨"java/lang/String", "<init>", "([C)V"⟩ : MethodName)) rfl hown (mvT hZ (hw _ (List.mem_of_getElem? (i := 4) rfl))) (mvT hZ (hw _ (List.mem_of_getElem? (i := 5) rfl))) (mvT hZ (hw _ (List.mem_of_getElem? (i := 6) rfl))) (by decide) (StrChars.Road.backV (W := 1) hZ (own_hws hw) (kI := 4) (hw _ (List.mem_of_getElem? (i := 2) rfl)) (cs := ([u0] : List Int32)) (bs := (([u0] : List Int32).map (fun c => c.toInt8.toInt32))) (n := 1) ge_b153 (Nat.le_trans (Nat.le_trans (Nat.le_trans (Nat.le_trans Z0 E150.1) (Keep.of_wr W151).1) E152.1) E153.1) A153 Fd153_value Fd153_coder F155 F156 hcz rfl rfl (by decide) (by decide) hp154 rfl (by decide) (by decide)) (g := (mkF m 189 #[.val (.int x0), .val (.int x1), .val (.int x2), .val (.int (1 : Int32)), .val (.int (0 : Int32)), .val (.int (0 : Int32)), .val (.int f6), .val (.int f7), .val (.int u0), .val (.int u1), .val (.int v0), .val (.int v1), .val (.ref b150), .val (.ref b152), .unset, .unset, .unset, .unset, .unset] [(.ref b150), (.ref b153), (.ref b153)])) rfl (by rw [hml]; rfl) (Steps.refl _) (a := b153) (argsL := [(.ref b150)]) (rest := [(.ref b153)]) (lenOf pd_4 rfl) rfl (by show 2 * 0 + _ ≤ _; exact Nat.le_of_eq rfl) (hb hby at_189) (fun _ _ => ⟨rfl, e153, (by decide : 3 + 1 ≤ _), (by decide : 5 + 1 ≤ _)⟩)
                  dsimp only [Pt.U, Pt.locs, Pt.cells, Pt.slots] at X157 l157 y157 z157 st157 hQ157
                  subst l157 y157 z157
                  obtain ⟨rfl, N157q, Kc157, Es157, Cs157, t157, kb157, gt157, ft157, nt157, Vs157, As157⟩ := hQ157
                  have N157 := Fr.app N151 N157q
                  have K157 : Keep h0 T157.heap [] := K153.trans Kc157 (allS (Or.inr sz_b153) all0)
                  have CR157 := CHr.trans CR153 (CHr.keep Kc157 (sfS (Safe.ext E153 CR152.1 (Safe.new (Nat.le_of_eq g153.symm))) sf0) CR153.1)
                  have hcd157 : StrChars.Road.CodA ([u0] : List Int32) 0 (1 : Int32) ((([u0] : List Int32).map (fun c => c.toInt8.toInt32)).map Value.int) := StrChars.Road.codOf (n := 1) rfl (fun c hc => (hp154 c hc).2)
                  refine Ends.pre (T' := T157.setTop (mkF m 192 #[.val (.int x0), .val (.int x1), .val (.int x2), .val (.int (1 : Int32)), .val (.int (0 : Int32)), .val (.int (0 : Int32)), .val (.int f6), .val (.int f7), .val (.int u0), .val (.int u1), .val (.int v0), .val (.int v1), .val (.ref b150), .val (.ref b152), .unset, .unset, .unset, .unset, .unset] [(.ref b153)])) (fun t k => st157.trans k) ?_
                  refine Ends.pre (fun t k => XS.astore (g := (mkF m 192 #[.val (.int x0), .val (.int x1), .val (.int x2), .val (.int (1 : Int32)), .val (.int (0 : Int32)), .val (.int (0 : Int32)), .val (.int f6), .val (.int f7), .val (.int u0), .val (.int u1), .val (.int v0), .val (.int v1), .val (.ref b150), .val (.ref b152), .unset, .unset, .unset, .unset, .unset] [(.ref b153)])) X157.here hx rfl (hb hby at_192) rfl rfl (l' := #[.val (.int x0), .val (.int x1), .val (.int x2), .val (.int (1 : Int32)), .val (.int (0 : Int32)), .val (.int (0 : Int32)), .val (.int f6), .val (.int f7), .val (.int u0), .val (.int u1), .val (.int v0), .val (.int v1), .val (.ref b150), .val (.ref b152), .val (.ref b153), .unset, .unset, .unset, .unset]) rfl k) ?_
                  obtain ⟨T158, h158, X158, e158, E158, A158, D158, -, st158⟩ := newO X157 hx hZ hown (hw _ (List.mem_of_getElem? (i := 1) rfl)) (hw _ (List.mem_of_getElem? (i := 2) rfl)) (hw _ (List.mem_of_getElem? (i := 3) rfl)) rfl (g := (mkF m 194 #[.val (.int x0), .val (.int x1), .val (.int x2), .val (.int (1 : Int32)), .val (.int (0 : Int32)), .val (.int (0 : Int32)), .val (.int f6), .val (.int f7), .val (.int u0), .val (.int u1), .val (.int v0), .val (.int v1), .val (.ref b150), .val (.ref b152), .val (.ref b153), .unset, .unset, .unset, .unset] [])) rfl (hb hby at_194) (by decide) (by decide)
                  obtain ⟨b158, g158⟩ : ∃ z, z = T157.heap.size := ⟨_, rfl⟩
                  rw [← g158] at A158 D158 st158
                  have ge_b158 : n0 ≤ b158 := Nat.le_trans (Nat.le_trans (Nat.le_trans (Nat.le_trans (Nat.le_trans (Nat.le_trans Z0 E150.1) (Keep.of_wr W151).1) E152.1) E153.1) Kc157.1) (Nat.le_of_eq g158.symm)
                  have sz_b158 : h0.size ≤ b158 := Nat.le_trans K157.1 (Nat.le_of_eq g158.symm)
                  have CR158 := CHr.trans CR157 (CHr.ext E158 CR157.1)
                  have K158 : Keep h0 h158 [] := K157.ext E158
                  have Fd158_coder : Fld Z h158 b158 "java/lang/String" "coder" "B" (.int (0 : Int32)) := D158 (Or.inr (hw _ (List.mem_of_getElem? (i := 27) rfl))) (ty := .byte) (by decide)
                  have Fd158_value : Fld Z h158 b158 "java/lang/String" "value" "[B" .null := D158 (Or.inr (hw _ (List.mem_of_getElem? (i := 29) rfl))) (ty := (.array .byte)) (by decide)
                  refine Ends.pre (T' := T158.setTop (mkF m 197 #[.val (.int x0), .val (.int x1), .val (.int x2), .val (.int (1 : Int32)), .val (.int (0 : Int32)), .val (.int (0 : Int32)), .val (.int f6), .val (.int f7), .val (.int u0), .val (.int u1), .val (.int v0), .val (.int v1), .val (.ref b150), .val (.ref b152), .val (.ref b153), .unset, .unset, .unset, .unset] [(.ref b158)])) (fun t k => st158 _ k) ?_
                  refine Ends.pre (fun t k => XS.dup X158.here hx rfl (hb hby at_197) rfl rfl k) ?_
                  refine Ends.pre (fun t k => XS.aload X158.here hx rfl (hb hby at_198) rfl rfl k) ?_
                  have F159 : Arv Z h158 b152 k152 .char (0 : Int32) [] (.int (0 : Int32)) := (Arv.ext ((Arv.ext V152 E153).keep Kc157 (ninS (Nat.ne_of_lt (Nat.lt_of_lt_of_le V152.lt (Nat.le_of_eq g153.symm))) nin0)) E158)
                  obtain ⟨_, _, ⟨T160, L160, k160, n160⟩, -, Xa160, hSa160, ga160, ⟨Lc160, hQ160, l160, y160, z160, CRc160⟩, st160⟩ := X158.specialBackS hx (y := (⟨"java/lang/String", "<init>", "([C)V"⟩ : MethodName)) rfl hown (mvT hZ (hw _ (List.mem_of_getElem? (i := 4) rfl))) (mvT hZ (hw _ (List.mem_of_getElem? (i := 5) rfl))) (mvT hZ (hw _ (List.mem_of_getElem? (i := 6) rfl))) (by decide) (backOfSH (W := 1) (rm_e1 l Z a0 hw [] b158 b152 k152 h158 n0 (Nat.le_trans (Nat.le_trans (Nat.le_trans (Nat.le_trans (Nat.le_trans (Nat.le_trans Z0 E150.1) (Keep.of_wr W151).1) E152.1) E153.1) Kc157.1) E158.1) A158 Fd158_value Fd158_coder ge_b158 F159) hZ (hw _ (List.mem_of_getElem? (i := 6) rfl)) (hw _ (List.mem_of_getElem? (i := 3) rfl)) (by decide) (by decide) hEL CR158.1) (g := (mkF m 200 #[.val (.int x0), .val (.int x1), .val (.int x2), .val (.int (1 : Int32)), .val (.int (0 : Int32)), .val (.int (0 : Int32)), .val (.int f6), .val (.int f7), .val (.int u0), .val (.int u1), .val (.int v0), .val (.int v1), .val (.ref b150), .val (.ref b152), .val (.ref b153), .unset, .unset, .unset, .unset] [(.ref b152), (.ref b158), (.ref b158)])) rfl (by rw [hml]; rfl) (Steps.refl _) (a := b158) (argsL := [(.ref b152)]) (rest := [(.ref b158)]) (lenOf pd_4 rfl) rfl (by show 2 * 0 + _ ≤ _; exact Nat.le_of_eq rfl) (hb hby at_200) (fun _ _ => ⟨rfl, e158, (by decide : 5 + 4 ≤ _), (by decide : 10 + 8 ≤ _)⟩)
                  dsimp only [Pt.U, Pt.locs, Pt.cells, Pt.slots] at Xa160 hSa160 ga160 l160 y160 z160 st160 hQ160 CRc160
                  subst l160 y160 z160
                  obtain ⟨X160, hS160, hZ160, hown160⟩ := rebS hS0 (n1 := T158.heap.size) (by rw [e158]; exact (Nat.le_trans (Nat.le_trans (Nat.le_trans (Nat.le_trans (Nat.le_trans (Nat.le_trans hk0 E150.1) (Keep.of_wr W151).1) E152.1) E153.1) Kc157.1) E158.1)) Xa160 hSa160 ga160 hZ hown
                  obtain ⟨rfl, N160q, Kc160, Es160, Cs160, t160, kb160, Vs160, As160⟩ := hQ160
                  have N160 := Fr.app N157 N160q
                  have K160 : Keep h0 T160.heap [] := K158.trans Kc160 (allS (Or.inr sz_b158) all0)
                  have CR160 := CHr.trans CR158 CRc160
                  have hcd160 : StrChars.Road.CodA ([] : List Int32) 0 (0 : Int32) [] := own_lit rfl rfl own_al0
                  have hbd160 : ∀ c ∈ ([] : List Int32), ¬ c < 0 ∧ ¬ (65535 : Int32) < c := own_al0
                  refine Ends.pre (T' := T160.setTop (mkF m 203 #[.val (.int x0), .val (.int x1), .val (.int x2), .val (.int (1 : Int32)), .val (.int (0 : Int32)), .val (.int (0 : Int32)), .val (.int f6), .val (.int f7), .val (.int u0), .val (.int u1), .val (.int v0), .val (.int v1), .val (.ref b150), .val (.ref b152), .val (.ref b153), .unset, .unset, .unset, .unset] [(.ref b158)])) (fun t k => st160.trans k) ?_
                  refine Ends.pre (fun t k => XS.astore (g := (mkF m 203 #[.val (.int x0), .val (.int x1), .val (.int x2), .val (.int (1 : Int32)), .val (.int (0 : Int32)), .val (.int (0 : Int32)), .val (.int f6), .val (.int f7), .val (.int u0), .val (.int u1), .val (.int v0), .val (.int v1), .val (.ref b150), .val (.ref b152), .val (.ref b153), .unset, .unset, .unset, .unset] [(.ref b158)])) X160.here hx rfl (hb hby at_203) rfl rfl (l' := #[.val (.int x0), .val (.int x1), .val (.int x2), .val (.int (1 : Int32)), .val (.int (0 : Int32)), .val (.int (0 : Int32)), .val (.int f6), .val (.int f7), .val (.int u0), .val (.int u1), .val (.int v0), .val (.int v1), .val (.ref b150), .val (.ref b152), .val (.ref b153), .val (.ref b158), .unset, .unset, .unset]) rfl k) ?_
                  have J219_161 : ∀ (TJ161 : State) (XJ161 : SS X160 TJ161) (eJ161 : TJ161.heap = T160.heap) (ac : Addr), Jvm.RoadKit.Ends p e below (EndW s room_1 Z consts_1 (Q_rm0 Z x0 x1 x2 wREAD wWRITE cz fm h0 n0)) (TJ161.setTop (mkF m 219 #[.val (.int x0), .val (.int x1), .val (.int x2), .val (.int (1 : Int32)), .val (.int (0 : Int32)), .val (.int (0 : Int32)), .val (.int f6), .val (.int f7), .val (.int u0), .val (.int u1), .val (.int v0), .val (.int v1), .val (.ref b150), .val (.ref b152), .val (.ref b153), .val (.ref b158), .unset, .unset, .unset] [(.ref ac)])) := by
                    intro TJ161 XJ161 eJ161 ac
                    unfold SS at XJ161
                    refine Ends.pre (fun t k => XS.astore (g := (mkF m 219 #[.val (.int x0), .val (.int x1), .val (.int x2), .val (.int (1 : Int32)), .val (.int (0 : Int32)), .val (.int (0 : Int32)), .val (.int f6), .val (.int f7), .val (.int u0), .val (.int u1), .val (.int v0), .val (.int v1), .val (.ref b150), .val (.ref b152), .val (.ref b153), .val (.ref b158), .unset, .unset, .unset] [(.ref ac)])) XJ161.here hx rfl (hb hby at_219) rfl rfl (l' := #[.val (.int x0), .val (.int x1), .val (.int x2), .val (.int (1 : Int32)), .val (.int (0 : Int32)), .val (.int (0 : Int32)), .val (.int f6), .val (.int f7), .val (.int u0), .val (.int u1), .val (.int v0), .val (.int v1), .val (.ref b150), .val (.ref b152), .val (.ref b153), .val (.ref b158), .val (.ref ac), .unset, .unset]) rfl k) ?_
                    obtain ⟨T162, h162, X162, e162, E162, A162, D162, -, st162⟩ := newO XJ161 hx hZ160 hown160 (hw _ (List.mem_of_getElem? (i := 36) rfl)) (hw _ (List.mem_of_getElem? (i := 37) rfl)) (hw _ (List.mem_of_getElem? (i := 38) rfl)) eJ161 (g := (mkF m 221 #[.val (.int x0), .val (.int x1), .val (.int x2), .val (.int (1 : Int32)), .val (.int (0 : Int32)), .val (.int (0 : Int32)), .val (.int f6), .val (.int f7), .val (.int u0), .val (.int u1), .val (.int v0), .val (.int v1), .val (.ref b150), .val (.ref b152), .val (.ref b153), .val (.ref b158), .val (.ref ac), .unset, .unset] [])) rfl (hb hby at_221) (by decide) (by decide)
                    obtain ⟨b162, g162⟩ : ∃ z, z = T160.heap.size := ⟨_, rfl⟩
                    rw [← g162] at A162 D162 st162
                    have ge_b162 : n0 ≤ b162 := Nat.le_trans (Nat.le_trans (Nat.le_trans (Nat.le_trans (Nat.le_trans (Nat.le_trans (Nat.le_trans (Nat.le_trans Z0 E150.1) (Keep.of_wr W151).1) E152.1) E153.1) Kc157.1) E158.1) Kc160.1) (Nat.le_of_eq g162.symm)
                    have sz_b162 : h0.size ≤ b162 := Nat.le_trans K160.1 (Nat.le_of_eq g162.symm)
                    have CR162 := CHr.trans CR160 (CHr.ext E162 CR160.1)
                    have K162 : Keep h0 h162 [] := K160.ext E162
                    have Fd162_holder : Fld Z h162 b162 "com/example/static_permission_checker/staticpermissionchecker/core/FlowConstraint" "holder" "Ljava/lang/String;" .null := D162 (Or.inr (hw _ (List.mem_of_getElem? (i := 55) rfl))) (ty := (.object "java/lang/String")) (by decide)
                    have Fd162_access : Fld Z h162 b162 "com/example/static_permission_checker/staticpermissionchecker/core/FlowConstraint" "access" "Lcom/example/static_permission_checker/staticpermissionchecker/core/FlowConstraint$Access;" .null := D162 (Or.inr (hw _ (List.mem_of_getElem? (i := 57) rfl))) (ty := (.object "com/example/static_permission_checker/staticpermissionchecker/core/FlowConstraint$Access")) (by decide)
                    have Fd162_guard : Fld Z h162 b162 "com/example/static_permission_checker/staticpermissionchecker/core/FlowConstraint" "guard" "Ljava/lang/String;" .null := D162 (Or.inr (hw _ (List.mem_of_getElem? (i := 59) rfl))) (ty := (.object "java/lang/String")) (by decide)
                    refine Ends.pre (T' := T162.setTop (mkF m 224 #[.val (.int x0), .val (.int x1), .val (.int x2), .val (.int (1 : Int32)), .val (.int (0 : Int32)), .val (.int (0 : Int32)), .val (.int f6), .val (.int f7), .val (.int u0), .val (.int u1), .val (.int v0), .val (.int v1), .val (.ref b150), .val (.ref b152), .val (.ref b153), .val (.ref b158), .val (.ref ac), .unset, .unset] [(.ref b162)])) (fun t k => st162 _ k) ?_
                    refine Ends.pre (fun t k => XS.dup X162.here hx rfl (hb hby at_224) rfl rfl k) ?_
                    refine Ends.pre (fun t k => XS.aload X162.here hx rfl (hb hby at_225) rfl rfl k) ?_
                    refine Ends.pre (fun t k => XS.aload X162.here hx rfl (hb hby at_227) rfl rfl k) ?_
                    refine Ends.pre (fun t k => XS.aload X162.here hx rfl (hb hby at_229) rfl rfl k) ?_
                    obtain ⟨_, _, ⟨T163, L163, k163, n163⟩, -, Xa163, hSa163, ga163, ⟨Lc163, hQ163, l163, y163, z163, CRc163⟩, st163⟩ := X162.specialBackS hx (y := (⟨"com/example/static_permission_checker/staticpermissionchecker/core/FlowConstraint", "<init>", "(Ljava/lang/String;Lcom/example/static_permission_checker/staticpermissionchecker/core/FlowConstraint$Access;Ljava/lang/String;)V"⟩ : MethodName)) rfl hown160 (mvT hZ160 (hw _ (List.mem_of_getElem? (i := 39) rfl))) (mvT hZ160 (hw _ (List.mem_of_getElem? (i := 40) rfl))) (mvT hZ160 (hw _ (List.mem_of_getElem? (i := 41) rfl))) (by decide) (backOfSH (W := 1) (rm7r l Z a0 hw [] b162 b153 ac b158 h162 n0 (Nat.le_trans (Nat.le_trans (Nat.le_trans (Nat.le_trans (Nat.le_trans (Nat.le_trans (Nat.le_trans (Nat.le_trans Z0 E150.1) (Keep.of_wr W151).1) E152.1) E153.1) Kc157.1) E158.1) Kc160.1) E162.1) A162 ge_b162 Fd162_holder Fd162_access Fd162_guard) hZ160 (hw _ (List.mem_of_getElem? (i := 41) rfl)) (hw _ (List.mem_of_getElem? (i := 38) rfl)) (by decide) (by decide) hEL CR162.1) (g := (mkF m 231 #[.val (.int x0), .val (.int x1), .val (.int x2), .val (.int (1 : Int32)), .val (.int (0 : Int32)), .val (.int (0 : Int32)), .val (.int f6), .val (.int f7), .val (.int u0), .val (.int u1), .val (.int v0), .val (.int v1), .val (.ref b150), .val (.ref b152), .val (.ref b153), .val (.ref b158), .val (.ref ac), .unset, .unset] [(.ref b158), (.ref ac), (.ref b153), (.ref b162), (.ref b162)])) rfl (by rw [hml]; rfl) (Steps.refl _) (a := b162) (argsL := [(.ref b153), (.ref ac), (.ref b158)]) (rest := [(.ref b162)]) (lenOf pd_5 rfl) rfl (by show 2 * 0 + _ ≤ _; exact Nat.le_of_eq rfl) (hb hby at_231) (fun _ _ => ⟨rfl, e162, (by decide : 10 + 4 ≤ _), (by decide : 21 + 52 ≤ _)⟩)
                    dsimp only [Pt.U, Pt.locs, Pt.cells, Pt.slots] at Xa163 hSa163 ga163 l163 y163 z163 st163 hQ163 CRc163
                    subst l163 y163 z163
                    obtain ⟨X163, hS163, hZ163, hown163⟩ := rebS hS160 (n1 := T162.heap.size) (by rw [e162]; exact (Nat.le_trans (Nat.le_refl _) E162.1)) Xa163 hSa163 ga163 hZ160 hown160
                    obtain ⟨rfl, N163q, Kc163, Ec163, Fh163, Fg163⟩ := hQ163
                    have N163 := Fr.app N160 N163q
                    have K163 : Keep h0 T163.heap [] := K162.trans Kc163 (allS (Or.inr sz_b162) all0)
                    have CR163 := CHr.trans CR162 CRc163
                    refine Ends.pre (T' := T163.setTop (mkF m 234 #[.val (.int x0), .val (.int x1), .val (.int x2), .val (.int (1 : Int32)), .val (.int (0 : Int32)), .val (.int (0 : Int32)), .val (.int f6), .val (.int f7), .val (.int u0), .val (.int u1), .val (.int v0), .val (.int v1), .val (.ref b150), .val (.ref b152), .val (.ref b153), .val (.ref b158), .val (.ref ac), .unset, .unset] [(.ref b162)])) (fun t k => st163.trans k) ?_
                    refine Ends.pre (fun t k => XS.astore (g := (mkF m 234 #[.val (.int x0), .val (.int x1), .val (.int x2), .val (.int (1 : Int32)), .val (.int (0 : Int32)), .val (.int (0 : Int32)), .val (.int f6), .val (.int f7), .val (.int u0), .val (.int u1), .val (.int v0), .val (.int v1), .val (.ref b150), .val (.ref b152), .val (.ref b153), .val (.ref b158), .val (.ref ac), .unset, .unset] [(.ref b162)])) X163.here hx rfl (hb hby at_234) rfl rfl (l' := #[.val (.int x0), .val (.int x1), .val (.int x2), .val (.int (1 : Int32)), .val (.int (0 : Int32)), .val (.int (0 : Int32)), .val (.int f6), .val (.int f7), .val (.int u0), .val (.int u1), .val (.int v0), .val (.int v1), .val (.ref b150), .val (.ref b152), .val (.ref b153), .val (.ref b158), .val (.ref ac), .val (.ref b162), .unset]) rfl k) ?_
                    refine Ends.pre (fun t k => XS.iload X163.here hx rfl (hb hby at_236) rfl k) ?_
                    refine Ends.pre (T' := T163.setTop (mkF m 241 #[.val (.int x0), .val (.int x1), .val (.int x2), .val (.int (1 : Int32)), .val (.int (0 : Int32)), .val (.int (0 : Int32)), .val (.int f6), .val (.int f7), .val (.int u0), .val (.int u1), .val (.int v0), .val (.int v1), .val (.ref b150), .val (.ref b152), .val (.ref b153), .val (.ref b158), .val (.ref ac), .val (.ref b162), .unset] [])) (fun t k => XS.ifNo X163.here hx rfl (hb hby at_238) rfl (by decide) k) ?_
                    refine Ends.pre (fun t k => XS.iloadN X163.here hx rfl (hb hby at_241) rfl k) ?_
                    refine Ends.pre (fun t k => XS.iload X163.here hx rfl (hb hby at_242) rfl k) ?_
                    refine Ends.pre (T' := T163.setTop (mkF m 275 #[.val (.int x0), .val (.int x1), .val (.int x2), .val (.int (1 : Int32)), .val (.int (0 : Int32)), .val (.int (0 : Int32)), .val (.int f6), .val (.int f7), .val (.int u0), .val (.int u1), .val (.int v0), .val (.int v1), .val (.ref b150), .val (.ref b152), .val (.ref b153), .val (.ref b158), .val (.ref ac), .val (.ref b162), .unset] [])) (fun t k => XS.icmpYes X163.here hx rfl (pc0 := 244) (pc' := 275) rfl (hb hby at_244) rfl (by decide) (by decide) (by decide) k) ?_
                    refine Ends.pre (fun t k => XS.iconst X163.here hx rfl (hb hby at_275) k) ?_
                    refine Ends.pre (fun t k => XS.istore (g := (mkF m 276 #[.val (.int x0), .val (.int x1), .val (.int x2), .val (.int (1 : Int32)), .val (.int (0 : Int32)), .val (.int (0 : Int32)), .val (.int f6), .val (.int f7), .val (.int u0), .val (.int u1), .val (.int v0), .val (.int v1), .val (.ref b150), .val (.ref b152), .val (.ref b153), .val (.ref b158), .val (.ref ac), .val (.ref b162), .unset] [(.int (0 : Int32))])) X163.here hx rfl (hb hby at_276) rfl (l' := #[.val (.int x0), .val (.int x1), .val (.int x2), .val (.int (1 : Int32)), .val (.int (0 : Int32)), .val (.int (0 : Int32)), .val (.int f6), .val (.int f7), .val (.int u0), .val (.int u1), .val (.int v0), .val (.int v1), .val (.ref b150), .val (.ref b152), .val (.ref b153), .val (.ref b158), .val (.ref ac), .val (.ref b162), .val (.int (0 : Int32))]) rfl k) ?_
                    refine Ends.pre (fun t k => XS.aload X163.here hx rfl (hb hby at_278) rfl rfl k) ?_
                    have F164 : Exa Z T163.heap b158 "java/lang/String" := ((Es160.ext E162).keep Kc163)
                    have F165 : Fld Z T163.heap b158 "java/lang/String" "value" "[B" (.ref t160) := ((Vs160.ext E162).keep Kc163 (ninS (Nat.ne_of_lt (Nat.lt_of_lt_of_le (Nat.lt_of_lt_of_le A158.lt Kc160.1) (Nat.le_of_eq g162.symm))) nin0))
                    have F166 : Fld Z T163.heap b158 "java/lang/String" "coder" "B" (.int 0) := ((Cs160.ext E162).keep Kc163 (ninS (Nat.ne_of_lt (Nat.lt_of_lt_of_le (Nat.lt_of_lt_of_le A158.lt Kc160.1) (Nat.le_of_eq g162.symm))) nin0))
                    have F167 : Arv Z T163.heap t160 kb160 .byte (0 : Int32) [] (.int 0) := ((Arv.ext As160 E162).keep Kc163 (ninS (Nat.ne_of_lt (Nat.lt_of_lt_of_le As160.lt (Nat.le_of_eq g162.symm))) nin0))
                    have F168 : Exa Z T163.heap b153 "java/lang/String" := ((((Es157.ext E158).keep Kc160).ext E162).keep Kc163)
                    have F169 : Fld Z T163.heap b153 "java/lang/String" "value" "[B" (.ref t157) := ((((Vs157.ext E158).keep Kc160 (ninS (Nat.ne_of_lt (Nat.lt_of_lt_of_le (Nat.lt_of_lt_of_le A153.lt Kc157.1) (Nat.le_of_eq g158.symm))) nin0)).ext E162).keep Kc163 (ninS (Nat.ne_of_lt (Nat.lt_of_lt_of_le (Nat.lt_of_lt_of_le (Nat.lt_of_lt_of_le (Nat.lt_of_lt_of_le A153.lt Kc157.1) E158.1) Kc160.1) (Nat.le_of_eq g162.symm))) nin0))
                    have F170 : Fld Z T163.heap b153 "java/lang/String" "coder" "B" (.int 0) := ((((Cs157.ext E158).keep Kc160 (ninS (Nat.ne_of_lt (Nat.lt_of_lt_of_le (Nat.lt_of_lt_of_le A153.lt Kc157.1) (Nat.le_of_eq g158.symm))) nin0)).ext E162).keep Kc163 (ninS (Nat.ne_of_lt (Nat.lt_of_lt_of_le (Nat.lt_of_lt_of_le (Nat.lt_of_lt_of_le (Nat.lt_of_lt_of_le A153.lt Kc157.1) E158.1) Kc160.1) (Nat.le_of_eq g162.symm))) nin0))
                    have F171 : Arv Z T163.heap t157 kb157 .byte (1 : Int32) ((([u0] : List Int32).map (fun c => c.toInt8.toInt32)).map Value.int) (.int 0) := ((Arv.ext ((Arv.ext As157 E158).keep Kc160 (ninS (Nat.ne_of_lt (Nat.lt_of_lt_of_le As157.lt (Nat.le_of_eq g158.symm))) nin0)) E162).keep Kc163 (ninS (Nat.ne_of_lt (Nat.lt_of_lt_of_le (Nat.lt_of_lt_of_le (Nat.lt_of_lt_of_le As157.lt E158.1) Kc160.1) (Nat.le_of_eq g162.symm))) nin0))
                    have F172 : Sta Z T163.heap "java/lang/String" "COMPACT_STRINGS" "Z" (.int cz) := (Sta_keep0 SCS K163)
                    have F173 : Sta Z T163.heap "jdk/internal/util/Preconditions" "SIOOBE_FORMATTER" "Ljava/util/function/BiFunction;" fm := (Sta_keep0 SFM K163)
                    obtain ⟨cq174, kq174, q174a, q174b, q174c⟩ := isOf hZ163 rfl Ec163
                    obtain ⟨_, _, ⟨T174, L174, k174, n174⟩, -, X174, ⟨Lc174, hQ174, l174, y174, z174⟩, st174⟩ := X163.virtualBack hx (y := (⟨"com/example/static_permission_checker/staticpermissionchecker/core/FlowConstraint", "holds", "()Z"⟩ : MethodName)) (z := (⟨"com/example/static_permission_checker/staticpermissionchecker/core/FlowConstraint", "holds", "()Z"⟩ : MethodName)) hown163 (mvT hZ163 (hw _ (List.mem_of_getElem? (i := 60) rfl))) (mvT hZ163 (hw _ (List.mem_of_getElem? (i := 61) rfl))) (notFace_of_selects (args := #[]) (mvT hZ163 (hw _ (List.mem_of_getElem? (i := 63) rfl)))) (mvT hZ163 (hw _ (List.mem_of_getElem? (i := 63) rfl))) (mvT hZ163 (hw _ (List.mem_of_getElem? (i := 62) rfl))) (by decide) (backOf (W := 0) (rm10d l Z a0 hw [] b162 b158 t160 kb160 ([] : List Int32) (0 : Int32) _ b153 t157 kb157 ([u0] : List Int32) (1 : Int32) _ cz fm T163.heap n0 (Nat.le_trans (Nat.le_trans (Nat.le_trans (Nat.le_trans (Nat.le_trans (Nat.le_trans (Nat.le_trans (Nat.le_trans (Nat.le_trans Z0 E150.1) (Keep.of_wr W151).1) E152.1) E153.1) Kc157.1) E158.1) Kc160.1) E162.1) Kc163.1) F164 F166 F165 F167 hcd160 hbd160 (Nat.le_of_ble_eq_true rfl) F168 F170 F169 F171 hcd157 hbd154 (Nat.le_of_ble_eq_true rfl) Fh163 Fg163 F172 hcz F173 hfm (by simp)) hZ163 (hw _ (List.mem_of_getElem? (i := 64) rfl)) (hw _ (List.mem_of_getElem? (i := 38) rfl)) (by decide) (by decide)) q174a q174c (g := (mkF m 280 #[.val (.int x0), .val (.int x1), .val (.int x2), .val (.int (1 : Int32)), .val (.int (0 : Int32)), .val (.int (0 : Int32)), .val (.int f6), .val (.int f7), .val (.int u0), .val (.int u1), .val (.int v0), .val (.int v1), .val (.ref b150), .val (.ref b152), .val (.ref b153), .val (.ref b158), .val (.ref ac), .val (.ref b162), .val (.int (0 : Int32))] [(.ref b162)])) rfl (by rw [hml]; rfl) (Steps.refl _) (argsL := []) (rest := []) (lenOf pd_6 rfl) rfl (by show 2 * 0 + _ ≤ _; exact Nat.le_of_eq rfl) (hb hby at_280) (fun _ _ => ⟨rfl, rfl, (by decide : 14 + 0 ≤ _), (by decide : 73 + 0 ≤ _)⟩)
                    dsimp only [Pt.U, Pt.locs, Pt.cells, Pt.slots] at X174 l174 y174 z174 st174 hQ174
                    subst l174 y174 z174
                    obtain ⟨rfl, N174q, eh174⟩ := hQ174
                    have N174 := Fr.app N163 N174q
                    refine Ends.pre (T' := T174.setTop (mkF m 283 #[.val (.int x0), .val (.int x1), .val (.int x2), .val (.int (1 : Int32)), .val (.int (0 : Int32)), .val (.int (0 : Int32)), .val (.int f6), .val (.int f7), .val (.int u0), .val (.int u1), .val (.int v0), .val (.int v1), .val (.ref b150), .val (.ref b152), .val (.ref b153), .val (.ref b158), .val (.ref ac), .val (.ref b162), .val (.int (0 : Int32))] [(.int (0 : Int32))])) (fun t k => st174.trans k) ?_
                    refine Ends.pre (fun t k => XS.iload X174.here hx rfl (hb hby at_283) rfl k) ?_
                    refine Ends.pre (T' := T174.setTop (mkF m 288 #[.val (.int x0), .val (.int x1), .val (.int x2), .val (.int (1 : Int32)), .val (.int (0 : Int32)), .val (.int (0 : Int32)), .val (.int f6), .val (.int f7), .val (.int u0), .val (.int u1), .val (.int v0), .val (.int v1), .val (.ref b150), .val (.ref b152), .val (.ref b153), .val (.ref b158), .val (.ref ac), .val (.ref b162), .val (.int (0 : Int32))] [])) (fun t k => XS.icmpNo X174.here hx rfl (hb hby at_285) rfl (by decide) k) ?_
                    refine Ends.pre (fun t k => XS.iconst X174.here hx rfl (hb hby at_288) k) ?_
                    refine Ends.pre (fun t k => XS.goto X174.here hx rfl (pc0 := 289) (pc' := 293) rfl (hb hby at_289) (by decide) (by decide) k) ?_
                    exact Ends.retW (w := (.int (1 : Int32))) X174 hx Bd.notSynchronized Bd.returns rfl (Or.inl ⟨rfl, Or.inr (Or.inl rfl), _, rfl⟩) (hb hby at_293) eh174 hZ163 hEL hS163 (Nat.le_refl _) hh CR163 ⟨rfl, N174⟩ (by decide) (by decide)
                  refine Ends.pre (fun t k => XS.iload X160.here hx rfl (hb hby at_205) rfl k) ?_
                  by_cases hc207_175 : f7 = 0
                  · refine Ends.pre (T' := T160.setTop (mkF m 216 #[.val (.int x0), .val (.int x1), .val (.int x2), .val (.int (1 : Int32)), .val (.int (0 : Int32)), .val (.int (0 : Int32)), .val (.int f6), .val (.int f7), .val (.int u0), .val (.int u1), .val (.int v0), .val (.int v1), .val (.ref b150), .val (.ref b152), .val (.ref b153), .val (.ref b158), .unset, .unset, .unset] [])) (fun t k => XS.ifYes X160.here hx rfl (pc0 := 207) (pc' := 216) rfl (hb hby at_207) rfl (Jvm.Free.XT.i0_eq_t hc207_175) (by decide) (by decide) k) ?_
                    have F176 : Sta Z T160.heap "com/example/static_permission_checker/staticpermissionchecker/core/FlowConstraint$Access" "READ" "Lcom/example/static_permission_checker/staticpermissionchecker/core/FlowConstraint$Access;" (.ref wREAD) := (Sta_keep0 S_READ K160)
                    obtain ⟨T177, X177, e177, st177⟩ := getS2 X160 hx hZ160 hown160 (host := "") (Or.inl (hw _ (List.mem_of_getElem? (i := 33) rfl))) Via.refl rfl F176 (g := (mkF m 216 #[.val (.int x0), .val (.int x1), .val (.int x2), .val (.int (1 : Int32)), .val (.int (0 : Int32)), .val (.int (0 : Int32)), .val (.int f6), .val (.int f7), .val (.int u0), .val (.int u1), .val (.int v0), .val (.int v1), .val (.ref b150), .val (.ref b152), .val (.ref b153), .val (.ref b158), .unset, .unset, .unset] [])) rfl (hb hby at_216)
                    refine Ends.pre (T' := T177.setTop (mkF m 219 #[.val (.int x0), .val (.int x1), .val (.int x2), .val (.int (1 : Int32)), .val (.int (0 : Int32)), .val (.int (0 : Int32)), .val (.int f6), .val (.int f7), .val (.int u0), .val (.int u1), .val (.int v0), .val (.int v1), .val (.ref b150), .val (.ref b152), .val (.ref b153), .val (.ref b158), .unset, .unset, .unset] [(.ref wREAD)])) (fun t k => st177 _ k) ?_
                    exact J219_161 T177 X177 e177 wREAD
                  · refine Ends.pre (T' := T160.setTop (mkF m 210 #[.val (.int x0), .val (.int x1), .val (.int x2), .val (.int (1 : Int32)), .val (.int (0 : Int32)), .val (.int (0 : Int32)), .val (.int f6), .val (.int f7), .val (.int u0), .val (.int u1), .val (.int v0), .val (.int v1), .val (.ref b150), .val (.ref b152), .val (.ref b153), .val (.ref b158), .unset, .unset, .unset] [])) (fun t k => XS.ifNo X160.here hx rfl (hb hby at_207) rfl (Jvm.Free.XT.i0_eq_f hc207_175) k) ?_
                    have F178 : Sta Z T160.heap "com/example/static_permission_checker/staticpermissionchecker/core/FlowConstraint$Access" "WRITE" "Lcom/example/static_permission_checker/staticpermissionchecker/core/FlowConstraint$Access;" (.ref wWRITE) := (Sta_keep0 S_WRITE K160)
                    obtain ⟨T179, X179, e179, st179⟩ := getS2 X160 hx hZ160 hown160 (host := "") (Or.inl (hw _ (List.mem_of_getElem? (i := 75) rfl))) Via.refl rfl F178 (g := (mkF m 210 #[.val (.int x0), .val (.int x1), .val (.int x2), .val (.int (1 : Int32)), .val (.int (0 : Int32)), .val (.int (0 : Int32)), .val (.int f6), .val (.int f7), .val (.int u0), .val (.int u1), .val (.int v0), .val (.int v1), .val (.ref b150), .val (.ref b152), .val (.ref b153), .val (.ref b158), .unset, .unset, .unset] [])) rfl (hb hby at_210)
                    refine Ends.pre (T' := T179.setTop (mkF m 213 #[.val (.int x0), .val (.int x1), .val (.int x2), .val (.int (1 : Int32)), .val (.int (0 : Int32)), .val (.int (0 : Int32)), .val (.int f6), .val (.int f7), .val (.int u0), .val (.int u1), .val (.int v0), .val (.int v1), .val (.ref b150), .val (.ref b152), .val (.ref b153), .val (.ref b158), .unset, .unset, .unset] [(.ref wWRITE)])) (fun t k => st179 _ k) ?_
                    refine Ends.pre (fun t k => XS.goto X179.here hx rfl (pc0 := 213) (pc' := 219) rfl (hb hby at_213) (by decide) (by decide) k) ?_
                    exact J219_161 T179 X179 e179 wWRITE
                · refine Ends.pre (fun t k => XS.iload X152.here hx rfl (hb hby at_174) rfl k) ?_
                  refine Ends.pre (T' := T152.setTop (mkF m 179 #[.val (.int x0), .val (.int x1), .val (.int x2), .val (.int (1 : Int32)), .val (.int (0 : Int32)), .val (.int (1 : Int32)), .val (.int f6), .val (.int f7), .val (.int u0), .val (.int u1), .val (.int v0), .val (.int v1), .val (.ref b150), .val (.ref b152), .unset, .unset, .unset, .unset, .unset] [])) (fun t k => XS.ifNo X152.here hx rfl (hb hby at_176) rfl (by decide) k) ?_
                  refine Ends.pre (fun t k => XS.aconstNull X152.here hx rfl (hb hby at_179) k) ?_
                  refine Ends.pre (fun t k => XS.goto X152.here hx rfl (pc0 := 180) (pc' := 192) rfl (hb hby at_180) (by decide) (by decide) k) ?_
                  refine Ends.pre (fun t k => XS.astore (g := (mkF m 192 #[.val (.int x0), .val (.int x1), .val (.int x2), .val (.int (1 : Int32)), .val (.int (0 : Int32)), .val (.int (1 : Int32)), .val (.int f6), .val (.int f7), .val (.int u0), .val (.int u1), .val (.int v0), .val (.int v1), .val (.ref b150), .val (.ref b152), .unset, .unset, .unset, .unset, .unset] [.null])) X152.here hx rfl (hb hby at_192) rfl rfl (l' := #[.val (.int x0), .val (.int x1), .val (.int x2), .val (.int (1 : Int32)), .val (.int (0 : Int32)), .val (.int (1 : Int32)), .val (.int f6), .val (.int f7), .val (.int u0), .val (.int u1), .val (.int v0), .val (.int v1), .val (.ref b150), .val (.ref b152), .val .null, .unset, .unset, .unset, .unset]) rfl k) ?_
                  obtain ⟨T180, h180, X180, e180, E180, A180, D180, -, st180⟩ := newO X152 hx hZ hown (hw _ (List.mem_of_getElem? (i := 1) rfl)) (hw _ (List.mem_of_getElem? (i := 2) rfl)) (hw _ (List.mem_of_getElem? (i := 3) rfl)) e152 (g := (mkF m 194 #[.val (.int x0), .val (.int x1), .val (.int x2), .val (.int (1 : Int32)), .val (.int (0 : Int32)), .val (.int (1 : Int32)), .val (.int f6), .val (.int f7), .val (.int u0), .val (.int u1), .val (.int v0), .val (.int v1), .val (.ref b150), .val (.ref b152), .val .null, .unset, .unset, .unset, .unset] [])) rfl (hb hby at_194) (by decide) (by decide)
                  obtain ⟨b180, g180⟩ : ∃ z, z = h152.size := ⟨_, rfl⟩
                  rw [← g180] at A180 D180 st180
                  have ge_b180 : n0 ≤ b180 := Nat.le_trans (Nat.le_trans (Nat.le_trans (Nat.le_trans Z0 E150.1) (Keep.of_wr W151).1) E152.1) (Nat.le_of_eq g180.symm)
                  have sz_b180 : h0.size ≤ b180 := Nat.le_trans K152.1 (Nat.le_of_eq g180.symm)
                  have CR180 := CHr.trans CR152 (CHr.ext E180 CR152.1)
                  have K180 : Keep h0 h180 [] := K152.ext E180
                  have Fd180_coder : Fld Z h180 b180 "java/lang/String" "coder" "B" (.int (0 : Int32)) := D180 (Or.inr (hw _ (List.mem_of_getElem? (i := 27) rfl))) (ty := .byte) (by decide)
                  have Fd180_value : Fld Z h180 b180 "java/lang/String" "value" "[B" .null := D180 (Or.inr (hw _ (List.mem_of_getElem? (i := 29) rfl))) (ty := (.array .byte)) (by decide)
                  refine Ends.pre (T' := T180.setTop (mkF m 197 #[.val (.int x0), .val (.int x1), .val (.int x2), .val (.int (1 : Int32)), .val (.int (0 : Int32)), .val (.int (1 : Int32)), .val (.int f6), .val (.int f7), .val (.int u0), .val (.int u1), .val (.int v0), .val (.int v1), .val (.ref b150), .val (.ref b152), .val .null, .unset, .unset, .unset, .unset] [(.ref b180)])) (fun t k => st180 _ k) ?_
                  refine Ends.pre (fun t k => XS.dup X180.here hx rfl (hb hby at_197) rfl rfl k) ?_
                  refine Ends.pre (fun t k => XS.aload X180.here hx rfl (hb hby at_198) rfl rfl k) ?_
                  have F181 : Arv Z h180 b152 k152 .char (0 : Int32) [] (.int (0 : Int32)) := (Arv.ext V152 E180)
                  obtain ⟨_, _, ⟨T182, L182, k182, n182⟩, -, Xa182, hSa182, ga182, ⟨Lc182, hQ182, l182, y182, z182, CRc182⟩, st182⟩ := X180.specialBackS hx (y := (⟨"java/lang/String", "<init>", "([C)V"⟩ : MethodName)) rfl hown (mvT hZ (hw _ (List.mem_of_getElem? (i := 4) rfl))) (mvT hZ (hw _ (List.mem_of_getElem? (i := 5) rfl))) (mvT hZ (hw _ (List.mem_of_getElem? (i := 6) rfl))) (by decide) (backOfSH (W := 1) (rm_e1 l Z a0 hw [] b180 b152 k152 h180 n0 (Nat.le_trans (Nat.le_trans (Nat.le_trans (Nat.le_trans Z0 E150.1) (Keep.of_wr W151).1) E152.1) E180.1) A180 Fd180_value Fd180_coder ge_b180 F181) hZ (hw _ (List.mem_of_getElem? (i := 6) rfl)) (hw _ (List.mem_of_getElem? (i := 3) rfl)) (by decide) (by decide) hEL CR180.1) (g := (mkF m 200 #[.val (.int x0), .val (.int x1), .val (.int x2), .val (.int (1 : Int32)), .val (.int (0 : Int32)), .val (.int (1 : Int32)), .val (.int f6), .val (.int f7), .val (.int u0), .val (.int u1), .val (.int v0), .val (.int v1), .val (.ref b150), .val (.ref b152), .val .null, .unset, .unset, .unset, .unset] [(.ref b152), (.ref b180), (.ref b180)])) rfl (by rw [hml]; rfl) (Steps.refl _) (a := b180) (argsL := [(.ref b152)]) (rest := [(.ref b180)]) (lenOf pd_4 rfl) rfl (by show 2 * 0 + _ ≤ _; exact Nat.le_of_eq rfl) (hb hby at_200) (fun _ _ => ⟨rfl, e180, (by decide : 3 + 4 ≤ _), (by decide : 5 + 8 ≤ _)⟩)
                  dsimp only [Pt.U, Pt.locs, Pt.cells, Pt.slots] at Xa182 hSa182 ga182 l182 y182 z182 st182 hQ182 CRc182
                  subst l182 y182 z182
                  obtain ⟨X182, hS182, hZ182, hown182⟩ := rebS hS0 (n1 := T180.heap.size) (by rw [e180]; exact (Nat.le_trans (Nat.le_trans (Nat.le_trans (Nat.le_trans hk0 E150.1) (Keep.of_wr W151).1) E152.1) E180.1)) Xa182 hSa182 ga182 hZ hown
                  obtain ⟨rfl, N182q, Kc182, Es182, Cs182, t182, kb182, Vs182, As182⟩ := hQ182
                  have N182 := Fr.app N151 N182q
                  have K182 : Keep h0 T182.heap [] := K180.trans Kc182 (allS (Or.inr sz_b180) all0)
                  have CR182 := CHr.trans CR180 CRc182
                  have hcd182 : StrChars.Road.CodA ([] : List Int32) 0 (0 : Int32) [] := own_lit rfl rfl own_al0
                  have hbd182 : ∀ c ∈ ([] : List Int32), ¬ c < 0 ∧ ¬ (65535 : Int32) < c := own_al0
                  refine Ends.pre (T' := T182.setTop (mkF m 203 #[.val (.int x0), .val (.int x1), .val (.int x2), .val (.int (1 : Int32)), .val (.int (0 : Int32)), .val (.int (1 : Int32)), .val (.int f6), .val (.int f7), .val (.int u0), .val (.int u1), .val (.int v0), .val (.int v1), .val (.ref b150), .val (.ref b152), .val .null, .unset, .unset, .unset, .unset] [(.ref b180)])) (fun t k => st182.trans k) ?_
                  refine Ends.pre (fun t k => XS.astore (g := (mkF m 203 #[.val (.int x0), .val (.int x1), .val (.int x2), .val (.int (1 : Int32)), .val (.int (0 : Int32)), .val (.int (1 : Int32)), .val (.int f6), .val (.int f7), .val (.int u0), .val (.int u1), .val (.int v0), .val (.int v1), .val (.ref b150), .val (.ref b152), .val .null, .unset, .unset, .unset, .unset] [(.ref b180)])) X182.here hx rfl (hb hby at_203) rfl rfl (l' := #[.val (.int x0), .val (.int x1), .val (.int x2), .val (.int (1 : Int32)), .val (.int (0 : Int32)), .val (.int (1 : Int32)), .val (.int f6), .val (.int f7), .val (.int u0), .val (.int u1), .val (.int v0), .val (.int v1), .val (.ref b150), .val (.ref b152), .val .null, .val (.ref b180), .unset, .unset, .unset]) rfl k) ?_
                  have J219_183 : ∀ (TJ183 : State) (XJ183 : SS X182 TJ183) (eJ183 : TJ183.heap = T182.heap) (ac : Addr), Jvm.RoadKit.Ends p e below (EndW s room_1 Z consts_1 (Q_rm0 Z x0 x1 x2 wREAD wWRITE cz fm h0 n0)) (TJ183.setTop (mkF m 219 #[.val (.int x0), .val (.int x1), .val (.int x2), .val (.int (1 : Int32)), .val (.int (0 : Int32)), .val (.int (1 : Int32)), .val (.int f6), .val (.int f7), .val (.int u0), .val (.int u1), .val (.int v0), .val (.int v1), .val (.ref b150), .val (.ref b152), .val .null, .val (.ref b180), .unset, .unset, .unset] [(.ref ac)])) := by
                    intro TJ183 XJ183 eJ183 ac
                    unfold SS at XJ183
                    refine Ends.pre (fun t k => XS.astore (g := (mkF m 219 #[.val (.int x0), .val (.int x1), .val (.int x2), .val (.int (1 : Int32)), .val (.int (0 : Int32)), .val (.int (1 : Int32)), .val (.int f6), .val (.int f7), .val (.int u0), .val (.int u1), .val (.int v0), .val (.int v1), .val (.ref b150), .val (.ref b152), .val .null, .val (.ref b180), .unset, .unset, .unset] [(.ref ac)])) XJ183.here hx rfl (hb hby at_219) rfl rfl (l' := #[.val (.int x0), .val (.int x1), .val (.int x2), .val (.int (1 : Int32)), .val (.int (0 : Int32)), .val (.int (1 : Int32)), .val (.int f6), .val (.int f7), .val (.int u0), .val (.int u1), .val (.int v0), .val (.int v1), .val (.ref b150), .val (.ref b152), .val .null, .val (.ref b180), .val (.ref ac), .unset, .unset]) rfl k) ?_
                    obtain ⟨T184, h184, X184, e184, E184, A184, D184, -, st184⟩ := newO XJ183 hx hZ182 hown182 (hw _ (List.mem_of_getElem? (i := 36) rfl)) (hw _ (List.mem_of_getElem? (i := 37) rfl)) (hw _ (List.mem_of_getElem? (i := 38) rfl)) eJ183 (g := (mkF m 221 #[.val (.int x0), .val (.int x1), .val (.int x2), .val (.int (1 : Int32)), .val (.int (0 : Int32)), .val (.int (1 : Int32)), .val (.int f6), .val (.int f7), .val (.int u0), .val (.int u1), .val (.int v0), .val (.int v1), .val (.ref b150), .val (.ref b152), .val .null, .val (.ref b180), .val (.ref ac), .unset, .unset] [])) rfl (hb hby at_221) (by decide) (by decide)
                    obtain ⟨b184, g184⟩ : ∃ z, z = T182.heap.size := ⟨_, rfl⟩
                    rw [← g184] at A184 D184 st184
                    have ge_b184 : n0 ≤ b184 := Nat.le_trans (Nat.le_trans (Nat.le_trans (Nat.le_trans (Nat.le_trans (Nat.le_trans Z0 E150.1) (Keep.of_wr W151).1) E152.1) E180.1) Kc182.1) (Nat.le_of_eq g184.symm)
                    have sz_b184 : h0.size ≤ b184 := Nat.le_trans K182.1 (Nat.le_of_eq g184.symm)
                    have CR184 := CHr.trans CR182 (CHr.ext E184 CR182.1)
                    have K184 : Keep h0 h184 [] := K182.ext E184
                    have Fd184_holder : Fld Z h184 b184 "com/example/static_permission_checker/staticpermissionchecker/core/FlowConstraint" "holder" "Ljava/lang/String;" .null := D184 (Or.inr (hw _ (List.mem_of_getElem? (i := 55) rfl))) (ty := (.object "java/lang/String")) (by decide)
                    have Fd184_access : Fld Z h184 b184 "com/example/static_permission_checker/staticpermissionchecker/core/FlowConstraint" "access" "Lcom/example/static_permission_checker/staticpermissionchecker/core/FlowConstraint$Access;" .null := D184 (Or.inr (hw _ (List.mem_of_getElem? (i := 57) rfl))) (ty := (.object "com/example/static_permission_checker/staticpermissionchecker/core/FlowConstraint$Access")) (by decide)
                    have Fd184_guard : Fld Z h184 b184 "com/example/static_permission_checker/staticpermissionchecker/core/FlowConstraint" "guard" "Ljava/lang/String;" .null := D184 (Or.inr (hw _ (List.mem_of_getElem? (i := 59) rfl))) (ty := (.object "java/lang/String")) (by decide)
                    refine Ends.pre (T' := T184.setTop (mkF m 224 #[.val (.int x0), .val (.int x1), .val (.int x2), .val (.int (1 : Int32)), .val (.int (0 : Int32)), .val (.int (1 : Int32)), .val (.int f6), .val (.int f7), .val (.int u0), .val (.int u1), .val (.int v0), .val (.int v1), .val (.ref b150), .val (.ref b152), .val .null, .val (.ref b180), .val (.ref ac), .unset, .unset] [(.ref b184)])) (fun t k => st184 _ k) ?_
                    refine Ends.pre (fun t k => XS.dup X184.here hx rfl (hb hby at_224) rfl rfl k) ?_
                    refine Ends.pre (fun t k => XS.aload X184.here hx rfl (hb hby at_225) rfl rfl k) ?_
                    refine Ends.pre (fun t k => XS.aload X184.here hx rfl (hb hby at_227) rfl rfl k) ?_
                    refine Ends.pre (fun t k => XS.aload X184.here hx rfl (hb hby at_229) rfl rfl k) ?_
                    obtain ⟨_, _, ⟨T185, L185, k185, n185⟩, -, Xa185, hSa185, ga185, ⟨Lc185, hQ185, l185, y185, z185, CRc185⟩, st185⟩ := X184.specialBackS hx (y := (⟨"com/example/static_permission_checker/staticpermissionchecker/core/FlowConstraint", "<init>", "(Ljava/lang/String;Lcom/example/static_permission_checker/staticpermissionchecker/core/FlowConstraint$Access;Ljava/lang/String;)V"⟩ : MethodName)) rfl hown182 (mvT hZ182 (hw _ (List.mem_of_getElem? (i := 39) rfl))) (mvT hZ182 (hw _ (List.mem_of_getElem? (i := 40) rfl))) (mvT hZ182 (hw _ (List.mem_of_getElem? (i := 41) rfl))) (by decide) (backOfSH (W := 1) (rm7n l Z a0 hw [] b184 ac b180 h184 n0 (Nat.le_trans (Nat.le_trans (Nat.le_trans (Nat.le_trans (Nat.le_trans (Nat.le_trans Z0 E150.1) (Keep.of_wr W151).1) E152.1) E180.1) Kc182.1) E184.1) A184 ge_b184 Fd184_holder Fd184_access Fd184_guard) hZ182 (hw _ (List.mem_of_getElem? (i := 41) rfl)) (hw _ (List.mem_of_getElem? (i := 38) rfl)) (by decide) (by decide) hEL CR184.1) (g := (mkF m 231 #[.val (.int x0), .val (.int x1), .val (.int x2), .val (.int (1 : Int32)), .val (.int (0 : Int32)), .val (.int (1 : Int32)), .val (.int f6), .val (.int f7), .val (.int u0), .val (.int u1), .val (.int v0), .val (.int v1), .val (.ref b150), .val (.ref b152), .val .null, .val (.ref b180), .val (.ref ac), .unset, .unset] [(.ref b180), (.ref ac), .null, (.ref b184), (.ref b184)])) rfl (by rw [hml]; rfl) (Steps.refl _) (a := b184) (argsL := [.null, (.ref ac), (.ref b180)]) (rest := [(.ref b184)]) (lenOf pd_5 rfl) rfl (by show 2 * 0 + _ ≤ _; exact Nat.le_of_eq rfl) (hb hby at_231) (fun _ _ => ⟨rfl, e184, (by decide : 8 + 4 ≤ _), (by decide : 16 + 52 ≤ _)⟩)
                    dsimp only [Pt.U, Pt.locs, Pt.cells, Pt.slots] at Xa185 hSa185 ga185 l185 y185 z185 st185 hQ185 CRc185
                    subst l185 y185 z185
                    obtain ⟨X185, hS185, hZ185, hown185⟩ := rebS hS182 (n1 := T184.heap.size) (by rw [e184]; exact (Nat.le_trans (Nat.le_refl _) E184.1)) Xa185 hSa185 ga185 hZ182 hown182
                    obtain ⟨rfl, N185q, Kc185, Ec185, Fh185, Fg185⟩ := hQ185
                    have N185 := Fr.app N182 N185q
                    have K185 : Keep h0 T185.heap [] := K184.trans Kc185 (allS (Or.inr sz_b184) all0)
                    have CR185 := CHr.trans CR184 CRc185
                    refine Ends.pre (T' := T185.setTop (mkF m 234 #[.val (.int x0), .val (.int x1), .val (.int x2), .val (.int (1 : Int32)), .val (.int (0 : Int32)), .val (.int (1 : Int32)), .val (.int f6), .val (.int f7), .val (.int u0), .val (.int u1), .val (.int v0), .val (.int v1), .val (.ref b150), .val (.ref b152), .val .null, .val (.ref b180), .val (.ref ac), .unset, .unset] [(.ref b184)])) (fun t k => st185.trans k) ?_
                    refine Ends.pre (fun t k => XS.astore (g := (mkF m 234 #[.val (.int x0), .val (.int x1), .val (.int x2), .val (.int (1 : Int32)), .val (.int (0 : Int32)), .val (.int (1 : Int32)), .val (.int f6), .val (.int f7), .val (.int u0), .val (.int u1), .val (.int v0), .val (.int v1), .val (.ref b150), .val (.ref b152), .val .null, .val (.ref b180), .val (.ref ac), .unset, .unset] [(.ref b184)])) X185.here hx rfl (hb hby at_234) rfl rfl (l' := #[.val (.int x0), .val (.int x1), .val (.int x2), .val (.int (1 : Int32)), .val (.int (0 : Int32)), .val (.int (1 : Int32)), .val (.int f6), .val (.int f7), .val (.int u0), .val (.int u1), .val (.int v0), .val (.int v1), .val (.ref b150), .val (.ref b152), .val .null, .val (.ref b180), .val (.ref ac), .val (.ref b184), .unset]) rfl k) ?_
                    refine Ends.pre (fun t k => XS.iload X185.here hx rfl (hb hby at_236) rfl k) ?_
                    refine Ends.pre (T' := T185.setTop (mkF m 275 #[.val (.int x0), .val (.int x1), .val (.int x2), .val (.int (1 : Int32)), .val (.int (0 : Int32)), .val (.int (1 : Int32)), .val (.int f6), .val (.int f7), .val (.int u0), .val (.int u1), .val (.int v0), .val (.int v1), .val (.ref b150), .val (.ref b152), .val .null, .val (.ref b180), .val (.ref ac), .val (.ref b184), .unset] [])) (fun t k => XS.ifYes X185.here hx rfl (pc0 := 238) (pc' := 275) rfl (hb hby at_238) rfl (by decide) (by decide) (by decide) k) ?_
                    refine Ends.pre (fun t k => XS.iconst X185.here hx rfl (hb hby at_275) k) ?_
                    refine Ends.pre (fun t k => XS.istore (g := (mkF m 276 #[.val (.int x0), .val (.int x1), .val (.int x2), .val (.int (1 : Int32)), .val (.int (0 : Int32)), .val (.int (1 : Int32)), .val (.int f6), .val (.int f7), .val (.int u0), .val (.int u1), .val (.int v0), .val (.int v1), .val (.ref b150), .val (.ref b152), .val .null, .val (.ref b180), .val (.ref ac), .val (.ref b184), .unset] [(.int (0 : Int32))])) X185.here hx rfl (hb hby at_276) rfl (l' := #[.val (.int x0), .val (.int x1), .val (.int x2), .val (.int (1 : Int32)), .val (.int (0 : Int32)), .val (.int (1 : Int32)), .val (.int f6), .val (.int f7), .val (.int u0), .val (.int u1), .val (.int v0), .val (.int v1), .val (.ref b150), .val (.ref b152), .val .null, .val (.ref b180), .val (.ref ac), .val (.ref b184), .val (.int (0 : Int32))]) rfl k) ?_
                    refine Ends.pre (fun t k => XS.aload X185.here hx rfl (hb hby at_278) rfl rfl k) ?_
                    have F186 : Exa Z T185.heap b180 "java/lang/String" := ((Es182.ext E184).keep Kc185)
                    have F187 : Fld Z T185.heap b180 "java/lang/String" "value" "[B" (.ref t182) := ((Vs182.ext E184).keep Kc185 (ninS (Nat.ne_of_lt (Nat.lt_of_lt_of_le (Nat.lt_of_lt_of_le A180.lt Kc182.1) (Nat.le_of_eq g184.symm))) nin0))
                    have F188 : Fld Z T185.heap b180 "java/lang/String" "coder" "B" (.int 0) := ((Cs182.ext E184).keep Kc185 (ninS (Nat.ne_of_lt (Nat.lt_of_lt_of_le (Nat.lt_of_lt_of_le A180.lt Kc182.1) (Nat.le_of_eq g184.symm))) nin0))
                    have F189 : Arv Z T185.heap t182 kb182 .byte (0 : Int32) [] (.int 0) := ((Arv.ext As182 E184).keep Kc185 (ninS (Nat.ne_of_lt (Nat.lt_of_lt_of_le As182.lt (Nat.le_of_eq g184.symm))) nin0))
                    have F190 : Sta Z T185.heap "java/lang/String" "COMPACT_STRINGS" "Z" (.int cz) := (Sta_keep0 SCS K185)
                    have F191 : Sta Z T185.heap "jdk/internal/util/Preconditions" "SIOOBE_FORMATTER" "Ljava/util/function/BiFunction;" fm := (Sta_keep0 SFM K185)
                    obtain ⟨cq192, kq192, q192a, q192b, q192c⟩ := isOf hZ185 rfl Ec185
                    obtain ⟨_, _, ⟨T192, L192, k192, n192⟩, -, X192, ⟨Lc192, hQ192, l192, y192, z192⟩, st192⟩ := X185.virtualBack hx (y := (⟨"com/example/static_permission_checker/staticpermissionchecker/core/FlowConstraint", "holds", "()Z"⟩ : MethodName)) (z := (⟨"com/example/static_permission_checker/staticpermissionchecker/core/FlowConstraint", "holds", "()Z"⟩ : MethodName)) hown185 (mvT hZ185 (hw _ (List.mem_of_getElem? (i := 60) rfl))) (mvT hZ185 (hw _ (List.mem_of_getElem? (i := 61) rfl))) (notFace_of_selects (args := #[]) (mvT hZ185 (hw _ (List.mem_of_getElem? (i := 63) rfl)))) (mvT hZ185 (hw _ (List.mem_of_getElem? (i := 63) rfl))) (mvT hZ185 (hw _ (List.mem_of_getElem? (i := 62) rfl))) (by decide) (backOf (W := 0) (rm10n l Z a0 hw [] b184 b180 t182 kb182 ([] : List Int32) (0 : Int32) _  cz fm T185.heap n0 (Nat.le_trans (Nat.le_trans (Nat.le_trans (Nat.le_trans (Nat.le_trans (Nat.le_trans (Nat.le_trans Z0 E150.1) (Keep.of_wr W151).1) E152.1) E180.1) Kc182.1) E184.1) Kc185.1) F186 F188 F187 F189 hcd182 hbd182 (Nat.le_of_ble_eq_true rfl)  Fh185 Fg185 F190 hcz F191 hfm ) hZ185 (hw _ (List.mem_of_getElem? (i := 64) rfl)) (hw _ (List.mem_of_getElem? (i := 38) rfl)) (by decide) (by decide)) q192a q192c (g := (mkF m 280 #[.val (.int x0), .val (.int x1), .val (.int x2), .val (.int (1 : Int32)), .val (.int (0 : Int32)), .val (.int (1 : Int32)), .val (.int f6), .val (.int f7), .val (.int u0), .val (.int u1), .val (.int v0), .val (.int v1), .val (.ref b150), .val (.ref b152), .val .null, .val (.ref b180), .val (.ref ac), .val (.ref b184), .val (.int (0 : Int32))] [(.ref b184)])) rfl (by rw [hml]; rfl) (Steps.refl _) (argsL := []) (rest := []) (lenOf pd_6 rfl) rfl (by show 2 * 0 + _ ≤ _; exact Nat.le_of_eq rfl) (hb hby at_280) (fun _ _ => ⟨rfl, rfl, (by decide : 12 + 0 ≤ _), (by decide : 68 + 0 ≤ _)⟩)
                    dsimp only [Pt.U, Pt.locs, Pt.cells, Pt.slots] at X192 l192 y192 z192 st192 hQ192
                    subst l192 y192 z192
                    obtain ⟨rfl, N192q, eh192⟩ := hQ192
                    have N192 := Fr.app N185 N192q
                    refine Ends.pre (T' := T192.setTop (mkF m 283 #[.val (.int x0), .val (.int x1), .val (.int x2), .val (.int (1 : Int32)), .val (.int (0 : Int32)), .val (.int (1 : Int32)), .val (.int f6), .val (.int f7), .val (.int u0), .val (.int u1), .val (.int v0), .val (.int v1), .val (.ref b150), .val (.ref b152), .val .null, .val (.ref b180), .val (.ref ac), .val (.ref b184), .val (.int (0 : Int32))] [(.int (0 : Int32))])) (fun t k => st192.trans k) ?_
                    refine Ends.pre (fun t k => XS.iload X192.here hx rfl (hb hby at_283) rfl k) ?_
                    refine Ends.pre (T' := T192.setTop (mkF m 288 #[.val (.int x0), .val (.int x1), .val (.int x2), .val (.int (1 : Int32)), .val (.int (0 : Int32)), .val (.int (1 : Int32)), .val (.int f6), .val (.int f7), .val (.int u0), .val (.int u1), .val (.int v0), .val (.int v1), .val (.ref b150), .val (.ref b152), .val .null, .val (.ref b180), .val (.ref ac), .val (.ref b184), .val (.int (0 : Int32))] [])) (fun t k => XS.icmpNo X192.here hx rfl (hb hby at_285) rfl (by decide) k) ?_
                    refine Ends.pre (fun t k => XS.iconst X192.here hx rfl (hb hby at_288) k) ?_
                    refine Ends.pre (fun t k => XS.goto X192.here hx rfl (pc0 := 289) (pc' := 293) rfl (hb hby at_289) (by decide) (by decide) k) ?_
                    exact Ends.retW (w := (.int (1 : Int32))) X192 hx Bd.notSynchronized Bd.returns rfl (Or.inl ⟨rfl, Or.inr (Or.inl rfl), _, rfl⟩) (hb hby at_293) eh192 hZ185 hEL hS185 (Nat.le_refl _) hh CR185 ⟨rfl, N192⟩ (by decide) (by decide)
                  refine Ends.pre (fun t k => XS.iload X182.here hx rfl (hb hby at_205) rfl k) ?_
                  by_cases hc207_193 : f7 = 0
                  · refine Ends.pre (T' := T182.setTop (mkF m 216 #[.val (.int x0), .val (.int x1), .val (.int x2), .val (.int (1 : Int32)), .val (.int (0 : Int32)), .val (.int (1 : Int32)), .val (.int f6), .val (.int f7), .val (.int u0), .val (.int u1), .val (.int v0), .val (.int v1), .val (.ref b150), .val (.ref b152), .val .null, .val (.ref b180), .unset, .unset, .unset] [])) (fun t k => XS.ifYes X182.here hx rfl (pc0 := 207) (pc' := 216) rfl (hb hby at_207) rfl (Jvm.Free.XT.i0_eq_t hc207_193) (by decide) (by decide) k) ?_
                    have F194 : Sta Z T182.heap "com/example/static_permission_checker/staticpermissionchecker/core/FlowConstraint$Access" "READ" "Lcom/example/static_permission_checker/staticpermissionchecker/core/FlowConstraint$Access;" (.ref wREAD) := (Sta_keep0 S_READ K182)
                    obtain ⟨T195, X195, e195, st195⟩ := getS2 X182 hx hZ182 hown182 (host := "") (Or.inl (hw _ (List.mem_of_getElem? (i := 33) rfl))) Via.refl rfl F194 (g := (mkF m 216 #[.val (.int x0), .val (.int x1), .val (.int x2), .val (.int (1 : Int32)), .val (.int (0 : Int32)), .val (.int (1 : Int32)), .val (.int f6), .val (.int f7), .val (.int u0), .val (.int u1), .val (.int v0), .val (.int v1), .val (.ref b150), .val (.ref b152), .val .null, .val (.ref b180), .unset, .unset, .unset] [])) rfl (hb hby at_216)
                    refine Ends.pre (T' := T195.setTop (mkF m 219 #[.val (.int x0), .val (.int x1), .val (.int x2), .val (.int (1 : Int32)), .val (.int (0 : Int32)), .val (.int (1 : Int32)), .val (.int f6), .val (.int f7), .val (.int u0), .val (.int u1), .val (.int v0), .val (.int v1), .val (.ref b150), .val (.ref b152), .val .null, .val (.ref b180), .unset, .unset, .unset] [(.ref wREAD)])) (fun t k => st195 _ k) ?_
                    exact J219_183 T195 X195 e195 wREAD
                  · refine Ends.pre (T' := T182.setTop (mkF m 210 #[.val (.int x0), .val (.int x1), .val (.int x2), .val (.int (1 : Int32)), .val (.int (0 : Int32)), .val (.int (1 : Int32)), .val (.int f6), .val (.int f7), .val (.int u0), .val (.int u1), .val (.int v0), .val (.int v1), .val (.ref b150), .val (.ref b152), .val .null, .val (.ref b180), .unset, .unset, .unset] [])) (fun t k => XS.ifNo X182.here hx rfl (hb hby at_207) rfl (Jvm.Free.XT.i0_eq_f hc207_193) k) ?_
                    have F196 : Sta Z T182.heap "com/example/static_permission_checker/staticpermissionchecker/core/FlowConstraint$Access" "WRITE" "Lcom/example/static_permission_checker/staticpermissionchecker/core/FlowConstraint$Access;" (.ref wWRITE) := (Sta_keep0 S_WRITE K182)
                    obtain ⟨T197, X197, e197, st197⟩ := getS2 X182 hx hZ182 hown182 (host := "") (Or.inl (hw _ (List.mem_of_getElem? (i := 75) rfl))) Via.refl rfl F196 (g := (mkF m 210 #[.val (.int x0), .val (.int x1), .val (.int x2), .val (.int (1 : Int32)), .val (.int (0 : Int32)), .val (.int (1 : Int32)), .val (.int f6), .val (.int f7), .val (.int u0), .val (.int u1), .val (.int v0), .val (.int v1), .val (.ref b150), .val (.ref b152), .val .null, .val (.ref b180), .unset, .unset, .unset] [])) rfl (hb hby at_210)
                    refine Ends.pre (T' := T197.setTop (mkF m 213 #[.val (.int x0), .val (.int x1), .val (.int x2), .val (.int (1 : Int32)), .val (.int (0 : Int32)), .val (.int (1 : Int32)), .val (.int f6), .val (.int f7), .val (.int u0), .val (.int u1), .val (.int v0), .val (.int v1), .val (.ref b150), .val (.ref b152), .val .null, .val (.ref b180), .unset, .unset, .unset] [(.ref wWRITE)])) (fun t k => st197 _ k) ?_
                    refine Ends.pre (fun t k => XS.goto X197.here hx rfl (pc0 := 213) (pc' := 219) rfl (hb hby at_213) (by decide) (by decide) k) ?_
                    exact J219_183 T197 X197 e197 wWRITE
              · refine Ends.pre (fun t k => XS.iload X151.here hx rfl (hb hby at_145) rfl k) ?_
                obtain ⟨T198, h198, k198, X198, e198, E198, A198, st198⟩ := newP X151 hx hZ (hw _ (List.mem_of_getElem? (i := 0) rfl)) e151 (g := (mkF m 147 #[.val (.int x0), .val (.int x1), .val (.int x2), .val (.int (1 : Int32)), .val (.int (1 : Int32)), .val (.int f5), .val (.int f6), .val (.int f7), .val (.int u0), .val (.int u1), .val (.int v0), .val (.int v1), .val (.ref b150), .unset, .unset, .unset, .unset, .unset, .unset] [(.int (1 : Int32))])) rfl (hb hby at_147) rfl (by decide) (cap := 1) (by decide) (by decide) (by decide) (by decide)
                obtain ⟨b198, g198⟩ : ∃ z, z = h151.size := ⟨_, rfl⟩
                rw [← g198] at A198 st198
                have ge_b198 : n0 ≤ b198 := Nat.le_trans (Nat.le_trans (Nat.le_trans Z0 E150.1) (Keep.of_wr W151).1) (Nat.le_of_eq g198.symm)
                have sz_b198 : h0.size ≤ b198 := Nat.le_trans K151.1 (Nat.le_of_eq g198.symm)
                have CR198 := CHr.trans CR151 (CHr.ext E198 CR151.1)
                have K198 : Keep h0 h198 [] := K151.ext E198
                have V198 : Arv Z h198 b198 k198 .char (1 : Int32) [(.int (0 : Int32))] (.int (0 : Int32)) := (Arv.new A198 (by decide)).pad (pad_rep [] (.int (0 : Int32)) 1)
                refine Ends.pre (T' := T198.setTop (mkF m 149 #[.val (.int x0), .val (.int x1), .val (.int x2), .val (.int (1 : Int32)), .val (.int (1 : Int32)), .val (.int f5), .val (.int f6), .val (.int f7), .val (.int u0), .val (.int u1), .val (.int v0), .val (.int v1), .val (.ref b150), .unset, .unset, .unset, .unset, .unset, .unset] [(.ref b198)])) (fun t k => st198 _ k) ?_
                refine Ends.pre (fun t k => XS.astore (g := (mkF m 149 #[.val (.int x0), .val (.int x1), .val (.int x2), .val (.int (1 : Int32)), .val (.int (1 : Int32)), .val (.int f5), .val (.int f6), .val (.int f7), .val (.int u0), .val (.int u1), .val (.int v0), .val (.int v1), .val (.ref b150), .unset, .unset, .unset, .unset, .unset, .unset] [(.ref b198)])) X198.here hx rfl (hb hby at_149) rfl rfl (l' := #[.val (.int x0), .val (.int x1), .val (.int x2), .val (.int (1 : Int32)), .val (.int (1 : Int32)), .val (.int f5), .val (.int f6), .val (.int f7), .val (.int u0), .val (.int u1), .val (.int v0), .val (.int v1), .val (.ref b150), .val (.ref b198), .unset, .unset, .unset, .unset, .unset]) rfl k) ?_
                refine Ends.pre (fun t k => XS.iload X198.here hx rfl (hb hby at_151) rfl k) ?_
                refine Ends.pre (T' := T198.setTop (mkF m 156 #[.val (.int x0), .val (.int x1), .val (.int x2), .val (.int (1 : Int32)), .val (.int (1 : Int32)), .val (.int f5), .val (.int f6), .val (.int f7), .val (.int u0), .val (.int u1), .val (.int v0), .val (.int v1), .val (.ref b150), .val (.ref b198), .unset, .unset, .unset, .unset, .unset] [])) (fun t k => XS.ifNo X198.here hx rfl (hb hby at_153) rfl (by decide) k) ?_
                refine Ends.pre (fun t k => XS.aload X198.here hx rfl (hb hby at_156) rfl rfl k) ?_
                refine Ends.pre (fun t k => XS.iconst X198.here hx rfl (hb hby at_158) k) ?_
                refine Ends.pre (fun t k => XS.iload X198.here hx rfl (hb hby at_159) rfl k) ?_
                obtain ⟨cl199, Ar199, q199, S199, N199', H199, G199⟩ := id V198
                have hin199 : ¬ ((0 : Int32) < 0 ∨ cl199.slots.size ≤ ((0 : Int32)).toNatClampNeg) := inb_of S199 ⟨by decide, by decide⟩
                obtain ⟨T199, h199, X199, e199, W199, st199⟩ := stC X198 hx hZ e198 Ar199 (j := (0 : Int32)) hin199 (g := (mkF m 161 #[.val (.int x0), .val (.int x1), .val (.int x2), .val (.int (1 : Int32)), .val (.int (1 : Int32)), .val (.int f5), .val (.int f6), .val (.int f7), .val (.int u0), .val (.int u1), .val (.int v0), .val (.int v1), .val (.ref b150), .val (.ref b198), .unset, .unset, .unset, .unset, .unset] [(.int v0), (.int (0 : Int32)), (.ref b198)])) rfl rfl (hb hby at_161)
                have CR199 := CHr.trans CR198 (CHr.wr W199 (Safe.arv hZo.alike V198 (by decide)) CR198.1)
                have V199 : Arv Z h199 b198 k198 .char (1 : Int32) [(.int v0)] (.int (0 : Int32)) := (by have q := Arv.set Ar199 q199 S199 N199' H199 G199 (fits_nar_char _) W199 0 rfl (Nat.le_of_ble_eq_true rfl); rw [own_char cv0] at q; exact q)
                have N199 := Fr.snoc X199 N151 ge_b198
                refine Ends.pre (T' := T199.setTop (mkF m 162 #[.val (.int x0), .val (.int x1), .val (.int x2), .val (.int (1 : Int32)), .val (.int (1 : Int32)), .val (.int f5), .val (.int f6), .val (.int f7), .val (.int u0), .val (.int u1), .val (.int v0), .val (.int v1), .val (.ref b150), .val (.ref b198), .unset, .unset, .unset, .unset, .unset] [])) (fun t k => st199 _ k) ?_
                have K199 : Keep h0 h199 [] := K198.wr W199 (Or.inr sz_b198)
                refine Ends.pre (fun t k => XS.iload X199.here hx rfl (hb hby at_162) rfl k) ?_
                refine Ends.pre (fun t k => XS.iconst X199.here hx rfl (hb hby at_164) k) ?_
                refine Ends.pre (T' := T199.setTop (mkF m 174 #[.val (.int x0), .val (.int x1), .val (.int x2), .val (.int (1 : Int32)), .val (.int (1 : Int32)), .val (.int f5), .val (.int f6), .val (.int f7), .val (.int u0), .val (.int u1), .val (.int v0), .val (.int v1), .val (.ref b150), .val (.ref b198), .unset, .unset, .unset, .unset, .unset] [])) (fun t k => XS.icmpYes X199.here hx rfl (pc0 := 165) (pc' := 174) rfl (hb hby at_165) rfl (by decide) (by decide) (by decide) k) ?_
                rcases qf5 with rfl | rfl
                · refine Ends.pre (fun t k => XS.iload X199.here hx rfl (hb hby at_174) rfl k) ?_
                  refine Ends.pre (T' := T199.setTop (mkF m 183 #[.val (.int x0), .val (.int x1), .val (.int x2), .val (.int (1 : Int32)), .val (.int (1 : Int32)), .val (.int (0 : Int32)), .val (.int f6), .val (.int f7), .val (.int u0), .val (.int u1), .val (.int v0), .val (.int v1), .val (.ref b150), .val (.ref b198), .unset, .unset, .unset, .unset, .unset] [])) (fun t k => XS.ifYes X199.here hx rfl (pc0 := 176) (pc' := 183) rfl (hb hby at_176) rfl (by decide) (by decide) (by decide) k) ?_
                  obtain ⟨T200, h200, X200, e200, E200, A200, D200, -, st200⟩ := newO X199 hx hZ hown (hw _ (List.mem_of_getElem? (i := 1) rfl)) (hw _ (List.mem_of_getElem? (i := 2) rfl)) (hw _ (List.mem_of_getElem? (i := 3) rfl)) e199 (g := (mkF m 183 #[.val (.int x0), .val (.int x1), .val (.int x2), .val (.int (1 : Int32)), .val (.int (1 : Int32)), .val (.int (0 : Int32)), .val (.int f6), .val (.int f7), .val (.int u0), .val (.int u1), .val (.int v0), .val (.int v1), .val (.ref b150), .val (.ref b198), .unset, .unset, .unset, .unset, .unset] [])) rfl (hb hby at_183) (by decide) (by decide)
                  obtain ⟨b200, g200⟩ : ∃ z, z = h199.size := ⟨_, rfl⟩
                  rw [← g200] at A200 D200 st200
                  have ge_b200 : n0 ≤ b200 := Nat.le_trans (Nat.le_trans (Nat.le_trans (Nat.le_trans (Nat.le_trans Z0 E150.1) (Keep.of_wr W151).1) E198.1) (Keep.of_wr W199).1) (Nat.le_of_eq g200.symm)
                  have sz_b200 : h0.size ≤ b200 := Nat.le_trans K199.1 (Nat.le_of_eq g200.symm)
                  have CR200 := CHr.trans CR199 (CHr.ext E200 CR199.1)
                  have K200 : Keep h0 h200 [] := K199.ext E200
                  have Fd200_coder : Fld Z h200 b200 "java/lang/String" "coder" "B" (.int (0 : Int32)) := D200 (Or.inr (hw _ (List.mem_of_getElem? (i := 27) rfl))) (ty := .byte) (by decide)
                  have Fd200_value : Fld Z h200 b200 "java/lang/String" "value" "[B" .null := D200 (Or.inr (hw _ (List.mem_of_getElem? (i := 29) rfl))) (ty := (.array .byte)) (by decide)
                  refine Ends.pre (T' := T200.setTop (mkF m 186 #[.val (.int x0), .val (.int x1), .val (.int x2), .val (.int (1 : Int32)), .val (.int (1 : Int32)), .val (.int (0 : Int32)), .val (.int f6), .val (.int f7), .val (.int u0), .val (.int u1), .val (.int v0), .val (.int v1), .val (.ref b150), .val (.ref b198), .unset, .unset, .unset, .unset, .unset] [(.ref b200)])) (fun t k => st200 _ k) ?_
                  refine Ends.pre (fun t k => XS.dup X200.here hx rfl (hb hby at_186) rfl rfl k) ?_
                  refine Ends.pre (fun t k => XS.aload X200.here hx rfl (hb hby at_187) rfl rfl k) ?_
                  have hp201 : ∀ c ∈ ([u0] : List Int32), ¬ c < 0 ∧ ¬ (255 : Int32) < c := (own_alS cu0 own_al0)
                  have hbd201 := own_up _ hp201
                  have F202 : Arv Z h200 b150 k150 .char (1 : Int32) [(.int u0)] (.int (0 : Int32)) := (Arv.ext ((Arv.ext V151 E198).other W199 (Nat.ne_of_lt (Nat.lt_of_lt_of_le (Nat.lt_of_lt_of_le V150.lt (Keep.of_wr W151).1) (Nat.le_of_eq g198.symm)))) E200)
                  have F203 : Sta Z h200 "java/lang/String" "COMPACT_STRINGS" "Z" (.int cz) := (Sta_keep0 SCS K200)
                  obtain ⟨_, _, ⟨T204, L204, k204, n204⟩, -, X204, ⟨Lc204, hQ204, l204, y204, z204⟩, st204⟩ := X200.specialBack hx (y := (⟨"java/lang/String", "<init>", "([C)V"⟩ : MethodName)) rfl hown (mvT hZ (hw _ (List.mem_of_getElem? (i := 4) rfl))) (mvT hZ (hw _ (List.mem_of_getElem? (i := 5) rfl))) (mvT hZ (hw _ (List.mem_of_getElem? (i := 6) rfl))) (by decide) (StrChars.Road.backV (W := 1) hZ (own_hws hw) (kI := 4) (hw _ (List.mem_of_getElem? (i := 2) rfl)) (cs := ([u0] : List Int32)) (bs := (([u0] : List Int32).map (fun c => c.toInt8.toInt32))) (n := 1) ge_b200 (Nat.le_trans (Nat.le_trans (Nat.le_trans (Nat.le_trans (Nat.le_trans Z0 E150.1) (Keep.of_wr W151).1) E198.1) (Keep.of_wr W199).1) E200.1) A200 Fd200_value Fd200_coder F202 F203 hcz rfl rfl (by decide) (by decide) hp201 rfl (by decide) (by decide)) (g := (mkF m 189 #[.val (.int x0), .val (.int x1), .val (.int x2), .val (.int (1 : Int32)), .val (.int (1 : Int32)), .val (.int (0 : Int32)), .val (.int f6), .val (.int f7), .val (.int u0), .val (.int u1), .val (.int v0), .val (.int v1), .val (.ref b150), .val (.ref b198), .unset, .unset, .unset, .unset, .unset] [(.ref b150), (.ref b200), (.ref b200)])) rfl (by rw [hml]; rfl) (Steps.refl _) (a := b200) (argsL := [(.ref b150)]) (rest := [(.ref b200)]) (lenOf pd_4 rfl) rfl (by show 2 * 0 + _ ≤ _; exact Nat.le_of_eq rfl) (hb hby at_189) (fun _ _ => ⟨rfl, e200, (by decide : 3 + 1 ≤ _), (by decide : 6 + 1 ≤ _)⟩)
                  dsimp only [Pt.U, Pt.locs, Pt.cells, Pt.slots] at X204 l204 y204 z204 st204 hQ204
                  subst l204 y204 z204
                  obtain ⟨rfl, N204q, Kc204, Es204, Cs204, t204, kb204, gt204, ft204, nt204, Vs204, As204⟩ := hQ204
                  have N204 := Fr.app N199 N204q
                  have K204 : Keep h0 T204.heap [] := K200.trans Kc204 (allS (Or.inr sz_b200) all0)
                  have CR204 := CHr.trans CR200 (CHr.keep Kc204 (sfS (Safe.ext E200 CR199.1 (Safe.new (Nat.le_of_eq g200.symm))) sf0) CR200.1)
                  have hcd204 : StrChars.Road.CodA ([u0] : List Int32) 0 (1 : Int32) ((([u0] : List Int32).map (fun c => c.toInt8.toInt32)).map Value.int) := StrChars.Road.codOf (n := 1) rfl (fun c hc => (hp201 c hc).2)
                  refine Ends.pre (T' := T204.setTop (mkF m 192 #[.val (.int x0), .val (.int x1), .val (.int x2), .val (.int (1 : Int32)), .val (.int (1 : Int32)), .val (.int (0 : Int32)), .val (.int f6), .val (.int f7), .val (.int u0), .val (.int u1), .val (.int v0), .val (.int v1), .val (.ref b150), .val (.ref b198), .unset, .unset, .unset, .unset, .unset] [(.ref b200)])) (fun t k => st204.trans k) ?_
                  refine Ends.pre (fun t k => XS.astore (g := (mkF m 192 #[.val (.int x0), .val (.int x1), .val (.int x2), .val (.int (1 : Int32)), .val (.int (1 : Int32)), .val (.int (0 : Int32)), .val (.int f6), .val (.int f7), .val (.int u0), .val (.int u1), .val (.int v0), .val (.int v1), .val (.ref b150), .val (.ref b198), .unset, .unset, .unset, .unset, .unset] [(.ref b200)])) X204.here hx rfl (hb hby at_192) rfl rfl (l' := #[.val (.int x0), .val (.int x1), .val (.int x2), .val (.int (1 : Int32)), .val (.int (1 : Int32)), .val (.int (0 : Int32)), .val (.int f6), .val (.int f7), .val (.int u0), .val (.int u1), .val (.int v0), .val (.int v1), .val (.ref b150), .val (.ref b198), .val (.ref b200), .unset, .unset, .unset, .unset]) rfl k) ?_
                  obtain ⟨T205, h205, X205, e205, E205, A205, D205, -, st205⟩ := newO X204 hx hZ hown (hw _ (List.mem_of_getElem? (i := 1) rfl)) (hw _ (List.mem_of_getElem? (i := 2) rfl)) (hw _ (List.mem_of_getElem? (i := 3) rfl)) rfl (g := (mkF m 194 #[.val (.int x0), .val (.int x1), .val (.int x2), .val (.int (1 : Int32)), .val (.int (1 : Int32)), .val (.int (0 : Int32)), .val (.int f6), .val (.int f7), .val (.int u0), .val (.int u1), .val (.int v0), .val (.int v1), .val (.ref b150), .val (.ref b198), .val (.ref b200), .unset, .unset, .unset, .unset] [])) rfl (hb hby at_194) (by decide) (by decide)
                  obtain ⟨b205, g205⟩ : ∃ z, z = T204.heap.size := ⟨_, rfl⟩
                  rw [← g205] at A205 D205 st205
                  have ge_b205 : n0 ≤ b205 := Nat.le_trans (Nat.le_trans (Nat.le_trans (Nat.le_trans (Nat.le_trans (Nat.le_trans (Nat.le_trans Z0 E150.1) (Keep.of_wr W151).1) E198.1) (Keep.of_wr W199).1) E200.1) Kc204.1) (Nat.le_of_eq g205.symm)
                  have sz_b205 : h0.size ≤ b205 := Nat.le_trans K204.1 (Nat.le_of_eq g205.symm)
                  have CR205 := CHr.trans CR204 (CHr.ext E205 CR204.1)
                  have K205 : Keep h0 h205 [] := K204.ext E205
                  have Fd205_coder : Fld Z h205 b205 "java/lang/String" "coder" "B" (.int (0 : Int32)) := D205 (Or.inr (hw _ (List.mem_of_getElem? (i := 27) rfl))) (ty := .byte) (by decide)
                  have Fd205_value : Fld Z h205 b205 "java/lang/String" "value" "[B" .null := D205 (Or.inr (hw _ (List.mem_of_getElem? (i := 29) rfl))) (ty := (.array .byte)) (by decide)
                  refine Ends.pre (T' := T205.setTop (mkF m 197 #[.val (.int x0), .val (.int x1), .val (.int x2), .val (.int (1 : Int32)), .val (.int (1 : Int32)), .val (.int (0 : Int32)), .val (.int f6), .val (.int f7), .val (.int u0), .val (.int u1), .val (.int v0), .val (.int v1), .val (.ref b150), .val (.ref b198), .val (.ref b200), .unset, .unset, .unset, .unset] [(.ref b205)])) (fun t k => st205 _ k) ?_
                  refine Ends.pre (fun t k => XS.dup X205.here hx rfl (hb hby at_197) rfl rfl k) ?_
                  refine Ends.pre (fun t k => XS.aload X205.here hx rfl (hb hby at_198) rfl rfl k) ?_
                  have hp206 : ∀ c ∈ ([v0] : List Int32), ¬ c < 0 ∧ ¬ (255 : Int32) < c := (own_alS cv0 own_al0)
                  have hbd206 := own_up _ hp206
                  have F207 : Arv Z h205 b198 k198 .char (1 : Int32) [(.int v0)] (.int (0 : Int32)) := (Arv.ext ((Arv.ext V199 E200).keep Kc204 (ninS (Nat.ne_of_lt (Nat.lt_of_lt_of_le (Nat.lt_of_lt_of_le V198.lt (Keep.of_wr W199).1) (Nat.le_of_eq g200.symm))) nin0)) E205)
                  have F208 : Sta Z h205 "java/lang/String" "COMPACT_STRINGS" "Z" (.int cz) := (Sta_keep0 SCS K205)
                  obtain ⟨_, _, ⟨T209, L209, k209, n209⟩, -, X209, ⟨Lc209, hQ209, l209, y209, z209⟩, st209⟩ := X205.specialBack hx (y := (⟨"java/lang/String", "<init>", "([C)V"⟩ : MethodName)) rfl hown (mvT hZ (hw _ (List.mem_of_getElem? (i := 4) rfl))) (mvT hZ (hw _ (List.mem_of_getElem? (i := 5) rfl))) (mvT hZ (hw _ (List.mem_of_getElem? (i := 6) rfl))) (by decide) (StrChars.Road.backV (W := 1) hZ (own_hws hw) (kI := 4) (hw _ (List.mem_of_getElem? (i := 2) rfl)) (cs := ([v0] : List Int32)) (bs := (([v0] : List Int32).map (fun c => c.toInt8.toInt32))) (n := 1) ge_b205 (Nat.le_trans (Nat.le_trans (Nat.le_trans (Nat.le_trans (Nat.le_trans (Nat.le_trans (Nat.le_trans Z0 E150.1) (Keep.of_wr W151).1) E198.1) (Keep.of_wr W199).1) E200.1) Kc204.1) E205.1) A205 Fd205_value Fd205_coder F207 F208 hcz rfl rfl (by decide) (by decide) hp206 rfl (by decide) (by decide)) (g := (mkF m 200 #[.val (.int x0), .val (.int x1), .val (.int x2), .val (.int (1 : Int32)), .val (.int (1 : Int32)), .val (.int (0 : Int32)), .val (.int f6), .val (.int f7), .val (.int u0), .val (.int u1), .val (.int v0), .val (.int v1), .val (.ref b150), .val (.ref b198), .val (.ref b200), .unset, .unset, .unset, .unset] [(.ref b198), (.ref b205), (.ref b205)])) rfl (by rw [hml]; rfl) (Steps.refl _) (a := b205) (argsL := [(.ref b198)]) (rest := [(.ref b205)]) (lenOf pd_4 rfl) rfl (by show 2 * 0 + _ ≤ _; exact Nat.le_of_eq rfl) (hb hby at_200) (fun _ _ => ⟨rfl, e205, (by decide : 5 + 1 ≤ _), (by decide : 11 + 1 ≤ _)⟩)
                  dsimp only [Pt.U, Pt.locs, Pt.cells, Pt.slots] at X209 l209 y209 z209 st209 hQ209
                  subst l209 y209 z209
                  obtain ⟨rfl, N209q, Kc209, Es209, Cs209, t209, kb209, gt209, ft209, nt209, Vs209, As209⟩ := hQ209
                  have N209 := Fr.app N204 N209q
                  have K209 : Keep h0 T209.heap [] := K205.trans Kc209 (allS (Or.inr sz_b205) all0)
                  have CR209 := CHr.trans CR205 (CHr.keep Kc209 (sfS (Safe.ext E205 CR204.1 (Safe.new (Nat.le_of_eq g205.symm))) sf0) CR205.1)
                  have hcd209 : StrChars.Road.CodA ([v0] : List Int32) 0 (1 : Int32) ((([v0] : List Int32).map (fun c => c.toInt8.toInt32)).map Value.int) := StrChars.Road.codOf (n := 1) rfl (fun c hc => (hp206 c hc).2)
                  refine Ends.pre (T' := T209.setTop (mkF m 203 #[.val (.int x0), .val (.int x1), .val (.int x2), .val (.int (1 : Int32)), .val (.int (1 : Int32)), .val (.int (0 : Int32)), .val (.int f6), .val (.int f7), .val (.int u0), .val (.int u1), .val (.int v0), .val (.int v1), .val (.ref b150), .val (.ref b198), .val (.ref b200), .unset, .unset, .unset, .unset] [(.ref b205)])) (fun t k => st209.trans k) ?_
                  refine Ends.pre (fun t k => XS.astore (g := (mkF m 203 #[.val (.int x0), .val (.int x1), .val (.int x2), .val (.int (1 : Int32)), .val (.int (1 : Int32)), .val (.int (0 : Int32)), .val (.int f6), .val (.int f7), .val (.int u0), .val (.int u1), .val (.int v0), .val (.int v1), .val (.ref b150), .val (.ref b198), .val (.ref b200), .unset, .unset, .unset, .unset] [(.ref b205)])) X209.here hx rfl (hb hby at_203) rfl rfl (l' := #[.val (.int x0), .val (.int x1), .val (.int x2), .val (.int (1 : Int32)), .val (.int (1 : Int32)), .val (.int (0 : Int32)), .val (.int f6), .val (.int f7), .val (.int u0), .val (.int u1), .val (.int v0), .val (.int v1), .val (.ref b150), .val (.ref b198), .val (.ref b200), .val (.ref b205), .unset, .unset, .unset]) rfl k) ?_
                  have J219_210 : ∀ (TJ210 : State) (XJ210 : SS X209 TJ210) (eJ210 : TJ210.heap = T209.heap) (ac : Addr), Jvm.RoadKit.Ends p e below (EndW s room_1 Z consts_1 (Q_rm0 Z x0 x1 x2 wREAD wWRITE cz fm h0 n0)) (TJ210.setTop (mkF m 219 #[.val (.int x0), .val (.int x1), .val (.int x2), .val (.int (1 : Int32)), .val (.int (1 : Int32)), .val (.int (0 : Int32)), .val (.int f6), .val (.int f7), .val (.int u0), .val (.int u1), .val (.int v0), .val (.int v1), .val (.ref b150), .val (.ref b198), .val (.ref b200), .val (.ref b205), .unset, .unset, .unset] [(.ref ac)])) := by
                    intro TJ210 XJ210 eJ210 ac
                    unfold SS at XJ210
                    refine Ends.pre (fun t k => XS.astore (g := (mkF m 219 #[.val (.int x0), .val (.int x1), .val (.int x2), .val (.int (1 : Int32)), .val (.int (1 : Int32)), .val (.int (0 : Int32)), .val (.int f6), .val (.int f7), .val (.int u0), .val (.int u1), .val (.int v0), .val (.int v1), .val (.ref b150), .val (.ref b198), .val (.ref b200), .val (.ref b205), .unset, .unset, .unset] [(.ref ac)])) XJ210.here hx rfl (hb hby at_219) rfl rfl (l' := #[.val (.int x0), .val (.int x1), .val (.int x2), .val (.int (1 : Int32)), .val (.int (1 : Int32)), .val (.int (0 : Int32)), .val (.int f6), .val (.int f7), .val (.int u0), .val (.int u1), .val (.int v0), .val (.int v1), .val (.ref b150), .val (.ref b198), .val (.ref b200), .val (.ref b205), .val (.ref ac), .unset, .unset]) rfl k) ?_
                    obtain ⟨T211, h211, X211, e211, E211, A211, D211, -, st211⟩ := newO XJ210 hx hZ hown (hw _ (List.mem_of_getElem? (i := 36) rfl)) (hw _ (List.mem_of_getElem? (i := 37) rfl)) (hw _ (List.mem_of_getElem? (i := 38) rfl)) eJ210 (g := (mkF m 221 #[.val (.int x0), .val (.int x1), .val (.int x2), .val (.int (1 : Int32)), .val (.int (1 : Int32)), .val (.int (0 : Int32)), .val (.int f6), .val (.int f7), .val (.int u0), .val (.int u1), .val (.int v0), .val (.int v1), .val (.ref b150), .val (.ref b198), .val (.ref b200), .val (.ref b205), .val (.ref ac), .unset, .unset] [])) rfl (hb hby at_221) (by decide) (by decide)
                    obtain ⟨b211, g211⟩ : ∃ z, z = T209.heap.size := ⟨_, rfl⟩
                    rw [← g211] at A211 D211 st211
                    have ge_b211 : n0 ≤ b211 := Nat.le_trans (Nat.le_trans (Nat.le_trans (Nat.le_trans (Nat.le_trans (Nat.le_trans (Nat.le_trans (Nat.le_trans (Nat.le_trans Z0 E150.1) (Keep.of_wr W151).1) E198.1) (Keep.of_wr W199).1) E200.1) Kc204.1) E205.1) Kc209.1) (Nat.le_of_eq g211.symm)
                    have sz_b211 : h0.size ≤ b211 := Nat.le_trans K209.1 (Nat.le_of_eq g211.symm)
                    have CR211 := CHr.trans CR209 (CHr.ext E211 CR209.1)
                    have K211 : Keep h0 h211 [] := K209.ext E211
                    have Fd211_holder : Fld Z h211 b211 "com/example/static_permission_checker/staticpermissionchecker/core/FlowConstraint" "holder" "Ljava/lang/String;" .null := D211 (Or.inr (hw _ (List.mem_of_getElem? (i := 55) rfl))) (ty := (.object "java/lang/String")) (by decide)
                    have Fd211_access : Fld Z h211 b211 "com/example/static_permission_checker/staticpermissionchecker/core/FlowConstraint" "access" "Lcom/example/static_permission_checker/staticpermissionchecker/core/FlowConstraint$Access;" .null := D211 (Or.inr (hw _ (List.mem_of_getElem? (i := 57) rfl))) (ty := (.object "com/example/static_permission_checker/staticpermissionchecker/core/FlowConstraint$Access")) (by decide)
                    have Fd211_guard : Fld Z h211 b211 "com/example/static_permission_checker/staticpermissionchecker/core/FlowConstraint" "guard" "Ljava/lang/String;" .null := D211 (Or.inr (hw _ (List.mem_of_getElem? (i := 59) rfl))) (ty := (.object "java/lang/String")) (by decide)
                    refine Ends.pre (T' := T211.setTop (mkF m 224 #[.val (.int x0), .val (.int x1), .val (.int x2), .val (.int (1 : Int32)), .val (.int (1 : Int32)), .val (.int (0 : Int32)), .val (.int f6), .val (.int f7), .val (.int u0), .val (.int u1), .val (.int v0), .val (.int v1), .val (.ref b150), .val (.ref b198), .val (.ref b200), .val (.ref b205), .val (.ref ac), .unset, .unset] [(.ref b211)])) (fun t k => st211 _ k) ?_
                    refine Ends.pre (fun t k => XS.dup X211.here hx rfl (hb hby at_224) rfl rfl k) ?_
                    refine Ends.pre (fun t k => XS.aload X211.here hx rfl (hb hby at_225) rfl rfl k) ?_
                    refine Ends.pre (fun t k => XS.aload X211.here hx rfl (hb hby at_227) rfl rfl k) ?_
                    refine Ends.pre (fun t k => XS.aload X211.here hx rfl (hb hby at_229) rfl rfl k) ?_
                    obtain ⟨_, _, ⟨T212, L212, k212, n212⟩, -, Xa212, hSa212, ga212, ⟨Lc212, hQ212, l212, y212, z212, CRc212⟩, st212⟩ := X211.specialBackS hx (y := (⟨"com/example/static_permission_checker/staticpermissionchecker/core/FlowConstraint", "<init>", "(Ljava/lang/String;Lcom/example/static_permission_checker/staticpermissionchecker/core/FlowConstraint$Access;Ljava/lang/String;)V"⟩ : MethodName)) rfl hown (mvT hZ (hw _ (List.mem_of_getElem? (i := 39) rfl))) (mvT hZ (hw _ (List.mem_of_getElem? (i := 40) rfl))) (mvT hZ (hw _ (List.mem_of_getElem? (i := 41) rfl))) (by decide) (backOfSH (W := 1) (rm7r l Z a0 hw [] b211 b200 ac b205 h211 n0 (Nat.le_trans (Nat.le_trans (Nat.le_trans (Nat.le_trans (Nat.le_trans (Nat.le_trans (Nat.le_trans (Nat.le_trans (Nat.le_trans Z0 E150.1) (Keep.of_wr W151).1) E198.1) (Keep.of_wr W199).1) E200.1) Kc204.1) E205.1) Kc209.1) E211.1) A211 ge_b211 Fd211_holder Fd211_access Fd211_guard) hZ (hw _ (List.mem_of_getElem? (i := 41) rfl)) (hw _ (List.mem_of_getElem? (i := 38) rfl)) (by decide) (by decide) hEL CR211.1) (g := (mkF m 231 #[.val (.int x0), .val (.int x1), .val (.int x2), .val (.int (1 : Int32)), .val (.int (1 : Int32)), .val (.int (0 : Int32)), .val (.int f6), .val (.int f7), .val (.int u0), .val (.int u1), .val (.int v0), .val (.int v1), .val (.ref b150), .val (.ref b198), .val (.ref b200), .val (.ref b205), .val (.ref ac), .unset, .unset] [(.ref b205), (.ref ac), (.ref b200), (.ref b211), (.ref b211)])) rfl (by rw [hml]; rfl) (Steps.refl _) (a := b211) (argsL := [(.ref b200), (.ref ac), (.ref b205)]) (rest := [(.ref b211)]) (lenOf pd_5 rfl) rfl (by show 2 * 0 + _ ≤ _; exact Nat.le_of_eq rfl) (hb hby at_231) (fun _ _ => ⟨rfl, e211, (by decide : 7 + 4 ≤ _), (by decide : 15 + 52 ≤ _)⟩)
                    dsimp only [Pt.U, Pt.locs, Pt.cells, Pt.slots] at Xa212 hSa212 ga212 l212 y212 z212 st212 hQ212 CRc212
                    subst l212 y212 z212
                    obtain ⟨X212, hS212, hZ212, hown212⟩ := rebS hS0 (n1 := T211.heap.size) (by rw [e211]; exact (Nat.le_trans (Nat.le_trans (Nat.le_trans (Nat.le_trans (Nat.le_trans (Nat.le_trans (Nat.le_trans (Nat.le_trans (Nat.le_trans hk0 E150.1) (Keep.of_wr W151).1) E198.1) (Keep.of_wr W199).1) E200.1) Kc204.1) E205.1) Kc209.1) E211.1)) Xa212 hSa212 ga212 hZ hown
                    obtain ⟨rfl, N212q, Kc212, Ec212, Fh212, Fg212⟩ := hQ212
                    have N212 := Fr.app N209 N212q
                    have K212 : Keep h0 T212.heap [] := K211.trans Kc212 (allS (Or.inr sz_b211) all0)
                    have CR212 := CHr.trans CR211 CRc212
                    refine Ends.pre (T' := T212.setTop (mkF m 234 #[.val (.int x0), .val (.int x1), .val (.int x2), .val (.int (1 : Int32)), .val (.int (1 : Int32)), .val (.int (0 : Int32)), .val (.int f6), .val (.int f7), .val (.int u0), .val (.int u1), .val (.int v0), .val (.int v1), .val (.ref b150), .val (.ref b198), .val (.ref b200), .val (.ref b205), .val (.ref ac), .unset, .unset] [(.ref b211)])) (fun t k => st212.trans k) ?_
                    refine Ends.pre (fun t k => XS.astore (g := (mkF m 234 #[.val (.int x0), .val (.int x1), .val (.int x2), .val (.int (1 : Int32)), .val (.int (1 : Int32)), .val (.int (0 : Int32)), .val (.int f6), .val (.int f7), .val (.int u0), .val (.int u1), .val (.int v0), .val (.int v1), .val (.ref b150), .val (.ref b198), .val (.ref b200), .val (.ref b205), .val (.ref ac), .unset, .unset] [(.ref b211)])) X212.here hx rfl (hb hby at_234) rfl rfl (l' := #[.val (.int x0), .val (.int x1), .val (.int x2), .val (.int (1 : Int32)), .val (.int (1 : Int32)), .val (.int (0 : Int32)), .val (.int f6), .val (.int f7), .val (.int u0), .val (.int u1), .val (.int v0), .val (.int v1), .val (.ref b150), .val (.ref b198), .val (.ref b200), .val (.ref b205), .val (.ref ac), .val (.ref b211), .unset]) rfl k) ?_
                    refine Ends.pre (fun t k => XS.iload X212.here hx rfl (hb hby at_236) rfl k) ?_
                    refine Ends.pre (T' := T212.setTop (mkF m 241 #[.val (.int x0), .val (.int x1), .val (.int x2), .val (.int (1 : Int32)), .val (.int (1 : Int32)), .val (.int (0 : Int32)), .val (.int f6), .val (.int f7), .val (.int u0), .val (.int u1), .val (.int v0), .val (.int v1), .val (.ref b150), .val (.ref b198), .val (.ref b200), .val (.ref b205), .val (.ref ac), .val (.ref b211), .unset] [])) (fun t k => XS.ifNo X212.here hx rfl (hb hby at_238) rfl (by decide) k) ?_
                    refine Ends.pre (fun t k => XS.iloadN X212.here hx rfl (hb hby at_241) rfl k) ?_
                    refine Ends.pre (fun t k => XS.iload X212.here hx rfl (hb hby at_242) rfl k) ?_
                    refine Ends.pre (T' := T212.setTop (mkF m 247 #[.val (.int x0), .val (.int x1), .val (.int x2), .val (.int (1 : Int32)), .val (.int (1 : Int32)), .val (.int (0 : Int32)), .val (.int f6), .val (.int f7), .val (.int u0), .val (.int u1), .val (.int v0), .val (.int v1), .val (.ref b150), .val (.ref b198), .val (.ref b200), .val (.ref b205), .val (.ref ac), .val (.ref b211), .unset] [])) (fun t k => XS.icmpNo X212.here hx rfl (hb hby at_244) rfl (by decide) k) ?_
                    refine Ends.pre (fun t k => XS.iloadN X212.here hx rfl (hb hby at_247) rfl k) ?_
                    refine Ends.pre (fun t k => XS.iconst X212.here hx rfl (hb hby at_248) k) ?_
                    refine Ends.pre (T' := T212.setTop (mkF m 252 #[.val (.int x0), .val (.int x1), .val (.int x2), .val (.int (1 : Int32)), .val (.int (1 : Int32)), .val (.int (0 : Int32)), .val (.int f6), .val (.int f7), .val (.int u0), .val (.int u1), .val (.int v0), .val (.int v1), .val (.ref b150), .val (.ref b198), .val (.ref b200), .val (.ref b205), .val (.ref ac), .val (.ref b211), .unset] [])) (fun t k => XS.icmpNo X212.here hx rfl (hb hby at_249) rfl (by decide) k) ?_
                    refine Ends.pre (fun t k => XS.iload X212.here hx rfl (hb hby at_252) rfl k) ?_
                    refine Ends.pre (fun t k => XS.iload X212.here hx rfl (hb hby at_254) rfl k) ?_
                    by_cases hc256_213 : u0 = v0
                    · refine Ends.pre (T' := T212.setTop (mkF m 259 #[.val (.int x0), .val (.int x1), .val (.int x2), .val (.int (1 : Int32)), .val (.int (1 : Int32)), .val (.int (0 : Int32)), .val (.int f6), .val (.int f7), .val (.int u0), .val (.int u1), .val (.int v0), .val (.int v1), .val (.ref b150), .val (.ref b198), .val (.ref b200), .val (.ref b205), .val (.ref ac), .val (.ref b211), .unset] [])) (fun t k => XS.icmpNo X212.here hx rfl (hb hby at_256) rfl (Jvm.Free.XT.ii_ne_f hc256_213) k) ?_
                      refine Ends.pre (fun t k => XS.iloadN X212.here hx rfl (hb hby at_259) rfl k) ?_
                      refine Ends.pre (fun t k => XS.iconst X212.here hx rfl (hb hby at_260) k) ?_
                      refine Ends.pre (T' := T212.setTop (mkF m 271 #[.val (.int x0), .val (.int x1), .val (.int x2), .val (.int (1 : Int32)), .val (.int (1 : Int32)), .val (.int (0 : Int32)), .val (.int f6), .val (.int f7), .val (.int u0), .val (.int u1), .val (.int v0), .val (.int v1), .val (.ref b150), .val (.ref b198), .val (.ref b200), .val (.ref b205), .val (.ref ac), .val (.ref b211), .unset] [])) (fun t k => XS.icmpYes X212.here hx rfl (pc0 := 261) (pc' := 271) rfl (hb hby at_261) rfl (by decide) (by decide) (by decide) k) ?_
                      refine Ends.pre (fun t k => XS.iconst X212.here hx rfl (hb hby at_271) k) ?_
                      refine Ends.pre (fun t k => XS.goto X212.here hx rfl (pc0 := 272) (pc' := 276) rfl (hb hby at_272) (by decide) (by decide) k) ?_
                      refine Ends.pre (fun t k => XS.istore (g := (mkF m 276 #[.val (.int x0), .val (.int x1), .val (.int x2), .val (.int (1 : Int32)), .val (.int (1 : Int32)), .val (.int (0 : Int32)), .val (.int f6), .val (.int f7), .val (.int u0), .val (.int u1), .val (.int v0), .val (.int v1), .val (.ref b150), .val (.ref b198), .val (.ref b200), .val (.ref b205), .val (.ref ac), .val (.ref b211), .unset] [(.int (1 : Int32))])) X212.here hx rfl (hb hby at_276) rfl (l' := #[.val (.int x0), .val (.int x1), .val (.int x2), .val (.int (1 : Int32)), .val (.int (1 : Int32)), .val (.int (0 : Int32)), .val (.int f6), .val (.int f7), .val (.int u0), .val (.int u1), .val (.int v0), .val (.int v1), .val (.ref b150), .val (.ref b198), .val (.ref b200), .val (.ref b205), .val (.ref ac), .val (.ref b211), .val (.int (1 : Int32))]) rfl k) ?_
                      refine Ends.pre (fun t k => XS.aload X212.here hx rfl (hb hby at_278) rfl rfl k) ?_
                      have F214 : Exa Z T212.heap b205 "java/lang/String" := ((Es209.ext E211).keep Kc212)
                      have F215 : Fld Z T212.heap b205 "java/lang/String" "value" "[B" (.ref t209) := ((Vs209.ext E211).keep Kc212 (ninS (Nat.ne_of_lt (Nat.lt_of_lt_of_le (Nat.lt_of_lt_of_le A205.lt Kc209.1) (Nat.le_of_eq g211.symm))) nin0))
                      have F216 : Fld Z T212.heap b205 "java/lang/String" "coder" "B" (.int 0) := ((Cs209.ext E211).keep Kc212 (ninS (Nat.ne_of_lt (Nat.lt_of_lt_of_le (Nat.lt_of_lt_of_le A205.lt Kc209.1) (Nat.le_of_eq g211.symm))) nin0))
                      have F217 : Arv Z T212.heap t209 kb209 .byte (1 : Int32) ((([v0] : List Int32).map (fun c => c.toInt8.toInt32)).map Value.int) (.int 0) := ((Arv.ext As209 E211).keep Kc212 (ninS (Nat.ne_of_lt (Nat.lt_of_lt_of_le As209.lt (Nat.le_of_eq g211.symm))) nin0))
                      have F218 : Exa Z T212.heap b200 "java/lang/String" := ((((Es204.ext E205).keep Kc209).ext E211).keep Kc212)
                      have F219 : Fld Z T212.heap b200 "java/lang/String" "value" "[B" (.ref t204) := ((((Vs204.ext E205).keep Kc209 (ninS (Nat.ne_of_lt (Nat.lt_of_lt_of_le (Nat.lt_of_lt_of_le A200.lt Kc204.1) (Nat.le_of_eq g205.symm))) nin0)).ext E211).keep Kc212 (ninS (Nat.ne_of_lt (Nat.lt_of_lt_of_le (Nat.lt_of_lt_of_le (Nat.lt_of_lt_of_le (Nat.lt_of_lt_of_le A200.lt Kc204.1) E205.1) Kc209.1) (Nat.le_of_eq g211.symm))) nin0))
                      have F220 : Fld Z T212.heap b200 "java/lang/String" "coder" "B" (.int 0) := ((((Cs204.ext E205).keep Kc209 (ninS (Nat.ne_of_lt (Nat.lt_of_lt_of_le (Nat.lt_of_lt_of_le A200.lt Kc204.1) (Nat.le_of_eq g205.symm))) nin0)).ext E211).keep Kc212 (ninS (Nat.ne_of_lt (Nat.lt_of_lt_of_le (Nat.lt_of_lt_of_le (Nat.lt_of_lt_of_le (Nat.lt_of_lt_of_le A200.lt Kc204.1) E205.1) Kc209.1) (Nat.le_of_eq g211.symm))) nin0))
                      have F221 : Arv Z T212.heap t204 kb204 .byte (1 : Int32) ((([u0] : List Int32).map (fun c => c.toInt8.toInt32)).map Value.int) (.int 0) := ((Arv.ext ((Arv.ext As204 E205).keep Kc209 (ninS (Nat.ne_of_lt (Nat.lt_of_lt_of_le As204.lt (Nat.le_of_eq g205.symm))) nin0)) E211).keep Kc212 (ninS (Nat.ne_of_lt (Nat.lt_of_lt_of_le (Nat.lt_of_lt_of_le (Nat.lt_of_lt_of_le As204.lt E205.1) Kc209.1) (Nat.le_of_eq g211.symm))) nin0))
                      have F222 : Sta Z T212.heap "java/lang/String" "COMPACT_STRINGS" "Z" (.int cz) := (Sta_keep0 SCS K212)
                      have F223 : Sta Z T212.heap "jdk/internal/util/Preconditions" "SIOOBE_FORMATTER" "Ljava/util/function/BiFunction;" fm := (Sta_keep0 SFM K212)
                      obtain ⟨cq224, kq224, q224a, q224b, q224c⟩ := isOf hZ212 rfl Ec212
                      obtain ⟨_, _, ⟨T224, L224, k224, n224⟩, -, X224, ⟨Lc224, hQ224, l224, y224, z224⟩, st224⟩ := X212.virtualBack hx (y := (⟨"com/example/static_permission_checker/staticpermissionchecker/core/FlowConstraint", "holds", "()Z"⟩ : MethodName)) (z := (⟨"com/example/static_permission_checker/staticpermissionchecker/core/FlowConstraint", "holds", "()Z"⟩ : MethodName)) hown212 (mvT hZ212 (hw _ (List.mem_of_getElem? (i := 60) rfl))) (mvT hZ212 (hw _ (List.mem_of_getElem? (i := 61) rfl))) (notFace_of_selects (args := #[]) (mvT hZ212 (hw _ (List.mem_of_getElem? (i := 63) rfl)))) (mvT hZ212 (hw _ (List.mem_of_getElem? (i := 63) rfl))) (mvT hZ212 (hw _ (List.mem_of_getElem? (i := 62) rfl))) (by decide) (backOf (W := 0) (rm10y l Z a0 hw [] b211 b205 t209 kb209 ([v0] : List Int32) (1 : Int32) _ b200 t204 kb204 ([u0] : List Int32) (1 : Int32) _ cz fm T212.heap n0 (Nat.le_trans (Nat.le_trans (Nat.le_trans (Nat.le_trans (Nat.le_trans (Nat.le_trans (Nat.le_trans (Nat.le_trans (Nat.le_trans (Nat.le_trans Z0 E150.1) (Keep.of_wr W151).1) E198.1) (Keep.of_wr W199).1) E200.1) Kc204.1) E205.1) Kc209.1) E211.1) Kc212.1) F214 F216 F215 F217 hcd209 hbd206 (Nat.le_of_ble_eq_true rfl) F218 F220 F219 F221 hcd204 hbd201 (Nat.le_of_ble_eq_true rfl) Fh212 Fg212 F222 hcz F223 hfm (by rw [hc256_213])) hZ212 (hw _ (List.mem_of_getElem? (i := 64) rfl)) (hw _ (List.mem_of_getElem? (i := 38) rfl)) (by decide) (by decide)) q224a q224c (g := (mkF m 280 #[.val (.int x0), .val (.int x1), .val (.int x2), .val (.int (1 : Int32)), .val (.int (1 : Int32)), .val (.int (0 : Int32)), .val (.int f6), .val (.int f7), .val (.int u0), .val (.int u1), .val (.int v0), .val (.int v1), .val (.ref b150), .val (.ref b198), .val (.ref b200), .val (.ref b205), .val (.ref ac), .val (.ref b211), .val (.int (1 : Int32))] [(.ref b211)])) rfl (by rw [hml]; rfl) (Steps.refl _) (argsL := []) (rest := []) (lenOf pd_6 rfl) rfl (by show 2 * 0 + _ ≤ _; exact Nat.le_of_eq rfl) (hb hby at_280) (fun _ _ => ⟨rfl, rfl, (by decide : 11 + 0 ≤ _), (by decide : 67 + 0 ≤ _)⟩)
                      dsimp only [Pt.U, Pt.locs, Pt.cells, Pt.slots] at X224 l224 y224 z224 st224 hQ224
                      subst l224 y224 z224
                      obtain ⟨rfl, N224q, eh224⟩ := hQ224
                      have N224 := Fr.app N212 N224q
                      refine Ends.pre (T' := T224.setTop (mkF m 283 #[.val (.int x0), .val (.int x1), .val (.int x2), .val (.int (1 : Int32)), .val (.int (1 : Int32)), .val (.int (0 : Int32)), .val (.int f6), .val (.int f7), .val (.int u0), .val (.int u1), .val (.int v0), .val (.int v1), .val (.ref b150), .val (.ref b198), .val (.ref b200), .val (.ref b205), .val (.ref ac), .val (.ref b211), .val (.int (1 : Int32))] [(.int (1 : Int32))])) (fun t k => st224.trans k) ?_
                      refine Ends.pre (fun t k => XS.iload X224.here hx rfl (hb hby at_283) rfl k) ?_
                      refine Ends.pre (T' := T224.setTop (mkF m 288 #[.val (.int x0), .val (.int x1), .val (.int x2), .val (.int (1 : Int32)), .val (.int (1 : Int32)), .val (.int (0 : Int32)), .val (.int f6), .val (.int f7), .val (.int u0), .val (.int u1), .val (.int v0), .val (.int v1), .val (.ref b150), .val (.ref b198), .val (.ref b200), .val (.ref b205), .val (.ref ac), .val (.ref b211), .val (.int (1 : Int32))] [])) (fun t k => XS.icmpNo X224.here hx rfl (hb hby at_285) rfl (by decide) k) ?_
                      refine Ends.pre (fun t k => XS.iconst X224.here hx rfl (hb hby at_288) k) ?_
                      refine Ends.pre (fun t k => XS.goto X224.here hx rfl (pc0 := 289) (pc' := 293) rfl (hb hby at_289) (by decide) (by decide) k) ?_
                      exact Ends.retW (w := (.int (1 : Int32))) X224 hx Bd.notSynchronized Bd.returns rfl (Or.inl ⟨rfl, Or.inr (Or.inl rfl), _, rfl⟩) (hb hby at_293) eh224 hZ212 hEL hS212 (Nat.le_refl _) hh CR212 ⟨rfl, N224⟩ (by decide) (by decide)
                    · refine Ends.pre (T' := T212.setTop (mkF m 275 #[.val (.int x0), .val (.int x1), .val (.int x2), .val (.int (1 : Int32)), .val (.int (1 : Int32)), .val (.int (0 : Int32)), .val (.int f6), .val (.int f7), .val (.int u0), .val (.int u1), .val (.int v0), .val (.int v1), .val (.ref b150), .val (.ref b198), .val (.ref b200), .val (.ref b205), .val (.ref ac), .val (.ref b211), .unset] [])) (fun t k => XS.icmpYes X212.here hx rfl (pc0 := 256) (pc' := 275) rfl (hb hby at_256) rfl (Jvm.Free.XT.ii_ne_t hc256_213) (by decide) (by decide) k) ?_
                      refine Ends.pre (fun t k => XS.iconst X212.here hx rfl (hb hby at_275) k) ?_
                      refine Ends.pre (fun t k => XS.istore (g := (mkF m 276 #[.val (.int x0), .val (.int x1), .val (.int x2), .val (.int (1 : Int32)), .val (.int (1 : Int32)), .val (.int (0 : Int32)), .val (.int f6), .val (.int f7), .val (.int u0), .val (.int u1), .val (.int v0), .val (.int v1), .val (.ref b150), .val (.ref b198), .val (.ref b200), .val (.ref b205), .val (.ref ac), .val (.ref b211), .unset] [(.int (0 : Int32))])) X212.here hx rfl (hb hby at_276) rfl (l' := #[.val (.int x0), .val (.int x1), .val (.int x2), .val (.int (1 : Int32)), .val (.int (1 : Int32)), .val (.int (0 : Int32)), .val (.int f6), .val (.int f7), .val (.int u0), .val (.int u1), .val (.int v0), .val (.int v1), .val (.ref b150), .val (.ref b198), .val (.ref b200), .val (.ref b205), .val (.ref ac), .val (.ref b211), .val (.int (0 : Int32))]) rfl k) ?_
                      refine Ends.pre (fun t k => XS.aload X212.here hx rfl (hb hby at_278) rfl rfl k) ?_
                      have F225 : Exa Z T212.heap b205 "java/lang/String" := ((Es209.ext E211).keep Kc212)
                      have F226 : Fld Z T212.heap b205 "java/lang/String" "value" "[B" (.ref t209) := ((Vs209.ext E211).keep Kc212 (ninS (Nat.ne_of_lt (Nat.lt_of_lt_of_le (Nat.lt_of_lt_of_le A205.lt Kc209.1) (Nat.le_of_eq g211.symm))) nin0))
                      have F227 : Fld Z T212.heap b205 "java/lang/String" "coder" "B" (.int 0) := ((Cs209.ext E211).keep Kc212 (ninS (Nat.ne_of_lt (Nat.lt_of_lt_of_le (Nat.lt_of_lt_of_le A205.lt Kc209.1) (Nat.le_of_eq g211.symm))) nin0))
                      have F228 : Arv Z T212.heap t209 kb209 .byte (1 : Int32) ((([v0] : List Int32).map (fun c => c.toInt8.toInt32)).map Value.int) (.int 0) := ((Arv.ext As209 E211).keep Kc212 (ninS (Nat.ne_of_lt (Nat.lt_of_lt_of_le As209.lt (Nat.le_of_eq g211.symm))) nin0))
                      have F229 : Exa Z T212.heap b200 "java/lang/String" := ((((Es204.ext E205).keep Kc209).ext E211).keep Kc212)
                      have F230 : Fld Z T212.heap b200 "java/lang/String" "value" "[B" (.ref t204) := ((((Vs204.ext E205).keep Kc209 (ninS (Nat.ne_of_lt (Nat.lt_of_lt_of_le (Nat.lt_of_lt_of_le A200.lt Kc204.1) (Nat.le_of_eq g205.symm))) nin0)).ext E211).keep Kc212 (ninS (Nat.ne_of_lt (Nat.lt_of_lt_of_le (Nat.lt_of_lt_of_le (Nat.lt_of_lt_of_le (Nat.lt_of_lt_of_le A200.lt Kc204.1) E205.1) Kc209.1) (Nat.le_of_eq g211.symm))) nin0))
                      have F231 : Fld Z T212.heap b200 "java/lang/String" "coder" "B" (.int 0) := ((((Cs204.ext E205).keep Kc209 (ninS (Nat.ne_of_lt (Nat.lt_of_lt_of_le (Nat.lt_of_lt_of_le A200.lt Kc204.1) (Nat.le_of_eq g205.symm))) nin0)).ext E211).keep Kc212 (ninS (Nat.ne_of_lt (Nat.lt_of_lt_of_le (Nat.lt_of_lt_of_le (Nat.lt_of_lt_of_le (Nat.lt_of_lt_of_le A200.lt Kc204.1) E205.1) Kc209.1) (Nat.le_of_eq g211.symm))) nin0))
                      have F232 : Arv Z T212.heap t204 kb204 .byte (1 : Int32) ((([u0] : List Int32).map (fun c => c.toInt8.toInt32)).map Value.int) (.int 0) := ((Arv.ext ((Arv.ext As204 E205).keep Kc209 (ninS (Nat.ne_of_lt (Nat.lt_of_lt_of_le As204.lt (Nat.le_of_eq g205.symm))) nin0)) E211).keep Kc212 (ninS (Nat.ne_of_lt (Nat.lt_of_lt_of_le (Nat.lt_of_lt_of_le (Nat.lt_of_lt_of_le As204.lt E205.1) Kc209.1) (Nat.le_of_eq g211.symm))) nin0))
                      have F233 : Sta Z T212.heap "java/lang/String" "COMPACT_STRINGS" "Z" (.int cz) := (Sta_keep0 SCS K212)
                      have F234 : Sta Z T212.heap "jdk/internal/util/Preconditions" "SIOOBE_FORMATTER" "Ljava/util/function/BiFunction;" fm := (Sta_keep0 SFM K212)
                      obtain ⟨cq235, kq235, q235a, q235b, q235c⟩ := isOf hZ212 rfl Ec212
                      obtain ⟨_, _, ⟨T235, L235, k235, n235⟩, -, X235, ⟨Lc235, hQ235, l235, y235, z235⟩, st235⟩ := X212.virtualBack hx (y := (⟨"com/example/static_permission_checker/staticpermissionchecker/core/FlowConstraint", "holds", "()Z"⟩ : MethodName)) (z := (⟨"com/example/static_permission_checker/staticpermissionchecker/core/FlowConstraint", "holds", "()Z"⟩ : MethodName)) hown212 (mvT hZ212 (hw _ (List.mem_of_getElem? (i := 60) rfl))) (mvT hZ212 (hw _ (List.mem_of_getElem? (i := 61) rfl))) (notFace_of_selects (args := #[]) (mvT hZ212 (hw _ (List.mem_of_getElem? (i := 63) rfl)))) (mvT hZ212 (hw _ (List.mem_of_getElem? (i := 63) rfl))) (mvT hZ212 (hw _ (List.mem_of_getElem? (i := 62) rfl))) (by decide) (backOf (W := 0) (rm10d l Z a0 hw [] b211 b205 t209 kb209 ([v0] : List Int32) (1 : Int32) _ b200 t204 kb204 ([u0] : List Int32) (1 : Int32) _ cz fm T212.heap n0 (Nat.le_trans (Nat.le_trans (Nat.le_trans (Nat.le_trans (Nat.le_trans (Nat.le_trans (Nat.le_trans (Nat.le_trans (Nat.le_trans (Nat.le_trans Z0 E150.1) (Keep.of_wr W151).1) E198.1) (Keep.of_wr W199).1) E200.1) Kc204.1) E205.1) Kc209.1) E211.1) Kc212.1) F225 F227 F226 F228 hcd209 hbd206 (Nat.le_of_ble_eq_true rfl) F229 F231 F230 F232 hcd204 hbd201 (Nat.le_of_ble_eq_true rfl) Fh212 Fg212 F233 hcz F234 hfm (fun q => hc256_213 (List.cons.inj q).1.symm)) hZ212 (hw _ (List.mem_of_getElem? (i := 64) rfl)) (hw _ (List.mem_of_getElem? (i := 38) rfl)) (by decide) (by decide)) q235a q235c (g := (mkF m 280 #[.val (.int x0), .val (.int x1), .val (.int x2), .val (.int (1 : Int32)), .val (.int (1 : Int32)), .val (.int (0 : Int32)), .val (.int f6), .val (.int f7), .val (.int u0), .val (.int u1), .val (.int v0), .val (.int v1), .val (.ref b150), .val (.ref b198), .val (.ref b200), .val (.ref b205), .val (.ref ac), .val (.ref b211), .val (.int (0 : Int32))] [(.ref b211)])) rfl (by rw [hml]; rfl) (Steps.refl _) (argsL := []) (rest := []) (lenOf pd_6 rfl) rfl (by show 2 * 0 + _ ≤ _; exact Nat.le_of_eq rfl) (hb hby at_280) (fun _ _ => ⟨rfl, rfl, (by decide : 11 + 0 ≤ _), (by decide : 67 + 0 ≤ _)⟩)
                      dsimp only [Pt.U, Pt.locs, Pt.cells, Pt.slots] at X235 l235 y235 z235 st235 hQ235
                      subst l235 y235 z235
                      obtain ⟨rfl, N235q, eh235⟩ := hQ235
                      have N235 := Fr.app N212 N235q
                      refine Ends.pre (T' := T235.setTop (mkF m 283 #[.val (.int x0), .val (.int x1), .val (.int x2), .val (.int (1 : Int32)), .val (.int (1 : Int32)), .val (.int (0 : Int32)), .val (.int f6), .val (.int f7), .val (.int u0), .val (.int u1), .val (.int v0), .val (.int v1), .val (.ref b150), .val (.ref b198), .val (.ref b200), .val (.ref b205), .val (.ref ac), .val (.ref b211), .val (.int (0 : Int32))] [(.int (0 : Int32))])) (fun t k => st235.trans k) ?_
                      refine Ends.pre (fun t k => XS.iload X235.here hx rfl (hb hby at_283) rfl k) ?_
                      refine Ends.pre (T' := T235.setTop (mkF m 288 #[.val (.int x0), .val (.int x1), .val (.int x2), .val (.int (1 : Int32)), .val (.int (1 : Int32)), .val (.int (0 : Int32)), .val (.int f6), .val (.int f7), .val (.int u0), .val (.int u1), .val (.int v0), .val (.int v1), .val (.ref b150), .val (.ref b198), .val (.ref b200), .val (.ref b205), .val (.ref ac), .val (.ref b211), .val (.int (0 : Int32))] [])) (fun t k => XS.icmpNo X235.here hx rfl (hb hby at_285) rfl (by decide) k) ?_
                      refine Ends.pre (fun t k => XS.iconst X235.here hx rfl (hb hby at_288) k) ?_
                      refine Ends.pre (fun t k => XS.goto X235.here hx rfl (pc0 := 289) (pc' := 293) rfl (hb hby at_289) (by decide) (by decide) k) ?_
                      exact Ends.retW (w := (.int (1 : Int32))) X235 hx Bd.notSynchronized Bd.returns rfl (Or.inl ⟨rfl, Or.inr (Or.inl rfl), _, rfl⟩) (hb hby at_293) eh235 hZ212 hEL hS212 (Nat.le_refl _) hh CR212 ⟨rfl, N235⟩ (by decide) (by decide)
                  refine Ends.pre (fun t k => XS.iload X209.here hx rfl (hb hby at_205) rfl k) ?_
                  by_cases hc207_236 : f7 = 0
                  · refine Ends.pre (T' := T209.setTop (mkF m 216 #[.val (.int x0), .val (.int x1), .val (.int x2), .val (.int (1 : Int32)), .val (.int (1 : Int32)), .val (.int (0 : Int32)), .val (.int f6), .val (.int f7), .val (.int u0), .val (.int u1), .val (.int v0), .val (.int v1), .val (.ref b150), .val (.ref b198), .val (.ref b200), .val (.ref b205), .unset, .unset, .unset] [])) (fun t k => XS.ifYes X209.here hx rfl (pc0 := 207) (pc' := 216) rfl (hb hby at_207) rfl (Jvm.Free.XT.i0_eq_t hc207_236) (by decide) (by decide) k) ?_
                    have F237 : Sta Z T209.heap "com/example/static_permission_checker/staticpermissionchecker/core/FlowConstraint$Access" "READ" "Lcom/example/static_permission_checker/staticpermissionchecker/core/FlowConstraint$Access;" (.ref wREAD) := (Sta_keep0 S_READ K209)
                    obtain ⟨T238, X238, e238, st238⟩ := getS2 X209 hx hZ hown (host := "") (Or.inl (hw _ (List.mem_of_getElem? (i := 33) rfl))) Via.refl rfl F237 (g := (mkF m 216 #[.val (.int x0), .val (.int x1), .val (.int x2), .val (.int (1 : Int32)), .val (.int (1 : Int32)), .val (.int (0 : Int32)), .val (.int f6), .val (.int f7), .val (.int u0), .val (.int u1), .val (.int v0), .val (.int v1), .val (.ref b150), .val (.ref b198), .val (.ref b200), .val (.ref b205), .unset, .unset, .unset] [])) rfl (hb hby at_216)
                    refine Ends.pre (T' := T238.setTop (mkF m 219 #[.val (.int x0), .val (.int x1), .val (.int x2), .val (.int (1 : Int32)), .val (.int (1 : Int32)), .val (.int (0 : Int32)), .val (.int f6), .val (.int f7), .val (.int u0), .val (.int u1), .val (.int v0), .val (.int v1), .val (.ref b150), .val (.ref b198), .val (.ref b200), .val (.ref b205), .unset, .unset, .unset] [(.ref wREAD)])) (fun t k => st238 _ k) ?_
                    exact J219_210 T238 X238 e238 wREAD
                  · refine Ends.pre (T' := T209.setTop (mkF m 210 #[.val (.int x0), .val (.int x1), .val (.int x2), .val (.int (1 : Int32)), .val (.int (1 : Int32)), .val (.int (0 : Int32)), .val (.int f6), .val (.int f7), .val (.int u0), .val (.int u1), .val (.int v0), .val (.int v1), .val (.ref b150), .val (.ref b198), .val (.ref b200), .val (.ref b205), .unset, .unset, .unset] [])) (fun t k => XS.ifNo X209.here hx rfl (hb hby at_207) rfl (Jvm.Free.XT.i0_eq_f hc207_236) k) ?_
                    have F239 : Sta Z T209.heap "com/example/static_permission_checker/staticpermissionchecker/core/FlowConstraint$Access" "WRITE" "Lcom/example/static_permission_checker/staticpermissionchecker/core/FlowConstraint$Access;" (.ref wWRITE) := (Sta_keep0 S_WRITE K209)
                    obtain ⟨T240, X240, e240, st240⟩ := getS2 X209 hx hZ hown (host := "") (Or.inl (hw _ (List.mem_of_getElem? (i := 75) rfl))) Via.refl rfl F239 (g := (mkF m 210 #[.val (.int x0), .val (.int x1), .val (.int x2), .val (.int (1 : Int32)), .val (.int (1 : Int32)), .val (.int (0 : Int32)), .val (.int f6), .val (.int f7), .val (.int u0), .val (.int u1), .val (.int v0), .val (.int v1), .val (.ref b150), .val (.ref b198), .val (.ref b200), .val (.ref b205), .unset, .unset, .unset] [])) rfl (hb hby at_210)
                    refine Ends.pre (T' := T240.setTop (mkF m 213 #[.val (.int x0), .val (.int x1), .val (.int x2), .val (.int (1 : Int32)), .val (.int (1 : Int32)), .val (.int (0 : Int32)), .val (.int f6), .val (.int f7), .val (.int u0), .val (.int u1), .val (.int v0), .val (.int v1), .val (.ref b150), .val (.ref b198), .val (.ref b200), .val (.ref b205), .unset, .unset, .unset] [(.ref wWRITE)])) (fun t k => st240 _ k) ?_
                    refine Ends.pre (fun t k => XS.goto X240.here hx rfl (pc0 := 213) (pc' := 219) rfl (hb hby at_213) (by decide) (by decide) k) ?_
                    exact J219_210 T240 X240 e240 wWRITE
                · refine Ends.pre (fun t k => XS.iload X199.here hx rfl (hb hby at_174) rfl k) ?_
                  refine Ends.pre (T' := T199.setTop (mkF m 179 #[.val (.int x0), .val (.int x1), .val (.int x2), .val (.int (1 : Int32)), .val (.int (1 : Int32)), .val (.int (1 : Int32)), .val (.int f6), .val (.int f7), .val (.int u0), .val (.int u1), .val (.int v0), .val (.int v1), .val (.ref b150), .val (.ref b198), .unset, .unset, .unset, .unset, .unset] [])) (fun t k => XS.ifNo X199.here hx rfl (hb hby at_176) rfl (by decide) k) ?_
                  refine Ends.pre (fun t k => XS.aconstNull X199.here hx rfl (hb hby at_179) k) ?_
                  refine Ends.pre (fun t k => XS.goto X199.here hx rfl (pc0 := 180) (pc' := 192) rfl (hb hby at_180) (by decide) (by decide) k) ?_
                  refine Ends.pre (fun t k => XS.astore (g := (mkF m 192 #[.val (.int x0), .val (.int x1), .val (.int x2), .val (.int (1 : Int32)), .val (.int (1 : Int32)), .val (.int (1 : Int32)), .val (.int f6), .val (.int f7), .val (.int u0), .val (.int u1), .val (.int v0), .val (.int v1), .val (.ref b150), .val (.ref b198), .unset, .unset, .unset, .unset, .unset] [.null])) X199.here hx rfl (hb hby at_192) rfl rfl (l' := #[.val (.int x0), .val (.int x1), .val (.int x2), .val (.int (1 : Int32)), .val (.int (1 : Int32)), .val (.int (1 : Int32)), .val (.int f6), .val (.int f7), .val (.int u0), .val (.int u1), .val (.int v0), .val (.int v1), .val (.ref b150), .val (.ref b198), .val .null, .unset, .unset, .unset, .unset]) rfl k) ?_
                  obtain ⟨T241, h241, X241, e241, E241, A241, D241, -, st241⟩ := newO X199 hx hZ hown (hw _ (List.mem_of_getElem? (i := 1) rfl)) (hw _ (List.mem_of_getElem? (i := 2) rfl)) (hw _ (List.mem_of_getElem? (i := 3) rfl)) e199 (g := (mkF m 194 #[.val (.int x0), .val (.int x1), .val (.int x2), .val (.int (1 : Int32)), .val (.int (1 : Int32)), .val (.int (1 : Int32)), .val (.int f6), .val (.int f7), .val (.int u0), .val (.int u1), .val (.int v0), .val (.int v1), .val (.ref b150), .val (.ref b198), .val .null, .unset, .unset, .unset, .unset] [])) rfl (hb hby at_194) (by decide) (by decide)
                  obtain ⟨b241, g241⟩ : ∃ z, z = h199.size := ⟨_, rfl⟩
                  rw [← g241] at A241 D241 st241
                  have ge_b241 : n0 ≤ b241 := Nat.le_trans (Nat.le_trans (Nat.le_trans (Nat.le_trans (Nat.le_trans Z0 E150.1) (Keep.of_wr W151).1) E198.1) (Keep.of_wr W199).1) (Nat.le_of_eq g241.symm)
                  have sz_b241 : h0.size ≤ b241 := Nat.le_trans K199.1 (Nat.le_of_eq g241.symm)
                  have CR241 := CHr.trans CR199 (CHr.ext E241 CR199.1)
                  have K241 : Keep h0 h241 [] := K199.ext E241
                  have Fd241_coder : Fld Z h241 b241 "java/lang/String" "coder" "B" (.int (0 : Int32)) := D241 (Or.inr (hw _ (List.mem_of_getElem? (i := 27) rfl))) (ty := .byte) (by decide)
                  have Fd241_value : Fld Z h241 b241 "java/lang/String" "value" "[B" .null := D241 (Or.inr (hw _ (List.mem_of_getElem? (i := 29) rfl))) (ty := (.array .byte)) (by decide)
                  refine Ends.pre (T' := T241.setTop (mkF m 197 #[.val (.int x0), .val (.int x1), .val (.int x2), .val (.int (1 : Int32)), .val (.int (1 : Int32)), .val (.int (1 : Int32)), .val (.int f6), .val (.int f7), .val (.int u0), .val (.int u1), .val (.int v0), .val (.int v1), .val (.ref b150), .val (.ref b198), .val .null, .unset, .unset, .unset, .unset] [(.ref b241)])) (fun t k => st241 _ k) ?_
                  refine Ends.pre (fun t k => XS.dup X241.here hx rfl (hb hby at_197) rfl rfl k) ?_
                  refine Ends.pre (fun t k => XS.aload X241.here hx rfl (hb hby at_198) rfl rfl k) ?_
                  have hp242 : ∀ c ∈ ([v0] : List Int32), ¬ c < 0 ∧ ¬ (255 : Int32) < c := (own_alS cv0 own_al0)
                  have hbd242 := own_up _ hp242
                  have F243 : Arv Z h241 b198 k198 .char (1 : Int32) [(.int v0)] (.int (0 : Int32)) := (Arv.ext V199 E241)
                  have F244 : Sta Z h241 "java/lang/String" "COMPACT_STRINGS" "Z" (.int cz) := (Sta_keep0 SCS K241)
                  obtain ⟨_, _, ⟨T245, L245, k245, n245⟩, -, X245, ⟨Lc245, hQ245, l245, y245, z245⟩, st245⟩ := X241.specialBack hx (y := (⟨"java/lang/String", "<init>", "([C)V"⟩ : MethodName)) rfl hown (mvT hZ (hw _ (List.mem_of_getElem? (i := 4) rfl))) (mvT hZ (hw _ (List.mem_of_getElem? (i := 5) rfl))) (mvT hZ (hw _ (List.mem_of_getElem? (i := 6) rfl))) (by decide) (StrChars.Road.backV (W := 1) hZ (own_hws hw) (kI := 4) (hw _ (List.mem_of_getElem? (i := 2) rfl)) (cs := ([v0] : List Int32)) (bs := (([v0] : List Int32).map (fun c => c.toInt8.toInt32))) (n := 1) ge_b241 (Nat.le_trans (Nat.le_trans (Nat.le_trans (Nat.le_trans (Nat.le_trans Z0 E150.1) (Keep.of_wr W151).1) E198.1) (Keep.of_wr W199).1) E241.1) A241 Fd241_value Fd241_coder F243 F244 hcz rfl rfl (by decide) (by decide) hp242 rfl (by decide) (by decide)) (g := (mkF m 200 #[.val (.int x0), .val (.int x1), .val (.int x2), .val (.int (1 : Int32)), .val (.int (1 : Int32)), .val (.int (1 : Int32)), .val (.int f6), .val (.int f7), .val (.int u0), .val (.int u1), .val (.int v0), .val (.int v1), .val (.ref b150), .val (.ref b198), .val .null, .unset, .unset, .unset, .unset] [(.ref b198), (.ref b241), (.ref b241)])) rfl (by rw [hml]; rfl) (Steps.refl _) (a := b241) (argsL := [(.ref b198)]) (rest := [(.ref b241)]) (lenOf pd_4 rfl) rfl (by show 2 * 0 + _ ≤ _; exact Nat.le_of_eq rfl) (hb hby at_200) (fun _ _ => ⟨rfl, e241, (by decide : 3 + 1 ≤ _), (by decide : 6 + 1 ≤ _)⟩)
                  dsimp only [Pt.U, Pt.locs, Pt.cells, Pt.slots] at X245 l245 y245 z245 st245 hQ245
                  subst l245 y245 z245
                  obtain ⟨rfl, N245q, Kc245, Es245, Cs245, t245, kb245, gt245, ft245, nt245, Vs245, As245⟩ := hQ245
                  have N245 := Fr.app N199 N245q
                  have K245 : Keep h0 T245.heap [] := K241.trans Kc245 (allS (Or.inr sz_b241) all0)
                  have CR245 := CHr.trans CR241 (CHr.keep Kc245 (sfS (Safe.ext E241 CR199.1 (Safe.new (Nat.le_of_eq g241.symm))) sf0) CR241.1)
                  have hcd245 : StrChars.Road.CodA ([v0] : List Int32) 0 (1 : Int32) ((([v0] : List Int32).map (fun c => c.toInt8.toInt32)).map Value.int) := StrChars.Road.codOf (n := 1) rfl (fun c hc => (hp242 c hc).2)
                  refine Ends.pre (T' := T245.setTop (mkF m 203 #[.val (.int x0), .val (.int x1), .val (.int x2), .val (.int (1 : Int32)), .val (.int (1 : Int32)), .val (.int (1 : Int32)), .val (.int f6), .val (.int f7), .val (.int u0), .val (.int u1), .val (.int v0), .val (.int v1), .val (.ref b150), .val (.ref b198), .val .null, .unset, .unset, .unset, .unset] [(.ref b241)])) (fun t k => st245.trans k) ?_
                  refine Ends.pre (fun t k => XS.astore (g := (mkF m 203 #[.val (.int x0), .val (.int x1), .val (.int x2), .val (.int (1 : Int32)), .val (.int (1 : Int32)), .val (.int (1 : Int32)), .val (.int f6), .val (.int f7), .val (.int u0), .val (.int u1), .val (.int v0), .val (.int v1), .val (.ref b150), .val (.ref b198), .val .null, .unset, .unset, .unset, .unset] [(.ref b241)])) X245.here hx rfl (hb hby at_203) rfl rfl (l' := #[.val (.int x0), .val (.int x1), .val (.int x2), .val (.int (1 : Int32)), .val (.int (1 : Int32)), .val (.int (1 : Int32)), .val (.int f6), .val (.int f7), .val (.int u0), .val (.int u1), .val (.int v0), .val (.int v1), .val (.ref b150), .val (.ref b198), .val .null, .val (.ref b241), .unset, .unset, .unset]) rfl k) ?_
                  have J219_246 : ∀ (TJ246 : State) (XJ246 : SS X245 TJ246) (eJ246 : TJ246.heap = T245.heap) (ac : Addr), Jvm.RoadKit.Ends p e below (EndW s room_1 Z consts_1 (Q_rm0 Z x0 x1 x2 wREAD wWRITE cz fm h0 n0)) (TJ246.setTop (mkF m 219 #[.val (.int x0), .val (.int x1), .val (.int x2), .val (.int (1 : Int32)), .val (.int (1 : Int32)), .val (.int (1 : Int32)), .val (.int f6), .val (.int f7), .val (.int u0), .val (.int u1), .val (.int v0), .val (.int v1), .val (.ref b150), .val (.ref b198), .val .null, .val (.ref b241), .unset, .unset, .unset] [(.ref ac)])) := by
                    intro TJ246 XJ246 eJ246 ac
                    unfold SS at XJ246
                    refine Ends.pre (fun t k => XS.astore (g := (mkF m 219 #[.val (.int x0), .val (.int x1), .val (.int x2), .val (.int (1 : Int32)), .val (.int (1 : Int32)), .val (.int (1 : Int32)), .val (.int f6), .val (.int f7), .val (.int u0), .val (.int u1), .val (.int v0), .val (.int v1), .val (.ref b150), .val (.ref b198), .val .null, .val (.ref b241), .unset, .unset, .unset] [(.ref ac)])) XJ246.here hx rfl (hb hby at_219) rfl rfl (l' := #[.val (.int x0), .val (.int x1), .val (.int x2), .val (.int (1 : Int32)), .val (.int (1 : Int32)), .val (.int (1 : Int32)), .val (.int f6), .val (.int f7), .val (.int u0), .val (.int u1), .val (.int v0), .val (.int v1), .val (.ref b150), .val (.ref b198), .val .null, .val (.ref b241), .val (.ref ac), .unset, .unset]) rfl k) ?_
                    obtain ⟨T247, h247, X247, e247, E247, A247, D247, -, st247⟩ := newO XJ246 hx hZ hown (hw _ (List.mem_of_getElem? (i := 36) rfl)) (hw _ (List.mem_of_getElem? (i := 37) rfl)) (hw _ (List.mem_of_getElem? (i := 38) rfl)) eJ246 (g := (mkF m 221 #[.val (.int x0), .val (.int x1), .val (.int x2), .val (.int (1 : Int32)), .val (.int (1 : Int32)), .val (.int (1 : Int32)), .val (.int f6), .val (.int f7), .val (.int u0), .val (.int u1), .val (.int v0), .val (.int v1), .val (.ref b150), .val (.ref b198), .val .null, .val (.ref b241), .val (.ref ac), .unset, .unset] [])) rfl (hb hby at_221) (by decide) (by decide)
                    obtain ⟨b247, g247⟩ : ∃ z, z = T245.heap.size := ⟨_, rfl⟩
                    rw [← g247] at A247 D247 st247
                    have ge_b247 : n0 ≤ b247 := Nat.le_trans (Nat.le_trans (Nat.le_trans (Nat.le_trans (Nat.le_trans (Nat.le_trans (Nat.le_trans Z0 E150.1) (Keep.of_wr W151).1) E198.1) (Keep.of_wr W199).1) E241.1) Kc245.1) (Nat.le_of_eq g247.symm)
                    have sz_b247 : h0.size ≤ b247 := Nat.le_trans K245.1 (Nat.le_of_eq g247.symm)
                    have CR247 := CHr.trans CR245 (CHr.ext E247 CR245.1)
                    have K247 : Keep h0 h247 [] := K245.ext E247
                    have Fd247_holder : Fld Z h247 b247 "com/example/static_permission_checker/staticpermissionchecker/core/FlowConstraint" "holder" "Ljava/lang/String;" .null := D247 (Or.inr (hw _ (List.mem_of_getElem? (i := 55) rfl))) (ty := (.object "java/lang/String")) (by decide)
                    have Fd247_access : Fld Z h247 b247 "com/example/static_permission_checker/staticpermissionchecker/core/FlowConstraint" "access" "Lcom/example/static_permission_checker/staticpermissionchecker/core/FlowConstraint$Access;" .null := D247 (Or.inr (hw _ (List.mem_of_getElem? (i := 57) rfl))) (ty := (.object "com/example/static_permission_checker/staticpermissionchecker/core/FlowConstraint$Access")) (by decide)
                    have Fd247_guard : Fld Z h247 b247 "com/example/static_permission_checker/staticpermissionchecker/core/FlowConstraint" "guard" "Ljava/lang/String;" .null := D247 (Or.inr (hw _ (List.mem_of_getElem? (i := 59) rfl))) (ty := (.object "java/lang/String")) (by decide)
                    refine Ends.pre (T' := T247.setTop (mkF m 224 #[.val (.int x0), .val (.int x1), .val (.int x2), .val (.int (1 : Int32)), .val (.int (1 : Int32)), .val (.int (1 : Int32)), .val (.int f6), .val (.int f7), .val (.int u0), .val (.int u1), .val (.int v0), .val (.int v1), .val (.ref b150), .val (.ref b198), .val .null, .val (.ref b241), .val (.ref ac), .unset, .unset] [(.ref b247)])) (fun t k => st247 _ k) ?_
                    refine Ends.pre (fun t k => XS.dup X247.here hx rfl (hb hby at_224) rfl rfl k) ?_
                    refine Ends.pre (fun t k => XS.aload X247.here hx rfl (hb hby at_225) rfl rfl k) ?_
                    refine Ends.pre (fun t k => XS.aload X247.here hx rfl (hb hby at_227) rfl rfl k) ?_
                    refine Ends.pre (fun t k => XS.aload X247.here hx rfl (hb hby at_229) rfl rfl k) ?_
                    obtain ⟨_, _, ⟨T248, L248, k248, n248⟩, -, Xa248, hSa248, ga248, ⟨Lc248, hQ248, l248, y248, z248, CRc248⟩, st248⟩ := X247.specialBackS hx (y := (⟨"com/example/static_permission_checker/staticpermissionchecker/core/FlowConstraint", "<init>", "(Ljava/lang/String;Lcom/example/static_permission_checker/staticpermissionchecker/core/FlowConstraint$Access;Ljava/lang/String;)V"⟩ : MethodName)) rfl hown (mvT hZ (hw _ (List.mem_of_getElem? (i := 39) rfl))) (mvT hZ (hw _ (List.mem_of_getElem? (i := 40) rfl))) (mvT hZ (hw _ (List.mem_of_getElem? (i := 41) rfl))) (by decide) (backOfSH (W := 1) (rm7n l Z a0 hw [] b247 ac b241 h247 n0 (Nat.le_trans (Nat.le_trans (Nat.le_trans (Nat.le_trans (Nat.le_trans (Nat.le_trans (Nat.le_trans Z0 E150.1) (Keep.of_wr W151).1) E198.1) (Keep.of_wr W199).1) E241.1) Kc245.1) E247.1) A247 ge_b247 Fd247_holder Fd247_access Fd247_guard) hZ (hw _ (List.mem_of_getElem? (i := 41) rfl)) (hw _ (List.mem_of_getElem? (i := 38) rfl)) (by decide) (by decide) hEL CR247.1) (g := (mkF m 231 #[.val (.int x0), .val (.int x1), .val (.int x2), .val (.int (1 : Int32)), .val (.int (1 : Int32)), .val (.int (1 : Int32)), .val (.int f6), .val (.int f7), .val (.int u0), .val (.int u1), .val (.int v0), .val (.int v1), .val (.ref b150), .val (.ref b198), .val .null, .val (.ref b241), .val (.ref ac), .unset, .unset] [(.ref b241), (.ref ac), .null, (.ref b247), (.ref b247)])) rfl (by rw [hml]; rfl) (Steps.refl _) (a := b247) (argsL := [.null, (.ref ac), (.ref b241)]) (rest := [(.ref b247)]) (lenOf pd_5 rfl) rfl (by show 2 * 0 + _ ≤ _; exact Nat.le_of_eq rfl) (hb hby at_231) (fun _ _ => ⟨rfl, e247, (by decide : 5 + 4 ≤ _), (by decide : 10 + 52 ≤ _)⟩)
                    dsimp only [Pt.U, Pt.locs, Pt.cells, Pt.slots] at Xa248 hSa248 ga248 l248 y248 z248 st248 hQ248 CRc248
                    subst l248 y248 z248
                    obtain ⟨X248, hS248, hZ248, hown248⟩ := rebS hS0 (n1 := T247.heap.size) (by rw [e247]; exact (Nat.le_trans (Nat.le_trans (Nat.le_trans (Nat.le_trans (Nat.le_trans (Nat.le_trans (Nat.le_trans hk0 E150.1) (Keep.of_wr W151).1) E198.1) (Keep.of_wr W199).1) E241.1) Kc245.1) E247.1)) Xa248 hSa248 ga248 hZ hown
                    obtain ⟨rfl, N248q, Kc248, Ec248, Fh248, Fg248⟩ := hQ248
                    have N248 := Fr.app N245 N248q
                    have K248 : Keep h0 T248.heap [] := K247.trans Kc248 (allS (Or.inr sz_b247) all0)
                    have CR248 := CHr.trans CR247 CRc248
                    refine Ends.pre (T' := T248.setTop (mkF m 234 #[.val (.int x0), .val (.int x1), .val (.int x2), .val (.int (1 : Int32)), .val (.int (1 : Int32)), .val (.int (1 : Int32)), .val (.int f6), .val (.int f7), .val (.int u0), .val (.int u1), .val (.int v0), .val (.int v1), .val (.ref b150), .val (.ref b198), .val .null, .val (.ref b241), .val (.ref ac), .unset, .unset] [(.ref b247)])) (fun t k => st248.trans k) ?_
                    refine Ends.pre (fun t k => XS.astore (g := (mkF m 234 #[.val (.int x0), .val (.int x1), .val (.int x2), .val (.int (1 : Int32)), .val (.int (1 : Int32)), .val (.int (1 : Int32)), .val (.int f6), .val (.int f7), .val (.int u0), .val (.int u1), .val (.int v0), .val (.int v1), .val (.ref b150), .val (.ref b198), .val .null, .val (.ref b241), .val (.ref ac), .unset, .unset] [(.ref b247)])) X248.here hx rfl (hb hby at_234) rfl rfl (l' := #[.val (.int x0), .val (.int x1), .val (.int x2), .val (.int (1 : Int32)), .val (.int (1 : Int32)), .val (.int (1 : Int32)), .val (.int f6), .val (.int f7), .val (.int u0), .val (.int u1), .val (.int v0), .val (.int v1), .val (.ref b150), .val (.ref b198), .val .null, .val (.ref b241), .val (.ref ac), .val (.ref b247), .unset]) rfl k) ?_
                    refine Ends.pre (fun t k => XS.iload X248.here hx rfl (hb hby at_236) rfl k) ?_
                    refine Ends.pre (T' := T248.setTop (mkF m 275 #[.val (.int x0), .val (.int x1), .val (.int x2), .val (.int (1 : Int32)), .val (.int (1 : Int32)), .val (.int (1 : Int32)), .val (.int f6), .val (.int f7), .val (.int u0), .val (.int u1), .val (.int v0), .val (.int v1), .val (.ref b150), .val (.ref b198), .val .null, .val (.ref b241), .val (.ref ac), .val (.ref b247), .unset] [])) (fun t k => XS.ifYes X248.here hx rfl (pc0 := 238) (pc' := 275) rfl (hb hby at_238) rfl (by decide) (by decide) (by decide) k) ?_
                    refine Ends.pre (fun t k => XS.iconst X248.here hx rfl (hb hby at_275) k) ?_
                    refine Ends.pre (fun t k => XS.istore (g := (mkF m 276 #[.val (.int x0), .val (.int x1), .val (.int x2), .val (.int (1 : Int32)), .val (.int (1 : Int32)), .val (.int (1 : Int32)), .val (.int f6), .val (.int f7), .val (.int u0), .val (.int u1), .val (.int v0), .val (.int v1), .val (.ref b150), .val (.ref b198), .val .null, .val (.ref b241), .val (.ref ac), .val (.ref b247), .unset] [(.int (0 : Int32))])) X248.here hx rfl (hb hby at_276) rfl (l' := #[.val (.int x0), .val (.int x1), .val (.int x2), .val (.int (1 : Int32)), .val (.int (1 : Int32)), .val (.int (1 : Int32)), .val (.int f6), .val (.int f7), .val (.int u0), .val (.int u1), .val (.int v0), .val (.int v1), .val (.ref b150), .val (.ref b198), .val .null, .val (.ref b241), .val (.ref ac), .val (.ref b247), .val (.int (0 : Int32))]) rfl k) ?_
                    refine Ends.pre (fun t k => XS.aload X248.here hx rfl (hb hby at_278) rfl rfl k) ?_
                    have F249 : Exa Z T248.heap b241 "java/lang/String" := ((Es245.ext E247).keep Kc248)
                    have F250 : Fld Z T248.heap b241 "java/lang/String" "value" "[B" (.ref t245) := ((Vs245.ext E247).keep Kc248 (ninS (Nat.ne_of_lt (Nat.lt_of_lt_of_le (Nat.lt_of_lt_of_le A241.lt Kc245.1) (Nat.le_of_eq g247.symm))) nin0))
                    have F251 : Fld Z T248.heap b241 "java/lang/String" "coder" "B" (.int 0) := ((Cs245.ext E247).keep Kc248 (ninS (Nat.ne_of_lt (Nat.lt_of_lt_of_le (Nat.lt_of_lt_of_le A241.lt Kc245.1) (Nat.le_of_eq g247.symm))) nin0))
                    have F252 : Arv Z T248.heap t245 kb245 .byte (1 : Int32) ((([v0] : List Int32).map (fun c => c.toInt8.toInt32)).map Value.int) (.int 0) := ((Arv.ext As245 E247).keep Kc248 (ninS (Nat.ne_of_lt (Nat.lt_of_lt_of_le As245.lt (Nat.le_of_eq g247.symm))) nin0))
                    have F253 : Sta Z T248.heap "java/lang/String" "COMPACT_STRINGS" "Z" (.int cz) := (Sta_keep0 SCS K248)
                    have F254 : Sta Z T248.heap "jdk/internal/util/Preconditions" "SIOOBE_FORMATTER" "Ljava/util/function/BiFunction;" fm := (Sta_keep0 SFM K248)
                    obtain ⟨cq255, kq255, q255a, q255b, q255c⟩ := isOf hZ248 rfl Ec248
                    obtain ⟨_, _, ⟨T255, L255, k255, n255⟩, -, X255, ⟨Lc255, hQ255, l255, y255, z255⟩, st255⟩ := X248.virtualBack hx (y := (⟨"com/example/static_permission_checker/staticpermissionchecker/core/FlowConstraint", "holds", "()Z"⟩ : MethodName)) (z := (⟨"com/example/static_permission_checker/staticpermissionchecker/core/FlowConstraint", "holds", "()Z"⟩ : MethodName)) hown248 (mvT hZ248 (hw _ (List.mem_of_getElem? (i := 60) rfl))) (mvT hZ248 (hw _ (List.mem_of_getElem? (i := 61) rfl))) (notFace_of_selects (args := #[]) (mvT hZ248 (hw _ (List.mem_of_getElem? (i := 63) rfl)))) (mvT hZ248 (hw _ (List.mem_of_getElem? (i := 63) rfl))) (mvT hZ248 (hw _ (List.mem_of_getElem? (i := 62) rfl))) (by decide) (backOf (W := 0) (rm10n l Z a0 hw [] b247 b241 t245 kb245 ([v0] : List Int32) (1 : Int32) _  cz fm T248.heap n0 (Nat.le_trans (Nat.le_trans (Nat.le_trans (Nat.le_trans (Nat.le_trans (Nat.le_trans (Nat.le_trans (Nat.le_trans Z0 E150.1) (Keep.of_wr W151).1) E198.1) (Keep.of_wr W199).1) E241.1) Kc245.1) E247.1) Kc248.1) F249 F251 F250 F252 hcd245 hbd242 (Nat.le_of_ble_eq_true rfl)  Fh248 Fg248 F253 hcz F254 hfm ) hZ248 (hw _ (List.mem_of_getElem? (i := 64) rfl)) (hw _ (List.mem_of_getElem? (i := 38) rfl)) (by decide) (by decide)) q255a q255c (g := (mkF m 280 #[.val (.int x0), .val (.int x1), .val (.int x2), .val (.int (1 : Int32)), .val (.int (1 : Int32)), .val (.int (1 : Int32)), .val (.int f6), .val (.int f7), .val (.int u0), .val (.int u1), .val (.int v0), .val (.int v1), .val (.ref b150), .val (.ref b198), .val .null, .val (.ref b241), .val (.ref ac), .val (.ref b247), .val (.int (0 : Int32))] [(.ref b247)])) rfl (by rw [hml]; rfl) (Steps.refl _) (argsL := []) (rest := []) (lenOf pd_6 rfl) rfl (by show 2 * 0 + _ ≤ _; exact Nat.le_of_eq rfl) (hb hby at_280) (fun _ _ => ⟨rfl, rfl, (by decide : 9 + 0 ≤ _), (by decide : 62 + 0 ≤ _)⟩)
                    dsimp only [Pt.U, Pt.locs, Pt.cells, Pt.slots] at X255 l255 y255 z255 st255 hQ255
                    subst l255 y255 z255
                    obtain ⟨rfl, N255q, eh255⟩ := hQ255
                    have N255 := Fr.app N248 N255q
                    refine Ends.pre (T' := T255.setTop (mkF m 283 #[.val (.int x0), .val (.int x1), .val (.int x2), .val (.int (1 : Int32)), .val (.int (1 : Int32)), .val (.int (1 : Int32)), .val (.int f6), .val (.int f7), .val (.int u0), .val (.int u1), .val (.int v0), .val (.int v1), .val (.ref b150), .val (.ref b198), .val .null, .val (.ref b241), .val (.ref ac), .val (.ref b247), .val (.int (0 : Int32))] [(.int (0 : Int32))])) (fun t k => st255.trans k) ?_
                    refine Ends.pre (fun t k => XS.iload X255.here hx rfl (hb hby at_283) rfl k) ?_
                    refine Ends.pre (T' := T255.setTop (mkF m 288 #[.val (.int x0), .val (.int x1), .val (.int x2), .val (.int (1 : Int32)), .val (.int (1 : Int32)), .val (.int (1 : Int32)), .val (.int f6), .val (.int f7), .val (.int u0), .val (.int u1), .val (.int v0), .val (.int v1), .val (.ref b150), .val (.ref b198), .val .null, .val (.ref b241), .val (.ref ac), .val (.ref b247), .val (.int (0 : Int32))] [])) (fun t k => XS.icmpNo X255.here hx rfl (hb hby at_285) rfl (by decide) k) ?_
                    refine Ends.pre (fun t k => XS.iconst X255.here hx rfl (hb hby at_288) k) ?_
                    refine Ends.pre (fun t k => XS.goto X255.here hx rfl (pc0 := 289) (pc' := 293) rfl (hb hby at_289) (by decide) (by decide) k) ?_
                    exact Ends.retW (w := (.int (1 : Int32))) X255 hx Bd.notSynchronized Bd.returns rfl (Or.inl ⟨rfl, Or.inr (Or.inl rfl), _, rfl⟩) (hb hby at_293) eh255 hZ248 hEL hS248 (Nat.le_refl _) hh CR248 ⟨rfl, N255⟩ (by decide) (by decide)
                  refine Ends.pre (fun t k => XS.iload X245.here hx rfl (hb hby at_205) rfl k) ?_
                  by_cases hc207_256 : f7 = 0
                  · refine Ends.pre (T' := T245.setTop (mkF m 216 #[.val (.int x0), .val (.int x1), .val (.int x2), .val (.int (1 : Int32)), .val (.int (1 : Int32)), .val (.int (1 : Int32)), .val (.int f6), .val (.int f7), .val (.int u0), .val (.int u1), .val (.int v0), .val (.int v1), .val (.ref b150), .val (.ref b198), .val .null, .val (.ref b241), .unset, .unset, .unset] [])) (fun t k => XS.ifYes X245.here hx rfl (pc0 := 207) (pc' := 216) rfl (hb hby at_207) rfl (Jvm.Free.XT.i0_eq_t hc207_256) (by decide) (by decide) k) ?_
                    have F257 : Sta Z T245.heap "com/example/static_permission_checker/staticpermissionchecker/core/FlowConstraint$Access" "READ" "Lcom/example/static_permission_checker/staticpermissionchecker/core/FlowConstraint$Access;" (.ref wREAD) := (Sta_keep0 S_READ K245)
                    obtain ⟨T258, X258, e258, st258⟩ := getS2 X245 hx hZ hown (host := "") (Or.inl (hw _ (List.mem_of_getElem? (i := 33) rfl))) Via.refl rfl F257 (g := (mkF m 216 #[.val (.int x0), .val (.int x1), .val (.int x2), .val (.int (1 : Int32)), .val (.int (1 : Int32)), .val (.int (1 : Int32)), .val (.int f6), .val (.int f7), .val (.int u0), .val (.int u1), .val (.int v0), .val (.int v1), .val (.ref b150), .val (.ref b198), .val .null, .val (.ref b241), .unset, .unset, .unset] [])) rfl (hb hby at_216)
                    refine Ends.pre (T' := T258.setTop (mkF m 219 #[.val (.int x0), .val (.int x1), .val (.int x2), .val (.int (1 : Int32)), .val (.int (1 : Int32)), .val (.int (1 : Int32)), .val (.int f6), .val (.int f7), .val (.int u0), .val (.int u1), .val (.int v0), .val (.int v1), .val (.ref b150), .val (.ref b198), .val .null, .val (.ref b241), .unset, .unset, .unset] [(.ref wREAD)])) (fun t k => st258 _ k) ?_
                    exact J219_246 T258 X258 e258 wREAD
                  · refine Ends.pre (T' := T245.setTop (mkF m 210 #[.val (.int x0), .val (.int x1), .val (.int x2), .val (.int (1 : Int32)), .val (.int (1 : Int32)), .val (.int (1 : Int32)), .val (.int f6), .val (.int f7), .val (.int u0), .val (.int u1), .val (.int v0), .val (.int v1), .val (.ref b150), .val (.ref b198), .val .null, .val (.ref b241), .unset, .unset, .unset] [])) (fun t k => XS.ifNo X245.here hx rfl (hb hby at_207) rfl (Jvm.Free.XT.i0_eq_f hc207_256) k) ?_
                    have F259 : Sta Z T245.heap "com/example/static_permission_checker/staticpermissionchecker/core/FlowConstraint$Access" "WRITE" "Lcom/example/static_permission_checker/staticpermissionchecker/core/FlowConstraint$Access;" (.ref wWRITE) := (Sta_keep0 S_WRITE K245)
                    obtain ⟨T260, X260, e260, st260⟩ := getS2 X245 hx hZ hown (host := "") (Or.inl (hw _ (List.mem_of_getElem? (i := 75) rfl))) Via.refl rfl F259 (g := (mkF m 210 #[.val (.int x0), .val (.int x1), .val (.int x2), .val (.int (1 : Int32)), .val (.int (1 : Int32)), .val (.int (1 : Int32)), .val (.int f6), .val (.int f7), .val (.int u0), .val (.int u1), .val (.int v0), .val (.int v1), .val (.ref b150), .val (.ref b198), .val .null, .val (.ref b241), .unset, .unset, .unset] [])) rfl (hb hby at_210)
                    refine Ends.pre (T' := T260.setTop (mkF m 213 #[.val (.int x0), .val (.int x1), .val (.int x2), .val (.int (1 : Int32)), .val (.int (1 : Int32)), .val (.int (1 : Int32)), .val (.int f6), .val (.int f7), .val (.int u0), .val (.int u1), .val (.int v0), .val (.int v1), .val (.ref b150), .val (.ref b198), .val .null, .val (.ref b241), .unset, .unset, .unset] [(.ref wWRITE)])) (fun t k => st260 _ k) ?_
                    refine Ends.pre (fun t k => XS.goto X260.here hx rfl (pc0 := 213) (pc' := 219) rfl (hb hby at_213) (by decide) (by decide) k) ?_
                    exact J219_246 T260 X260 e260 wWRITE
              · refine Ends.pre (fun t k => XS.iload X151.here hx rfl (hb hby at_145) rfl k) ?_
                obtain ⟨T261, h261, k261, X261, e261, E261, A261, st261⟩ := newP X151 hx hZ (hw _ (List.mem_of_getElem? (i := 0) rfl)) e151 (g := (mkF m 147 #[.val (.int x0), .val (.int x1), .val (.int x2), .val (.int (1 : Int32)), .val (.int (2 : Int32)), .val (.int f5), .val (.int f6), .val (.int f7), .val (.int u0), .val (.int u1), .val (.int v0), .val (.int v1), .val (.ref b150), .unset, .unset, .unset, .unset, .unset, .unset] [(.int (2 : Int32))])) rfl (hb hby at_147) rfl (by decide) (cap := 2) (by decide) (by decide) (by decide) (by decide)
                obtain ⟨b261, g261⟩ : ∃ z, z = h151.size := ⟨_, rfl⟩
                rw [← g261] at A261 st261
                have ge_b261 : n0 ≤ b261 := Nat.le_trans (Nat.le_trans (Nat.le_trans Z0 E150.1) (Keep.of_wr W151).1) (Nat.le_of_eq g261.symm)
                have sz_b261 : h0.size ≤ b261 := Nat.le_trans K151.1 (Nat.le_of_eq g261.symm)
                have CR261 := CHr.trans CR151 (CHr.ext E261 CR151.1)
                have K261 : Keep h0 h261 [] := K151.ext E261
                have V261 : Arv Z h261 b261 k261 .char (2 : Int32) [(.int (0 : Int32)), (.int (0 : Int32))] (.int (0 : Int32)) := (Arv.new A261 (by decide)).pad (pad_rep [] (.int (0 : Int32)) 2)
                refine Ends.pre (T' := T261.setTop (mkF m 149 #[.val (.int x0), .val (.int x1), .val (.int x2), .val (.int (1 : Int32)), .val (.int (2 : Int32)), .val (.int f5), .val (.int f6), .val (.int f7), .val (.int u0), .val (.int u1), .val (.int v0), .val (.int v1), .val (.ref b150), .unset, .unset, .unset, .unset, .unset, .unset] [(.ref b261)])) (fun t k => st261 _ k) ?_
                refine Ends.pre (fun t k => XS.astore (g := (mkF m 149 #[.val (.int x0), .val (.int x1), .val (.int x2), .val (.int (1 : Int32)), .val (.int (2 : Int32)), .val (.int f5), .val (.int f6), .val (.int f7), .val (.int u0), .val (.int u1), .val (.int v0), .val (.int v1), .val (.ref b150), .unset, .unset, .unset, .unset, .unset, .unset] [(.ref b261)])) X261.here hx rfl (hb hby at_149) rfl rfl (l' := #[.val (.int x0), .val (.int x1), .val (.int x2), .val (.int (1 : Int32)), .val (.int (2 : Int32)), .val (.int f5), .val (.int f6), .val (.int f7), .val (.int u0), .val (.int u1), .val (.int v0), .val (.int v1), .val (.ref b150), .val (.ref b261), .unset, .unset, .unset, .unset, .unset]) rfl k) ?_
                refine Ends.pre (fun t k => XS.iload X261.here hx rfl (hb hby at_151) rfl k) ?_
                refine Ends.pre (T' := T261.setTop (mkF m 156 #[.val (.int x0), .val (.int x1), .val (.int x2), .val (.int (1 : Int32)), .val (.int (2 : Int32)), .val (.int f5), .val (.int f6), .val (.int f7), .val (.int u0), .val (.int u1), .val (.int v0), .val (.int v1), .val (.ref b150), .val (.ref b261), .unset, .unset, .unset, .unset, .unset] [])) (fun t k => XS.ifNo X261.here hx rfl (hb hby at_153) rfl (by decide) k) ?_
                refine Ends.pre (fun t k => XS.aload X261.here hx rfl (hb hby at_156) rfl rfl k) ?_
                refine Ends.pre (fun t k => XS.iconst X261.here hx rfl (hb hby at_158) k) ?_
                refine Ends.pre (fun t k => XS.iload X261.here hx rfl (hb hby at_159) rfl k) ?_
                obtain ⟨cl262, Ar262, q262, S262, N262', H262, G262⟩ := id V261
                have hin262 : ¬ ((0 : Int32) < 0 ∨ cl262.slots.size ≤ ((0 : Int32)).toNatClampNeg) := inb_of S262 ⟨by decide, by decide⟩
                obtain ⟨T262, h262, X262, e262, W262, st262⟩ := stC X261 hx hZ e261 Ar262 (j := (0 : Int32)) hin262 (g := (mkF m 161 #[.val (.int x0), .val (.int x1), .val (.int x2), .val (.int (1 : Int32)), .val (.int (2 : Int32)), .val (.int f5), .val (.int f6), .val (.int f7), .val (.int u0), .val (.int u1), .val (.int v0), .val (.int v1), .val (.ref b150), .val (.ref b261), .unset, .unset, .unset, .unset, .unset] [(.int v0), (.int (0 : Int32)), (.ref b261)])) rfl rfl (hb hby at_161)
                have CR262 := CHr.trans CR261 (CHr.wr W262 (Safe.arv hZo.alike V261 (by decide)) CR261.1)
                have V262 : Arv Z h262 b261 k261 .char (2 : Int32) [(.int v0), (.int (0 : Int32))] (.int (0 : Int32)) := (by have q := Arv.set Ar262 q262 S262 N262' H262 G262 (fits_nar_char _) W262 0 rfl (Nat.le_of_ble_eq_true rfl); rw [own_char cv0] at q; exact q)
                have N262 := Fr.snoc X262 N151 ge_b261
                refine Ends.pre (T' := T262.setTop (mkF m 162 #[.val (.int x0), .val (.int x1), .val (.int x2), .val (.int (1 : Int32)), .val (.int (2 : Int32)), .val (.int f5), .val (.int f6), .val (.int f7), .val (.int u0), .val (.int u1), .val (.int v0), .val (.int v1), .val (.ref b150), .val (.ref b261), .unset, .unset, .unset, .unset, .unset] [])) (fun t k => st262 _ k) ?_
                have K262 : Keep h0 h262 [] := K261.wr W262 (Or.inr sz_b261)
                refine Ends.pre (fun t k => XS.iload X262.here hx rfl (hb hby at_162) rfl k) ?_
                refine Ends.pre (fun t k => XS.iconst X262.here hx rfl (hb hby at_164) k) ?_
                refine Ends.pre (T' := T262.setTop (mkF m 168 #[.val (.int x0), .val (.int x1), .val (.int x2), .val (.int (1 : Int32)), .val (.int (2 : Int32)), .val (.int f5), .val (.int f6), .val (.int f7), .val (.int u0), .val (.int u1), .val (.int v0), .val (.int v1), .val (.ref b150), .val (.ref b261), .unset, .unset, .unset, .unset, .unset] [])) (fun t k => XS.icmpNo X262.here hx rfl (hb hby at_165) rfl (by decide) k) ?_
                refine Ends.pre (fun t k => XS.aload X262.here hx rfl (hb hby at_168) rfl rfl k) ?_
                refine Ends.pre (fun t k => XS.iconst X262.here hx rfl (hb hby at_170) k) ?_
                refine Ends.pre (fun t k => XS.iload X262.here hx rfl (hb hby at_171) rfl k) ?_
                obtain ⟨cl263, Ar263, q263, S263, N263', H263, G263⟩ := id V262
                have hin263 : ¬ ((1 : Int32) < 0 ∨ cl263.slots.size ≤ ((1 : Int32)).toNatClampNeg) := inb_of S263 ⟨by decide, by decide⟩
                obtain ⟨T263, h263, X263, e263, W263, st263⟩ := stC X262 hx hZ e262 Ar263 (j := (1 : Int32)) hin263 (g := (mkF m 173 #[.val (.int x0), .val (.int x1), .val (.int x2), .val (.int (1 : Int32)), .val (.int (2 : Int32)), .val (.int f5), .val (.int f6), .val (.int f7), .val (.int u0), .val (.int u1), .val (.int v0), .val (.int v1), .val (.ref b150), .val (.ref b261), .unset, .unset, .unset, .unset, .unset] [(.int v1), (.int (1 : Int32)), (.ref b261)])) rfl rfl (hb hby at_173)
                have CR263 := CHr.trans CR262 (CHr.wr W263 (Safe.arv hZo.alike V262 (by decide)) CR262.1)
                have V263 : Arv Z h263 b261 k261 .char (2 : Int32) [(.int v0), (.int v1)] (.int (0 : Int32)) := (by have q := Arv.set Ar263 q263 S263 N263' H263 G263 (fits_nar_char _) W263 1 rfl (Nat.le_of_ble_eq_true rfl); rw [own_char cv1] at q; exact q)
                have N263 := Fr.snoc X263 N262 ge_b261
                refine Ends.pre (T' := T263.setTop (mkF m 174 #[.val (.int x0), .val (.int x1), .val (.int x2), .val (.int (1 : Int32)), .val (.int (2 : Int32)), .val (.int f5), .val (.int f6), .val (.int f7), .val (.int u0), .val (.int u1), .val (.int v0), .val (.int v1), .val (.ref b150), .val (.ref b261), .unset, .unset, .unset, .unset, .unset] [])) (fun t k => st263 _ k) ?_
                have K263 : Keep h0 h263 [] := K262.wr W263 (Or.inr sz_b261)
                rcases qf5 with rfl | rfl
                · refine Ends.pre (fun t k => XS.iload X263.here hx rfl (hb hby at_174) rfl k) ?_
                  refine Ends.pre (T' := T263.setTop (mkF m 183 #[.val (.int x0), .val (.int x1), .val (.int x2), .val (.int (1 : Int32)), .val (.int (2 : Int32)), .val (.int (0 : Int32)), .val (.int f6), .val (.int f7), .val (.int u0), .val (.int u1), .val (.int v0), .val (.int v1), .val (.ref b150), .val (.ref b261), .unset, .unset, .unset, .unset, .unset] [])) (fun t k => XS.ifYes X263.here hx rfl (pc0 := 176) (pc' := 183) rfl (hb hby at_176) rfl (by decide) (by decide) (by decide) k) ?_
                  obtain ⟨T264, h264, X264, e264, E264, A264, D264, -, st264⟩ := newO X263 hx hZ hown (hw _ (List.mem_of_getElem? (i := 1) rfl)) (hw _ (List.mem_of_getElem? (i := 2) rfl)) (hw _ (List.mem_of_getElem? (i := 3) rfl)) e263 (g := (mkF m 183 #[.val (.int x0), .val (.int x1), .val (.int x2), .val (.int (1 : Int32)), .val (.int (2 : Int32)), .val (.int (0 : Int32)), .val (.int f6), .val (.int f7), .val (.int u0), .val (.int u1), .val (.int v0), .val (.int v1), .val (.ref b150), .val (.ref b261), .unset, .unset, .unset, .unset, .unset] [])) rfl (hb hby at_183) (by decide) (by decide)
                  obtain ⟨b264, g264⟩ : ∃ z, z = h263.size := ⟨_, rfl⟩
                  rw [← g264] at A264 D264 st264
                  have ge_b264 : n0 ≤ b264 := Nat.le_trans (Nat.le_trans (Nat.le_trans (Nat.le_trans (Nat.le_trans (Nat.le_trans Z0 E150.1) (Keep.of_wr W151).1) E261.1) (Keep.of_wr W262).1) (Keep.of_wr W263).1) (Nat.le_of_eq g264.symm)
                  have sz_b264 : h0.size ≤ b264 := Nat.le_trans K263.1 (Nat.le_of_eq g264.symm)
                  have CR264 := CHr.trans CR263 (CHr.ext E264 CR263.1)
                  have K264 : Keep h0 h264 [] := K263.ext E264
                  have Fd264_coder : Fld Z h264 b264 "java/lang/String" "coder" "B" (.int (0 : Int32)) := D264 (Or.inr (hw _ (List.mem_of_getElem? (i := 27) rfl))) (ty := .byte) (by decide)
                  have Fd264_value : Fld Z h264 b264 "java/lang/String" "value" "[B" .null := D264 (Or.inr (hw _ (List.mem_of_getElem? (i := 29) rfl))) (ty := (.array .byte)) (by decide)
                  refine Ends.pre (T' := T264.setTop (mkF m 186 #[.val (.int x0), .val (.int x1), .val (.int x2), .val (.int (1 : Int32)), .val (.int (2 : Int32)), .val (.int (0 : Int32)), .val (.int f6), .val (.int f7), .val (.int u0), .val (.int u1), .val (.int v0), .val (.int v1), .val (.ref b150), .val (.ref b261), .unset, .unset, .unset, .unset, .unset] [(.ref b264)])) (fun t k => st264 _ k) ?_
                  refine Ends.pre (fun t k => XS.dup X264.here hx rfl (hb hby at_186) rfl rfl k) ?_
                  refine Ends.pre (fun t k => XS.aload X264.here hx rfl (hb hby at_187) rfl rfl k) ?_
                  have hp265 : ∀ c ∈ ([u0] : List Int32), ¬ c < 0 ∧ ¬ (255 : Int32) < c := (own_alS cu0 own_al0)
                  have hbd265 := own_up _ hp265
                  have F266 : Arv Z h264 b150 k150 .char (1 : Int32) [(.int u0)] (.int (0 : Int32)) := (Arv.ext (((Arv.ext V151 E261).other W262 (Nat.ne_of_lt (Nat.lt_of_lt_of_le (Nat.lt_of_lt_of_le V150.lt (Keep.of_wr W151).1) (Nat.le_of_eq g261.symm)))).other W263 (Nat.ne_of_lt (Nat.lt_of_lt_of_le (Nat.lt_of_lt_of_le V150.lt (Keep.of_wr W151).1) (Nat.le_of_eq g261.symm)))) E264)
                  have F267 : Sta Z h264 "java/lang/String" "COMPACT_STRINGS" "Z" (.int cz) := (Sta_keep0 SCS K264)
                  obtain ⟨_, _, ⟨T268, L268, k268, n268⟩, -, X268, ⟨Lc268, hQ268, l268, y268, z268⟩, st268⟩ := X264.specialBack hx (y := (⟨"java/lang/String", "<init>", "([C)V"⟩ : MethodName)) rfl hown (mvT hZ (hw _ (List.mem_of_getElem? (i := 4) rfl))) (mvT hZ (hw _ (List.mem_of_getElem? (i := 5) rfl))) (mvT hZ (hw _ (List.mem_of_getElem? (i := 6) rfl))) (by decide) (StrChars.Road.backV (W := 1) hZ (own_hws hw) (kI := 4) (hw _ (List.mem_of_getElem? (i := 2) rfl)) (cs := ([u0] : List Int32)) (bs := (([u0] : List Int32).map (fun c => c.toInt8.toInt32))) (n := 1) ge_b264 (Nat.le_trans (Nat.le_trans (Nat.le_trans (Nat.le_trans (Nat.le_trans (Nat.le_trans Z0 E150.1) (Keep.of_wr W151).1) E261.1) (Keep.of_wr W262).1) (Keep.of_wr W263).1) E264.1) A264 Fd264_value Fd264_coder F266 F267 hcz rfl rfl (by decide) (by decide) hp265 rfl (by decide) (by decide)) (g := (mkF m 189 #[.val (.int x0), .val (.int x1), .val (.int x2), .val (.int (1 : Int32)), .val (.int (2 : Int32)), .val (.int (0 : Int32)), .val (.int f6), .val (.int f7), .val (.int u0), .val (.int u1), .val (.int v0), .val (.int v1), .val (.ref b150), .val (.ref b261), .unset, .unset, .unset, .unset, .unset] [(.ref b150), (.ref b264), (.ref b264)])) rfl (by rw [hml]; rfl) (Steps.refl _) (a := b264) (argsL := [(.ref b150)]) (rest := [(.ref b264)]) (lenOf pd_4 rfl) rfl (by show 2 * 0 + _ ≤ _; exact Nat.le_of_eq rfl) (hb hby at_189) (fun _ _ => ⟨rfl, e264, (by decide : 3 + 1 ≤ _), (by decide : 7 + 1 ≤ _)⟩)
                  dsimp only [Pt.U, Pt.locs, Pt.cells, Pt.slots] at X268 l268 y268 z268 st268 hQ268
                  subst l268 y268 z268
                  obtain ⟨rfl, N268q, Kc268, Es268, Cs268, t268, kb268, gt268, ft268, nt268, Vs268, As268⟩ := hQ268
                  have N268 := Fr.app N263 N268q
                  have K268 : Keep h0 T268.heap [] := K264.trans Kc268 (allS (Or.inr sz_b264) all0)
                  have CR268 := CHr.trans CR264 (CHr.keep Kc268 (sfS (Safe.ext E264 CR263.1 (Safe.new (Nat.le_of_eq g264.symm))) sf0) CR264.1)
                  have hcd268 : StrChars.Road.CodA ([u0] : List Int32) 0 (1 : Int32) ((([u0] : List Int32).map (fun c => c.toInt8.toInt32)).map Value.int) := StrChars.Road.codOf (n := 1) rfl (fun c hc => (hp265 c hc).2)
                  refine Ends.pre (T' := T268.setTop (mkF m 192 #[.val (.int x0), .val (.int x1), .val (.int x2), .val (.int (1 : Int32)), .val (.int (2 : Int32)), .val (.int (0 : Int32)), .val (.int f6), .val (.int f7), .val (.int u0), .val (.int u1), .val (.int v0), .val (.int v1), .val (.ref b150), .val (.ref b261), .unset, .unset, .unset, .unset, .unset] [(.ref b264)])) (fun t k => st268.trans k) ?_
                  refine Ends.pre (fun t k => XS.astore (g := (mkF m 192 #[.val (.int x0), .val (.int x1), .val (.int x2), .val (.int (1 : Int32)), .val (.int (2 : Int32)), .val (.int (0 : Int32)), .val (.int f6), .val (.int f7), .val (.int u0), .val (.int u1), .val (.int v0), .val (.int v1), .val (.ref b150), .val (.ref b261), .unset, .unset, .unset, .unset, .unset] [(.ref b264)])) X268.here hx rfl (hb hby at_192) rfl rfl (l' := #[.val (.int x0), .val (.int x1), .val (.int x2), .val (.int (1 : Int32)), .val (.int (2 : Int32)), .val (.int (0 : Int32)), .val (.int f6), .val (.int f7), .val (.int u0), .val (.int u1), .val (.int v0), .val (.int v1), .val (.ref b150), .val (.ref b261), .val (.ref b264), .unset, .unset, .unset, .unset]) rfl k) ?_
                  obtain ⟨T269, h269, X269, e269, E269, A269, D269, -, st269⟩ := newO X268 hx hZ hown (hw _ (List.mem_of_getElem? (i := 1) rfl)) (hw _ (List.mem_of_getElem? (i := 2) rfl)) (hw _ (List.mem_of_getElem? (i := 3) rfl)) rfl (g := (mkF m 194 #[.val (.int x0), .val (.int x1), .val (.int x2), .val (.int (1 : Int32)), .val (.int (2 : Int32)), .val (.int (0 : Int32)), .val (.int f6), .val (.int f7), .val (.int u0), .val (.int u1), .val (.int v0), .val (.int v1), .val (.ref b150), .val (.ref b261), .val (.ref b264), .unset, .unset, .unset, .unset] [])) rfl (hb hby at_194) (by decide) (by decide)
                  obtain ⟨b269, g269⟩ : ∃ z, z = T268.heap.size := ⟨_, rfl⟩
                  rw [← g269] at A269 D269 st269
                  have ge_b269 : n0 ≤ b269 := Nat.le_trans (Nat.le_trans (Nat.le_trans (Nat.le_trans (Nat.le_trans (Nat.le_trans (Nat.le_trans (Nat.le_trans Z0 E150.1) (Keep.of_wr W151).1) E261.1) (Keep.of_wr W262).1) (Keep.of_wr W263).1) E264.1) Kc268.1) (Nat.le_of_eq g269.symm)
                  have sz_b269 : h0.size ≤ b269 := Nat.le_trans K268.1 (Nat.le_of_eq g269.symm)
                  have CR269 := CHr.trans CR268 (CHr.ext E269 CR268.1)
                  have K269 : Keep h0 h269 [] := K268.ext E269
                  have Fd269_coder : Fld Z h269 b269 "java/lang/String" "coder" "B" (.int (0 : Int32)) := D269 (Or.inr (hw _ (List.mem_of_getElem? (i := 27) rfl))) (ty := .byte) (by decide)
                  have Fd269_value : Fld Z h269 b269 "java/lang/String" "value" "[B" .null := D269 (Or.inr (hw _ (List.mem_of_getElem? (i := 29) rfl))) (ty := (.array .byte)) (by decide)
                  refine Ends.pre (T' := T269.setTop (mkF m 197 #[.val (.int x0), .val (.int x1), .val (.int x2), .val (.int (1 : Int32)), .val (.int (2 : Int32)), .val (.int (0 : Int32)), .val (.int f6), .val (.int f7), .val (.int u0), .val (.int u1), .val (.int v0), .val (.int v1), .val (.ref b150), .val (.ref b261), .val (.ref b264), .unset, .unset, .unset, .unset] [(.ref b269)])) (fun t k => st269 _ k) ?_
                  refine Ends.pre (fun t k => XS.dup X269.here hx rfl (hb hby at_197) rfl rfl k) ?_
                  refine Ends.pre (fun t k => XS.aload X269.here hx rfl (hb hby at_198) rfl rfl k) ?_
                  have hp270 : ∀ c ∈ ([v0, v1] : List Int32), ¬ c < 0 ∧ ¬ (255 : Int32) < c := (own_alS cv0 (own_alS cv1 own_al0))
                  have hbd270 := own_up _ hp270
                  have F271 : Arv Z h269 b261 k261 .char (2 : Int32) [(.int v0), (.int v1)] (.int (0 : Int32)) := (Arv.ext ((Arv.ext V263 E264).keep Kc268 (ninS (Nat.ne_of_lt (Nat.lt_of_lt_of_le (Nat.lt_of_lt_of_le (Nat.lt_of_lt_of_le V261.lt (Keep.of_wr W262).1) (Keep.of_wr W263).1) (Nat.le_of_eq g264.symm))) nin0)) E269)
                  have F272 : Sta Z h269 "java/lang/String" "COMPACT_STRINGS" "Z" (.int cz) := (Sta_keep0 SCS K269)
                  obtain ⟨_, _, ⟨T273, L273, k273, n273⟩, -, X273, ⟨Lc273, hQ273, l273, y273, z273⟩, st273⟩ := X269.specialBack hx (y := (⟨"java/lang/String", "<init>", "([C)V"⟩ : MethodName)) rfl hown (mvT hZ (hw _ (List.mem_of_getElem? (i := 4) rfl))) (mvT hZ (hw _ (List.mem_of_getElem? (i := 5) rfl))) (mvT hZ (hw _ (List.mem_of_getElem? (i := 6) rfl))) (by decide) (StrChars.Road.backV (W := 1) hZ (own_hws hw) (kI := 4) (hw _ (List.mem_of_getElem? (i := 2) rfl)) (cs := ([v0, v1] : List Int32)) (bs := (([v0, v1] : List Int32).map (fun c => c.toInt8.toInt32))) (n := 2) ge_b269 (Nat.le_trans (Nat.le_trans (Nat.le_trans (Nat.le_trans (Nat.le_trans (Nat.le_trans (Nat.le_trans (Nat.le_trans Z0 E150.1) (Keep.of_wr W151).1) E261.1) (Keep.of_wr W262).1) (Keep.of_wr W263).1) E264.1) Kc268.1) E269.1) A269 Fd269_value Fd269_coder F271 F272 hcz rfl rfl (by decide) (by decide) hp270 rfl (by decide) (by decide)) (g := (mkF m 200 #[.val (.int x0), .val (.int x1), .val (.int x2), .val (.int (1 : Int32)), .val (.int (2 : Int32)), .val (.int (0 : Int32)), .val (.int f6), .val (.int f7), .val (.int u0), .val (.int u1), .val (.int v0), .val (.int v1), .val (.ref b150), .val (.ref b261), .val (.ref b264), .unset, .unset, .unset, .unset] [(.ref b261), (.ref b269), (.ref b269)])) rfl (by rw [hml]; rfl) (Steps.refl _) (a := b269) (argsL := [(.ref b261)]) (rest := [(.ref b269)]) (lenOf pd_4 rfl) rfl (by show 2 * 0 + _ ≤ _; exact Nat.le_of_eq rfl) (hb hby at_200) (fun _ _ => ⟨rfl, e269, (by decide : 5 + 1 ≤ _), (by decide : 12 + 2 ≤ _)⟩)
                  dsimp only [Pt.U, Pt.locs, Pt.cells, Pt.slots] at X273 l273 y273 z273 st273 hQ273
                  subst l273 y273 z273
                  obtain ⟨rfl, N273q, Kc273, Es273, Cs273, t273, kb273, gt273, ft273, nt273, Vs273, As273⟩ := hQ273
                  have N273 := Fr.app N268 N273q
                  have K273 : Keep h0 T273.heap [] := K269.trans Kc273 (allS (Or.inr sz_b269) all0)
                  have CR273 := CHr.trans CR269 (CHr.keep Kc273 (sfS (Safe.ext E269 CR268.1 (Safe.new (Nat.le_of_eq g269.symm))) sf0) CR269.1)
                  have hcd273 : StrChars.Road.CodA ([v0, v1] : List Int32) 0 (2 : Int32) ((([v0, v1] : List Int32).map (fun c => c.toInt8.toInt32)).map Value.int) := StrChars.Road.codOf (n := 2) rfl (fun c hc => (hp270 c hc).2)
                  refine Ends.pre (T' := T273.setTop (mkF m 203 #[.val (.int x0), .val (.int x1), .val (.int x2), .val (.int (1 : Int32)), .val (.int (2 : Int32)), .val (.int (0 : Int32)), .val (.int f6), .val (.int f7), .val (.int u0), .val (.int u1), .val (.int v0), .val (.int v1), .val (.ref b150), .val (.ref b261), .val (.ref b264), .unset, .unset, .unset, .unset] [(.ref b269)])) (fun t k => st273.trans k) ?_
                  refine Ends.pre (fun t k => XS.astore (g := (mkF m 203 #[.val (.int x0), .val (.int x1), .val (.int x2), .val (.int (1 : Int32)), .val (.int (2 : Int32)), .val (.int (0 : Int32)), .val (.int f6), .val (.int f7), .val (.int u0), .val (.int u1), .val (.int v0), .val (.int v1), .val (.ref b150), .val (.ref b261), .val (.ref b264), .unset, .unset, .unset, .unset] [(.ref b269)])) X273.here hx rfl (hb hby at_203) rfl rfl (l' := #[.val (.int x0), .val (.int x1), .val (.int x2), .val (.int (1 : Int32)), .val (.int (2 : Int32)), .val (.int (0 : Int32)), .val (.int f6), .val (.int f7), .val (.int u0), .val (.int u1), .val (.int v0), .val (.int v1), .val (.ref b150), .val (.ref b261), .val (.ref b264), .val (.ref b269), .unset, .unset, .unset]) rfl k) ?_
                  have J219_274 : ∀ (TJ274 : State) (XJ274 : SS X273 TJ274) (eJ274 : TJ274.heap = T273.heap) (ac : Addr), Jvm.RoadKit.Ends p e below (EndW s room_1 Z consts_1 (Q_rm0 Z x0 x1 x2 wREAD wWRITE cz fm h0 n0)) (TJ274.setTop (mkF m 219 #[.val (.int x0), .val (.int x1), .val (.int x2), .val (.int (1 : Int32)), .val (.int (2 : Int32)), .val (.int (0 : Int32)), .val (.int f6), .val (.int f7), .val (.int u0), .val (.int u1), .val (.int v0), .val (.int v1), .val (.ref b150), .val (.ref b261), .val (.ref b264), .val (.ref b269), .unset, .unset, .unset] [(.ref ac)])) := by
                    intro TJ274 XJ274 eJ274 ac
                    unfold SS at XJ274
                    refine Ends.pre (fun t k => XS.astore (g := (mkF m 219 #[.val (.int x0), .val (.int x1), .val (.int x2), .val (.int (1 : Int32)), .val (.int (2 : Int32)), .val (.int (0 : Int32)), .val (.int f6), .val (.int f7), .val (.int u0), .val (.int u1), .val (.int v0), .val (.int v1), .val (.ref b150), .val (.ref b261), .val (.ref b264), .val (.ref b269), .unset, .unset, .unset] [(.ref ac)])) XJ274.here hx rfl (hb hby at_219) rfl rfl (l' := #[.val (.int x0), .val (.int x1), .val (.int x2), .val (.int (1 : Int32)), .val (.int (2 : Int32)), .val (.int (0 : Int32)), .val (.int f6), .val (.int f7), .val (.int u0), .val (.int u1), .val (.int v0), .val (.int v1), .val (.ref b150), .val (.ref b261), .val (.ref b264), .val (.ref b269), .val (.ref ac), .unset, .unset]) rfl k) ?_
                    obtain ⟨T275, h275, X275, e275, E275, A275, D275, -, st275⟩ := newO XJ274 hx hZ hown (hw _ (List.mem_of_getElem? (i := 36) rfl)) (hw _ (List.mem_of_getElem? (i := 37) rfl)) (hw _ (List.mem_of_getElem? (i := 38) rfl)) eJ274 (g := (mkF m 221 #[.val (.int x0), .val (.int x1), .val (.int x2), .val (.int (1 : Int32)), .val (.int (2 : Int32)), .val (.int (0 : Int32)), .val (.int f6), .val (.int f7), .val (.int u0), .val (.int u1), .val (.int v0), .val (.int v1), .val (.ref b150), .val (.ref b261), .val (.ref b264), .val (.ref b269), .val (.ref ac), .unset, .unset] [])) rfl (hb hby at_221) (by decide) (by decide)
                    obtain ⟨b275, g275⟩ : ∃ z, z = T273.heap.size := ⟨_, rfl⟩
                    rw [← g275] at A275 D275 st275
                    have ge_b275 : n0 ≤ b275 := Nat.le_trans (Nat.le_trans (Nat.le_trans (Nat.le_trans (Nat.le_trans (Nat.le_trans (Nat.le_trans (Nat.le_trans (Nat.le_trans (Nat.le_trans Z0 E150.1) (Keep.of_wr W151).1) E261.1) (Keep.of_wr W262).1) (Keep.of_wr W263).1) E264.1) Kc268.1) E269.1) Kc273.1) (Nat.le_of_eq g275.symm)
                    have sz_b275 : h0.size ≤ b275 := Nat.le_trans K273.1 (Nat.le_of_eq g275.symm)
                    have CR275 := CHr.trans CR273 (CHr.ext E275 CR273.1)
                    have K275 : Keep h0 h275 [] := K273.ext E275
                    have Fd275_holder : Fld Z h275 b275 "com/example/static_permission_checker/staticpermissionchecker/core/FlowConstraint" "holder" "Ljava/lang/String;" .null := D275 (Or.inr (hw _ (List.mem_of_getElem? (i := 55) rfl))) (ty := (.object "java/lang/String")) (by decide)
                    have Fd275_access : Fld Z h275 b275 "com/example/static_permission_checker/staticpermissionchecker/core/FlowConstraint" "access" "Lcom/example/static_permission_checker/staticpermissionchecker/core/FlowConstraint$Access;" .null := D275 (Or.inr (hw _ (List.mem_of_getElem? (i := 57) rfl))) (ty := (.object "com/example/static_permission_checker/staticpermissionchecker/core/FlowConstraint$Access")) (by decide)
                    have Fd275_guard : Fld Z h275 b275 "com/example/static_permission_checker/staticpermissionchecker/core/FlowConstraint" "guard" "Ljava/lang/String;" .null := D275 (Or.inr (hw _ (List.mem_of_getElem? (i := 59) rfl))) (ty := (.object "java/lang/String")) (by decide)
                    refine Ends.pre (T' := T275.setTop (mkF m 224 #[.val (.int x0), .val (.int x1), .val (.int x2), .val (.int (1 : Int32)), .val (.int (2 : Int32)), .val (.int (0 : Int32)), .val (.int f6), .val (.int f7), .val (.int u0), .val (.int u1), .val (.int v0), .val (.int v1), .val (.ref b150), .val (.ref b261), .val (.ref b264), .val (.ref b269), .val (.ref ac), .unset, .unset] [(.ref b275)])) (fun t k => st275 _ k) ?_
                    refine Ends.pre (fun t k => XS.dup X275.here hx rfl (hb hby at_224) rfl rfl k) ?_
                    refine Ends.pre (fun t k => XS.aload X275.here hx rfl (hb hby at_225) rfl rfl k) ?_
                    refine Ends.pre (fun t k => XS.aload X275.here hx rfl (hb hby at_227) rfl rfl k) ?_
                    refine Ends.pre (fun t k => XS.aload X275.here hx rfl (hb hby at_229) rfl rfl k) ?_
                    obtain ⟨_, _, ⟨T276, L276, k276, n276⟩, -, Xa276, hSa276, ga276, ⟨Lc276, hQ276, l276, y276, z276, CRc276⟩, st276⟩ := X275.specialBackS hx (y := (⟨"com/example/static_permission_checker/staticpermissionchecker/core/FlowConstraint", "<init>", "(Ljava/lang/String;Lcom/example/static_permission_checker/staticpermissionchecker/core/FlowConstraint$Access;Ljava/lang/String;)V"⟩ : MethodName)) rfl hown (mvT hZ (hw _ (List.mem_of_getElem? (i := 39) rfl))) (mvT hZ (hw _ (List.mem_of_getElem? (i := 40) rfl))) (mvT hZ (hw _ (List.mem_of_getElem? (i := 41) rfl))) (by decide) (backOfSH (W := 1) (rm7r l Z a0 hw [] b275 b264 ac b269 h275 n0 (Nat.le_trans (Nat.le_trans (Nat.le_trans (Nat.le_trans (Nat.le_trans (Nat.le_trans (Nat.le_trans (Nat.le_trans (Nat.le_trans (Nat.le_trans Z0 E150.1) (Keep.of_wr W151).1) E261.1) (Keep.of_wr W262).1) (Keep.of_wr W263).1) E264.1) Kc268.1) E269.1) Kc273.1) E275.1) A275 ge_b275 Fd275_holder Fd275_access Fd275_guard) hZ (hw _ (List.mem_of_getElem? (i := 41) rfl)) (hw _ (List.mem_of_getElem? (i := 38) rfl)) (by decide) (by decide) hEL CR275.1) (g := (mkF m 231 #[.val (.int x0), .val (.int x1), .val (.int x2), .val (.int (1 : Int32)), .val (.int (2 : Int32)), .val (.int (0 : Int32)), .val (.int f6), .val (.int f7), .val (.int u0), .val (.int u1), .val (.int v0), .val (.int v1), .val (.ref b150), .val (.ref b261), .val (.ref b264), .val (.ref b269), .val (.ref ac), .unset, .unset] [(.ref b269), (.ref ac), (.ref b264), (.ref b275), (.ref b275)])) rfl (by rw [hml]; rfl) (Steps.refl _) (a := b275) (argsL := [(.ref b264), (.ref ac), (.ref b269)]) (rest := [(.ref b275)]) (lenOf pd_5 rfl) rfl (by show 2 * 0 + _ ≤ _; exact Nat.le_of_eq rfl) (hb hby at_231) (fun _ _ => ⟨rfl, e275, (by decide : 7 + 4 ≤ _), (by decide : 17 + 52 ≤ _)⟩)
                    dsimp only [Pt.U, Pt.locs, Pt.cells, Pt.slots] at Xa276 hSa276 ga276 l276 y276 z276 st276 hQ276 CRc276
                    subst l276 y276 z276
                    obtain ⟨X276, hS276, hZ276, hown276⟩ := rebS hS0 (n1 := T275.heap.size) (by rw [e275]; exact (Nat.le_trans (Nat.le_trans (Nat.le_trans (Nat.le_trans (Nat.le_trans (Nat.le_trans (Nat.le_trans (Nat.le_trans (Nat.le_trans (Nat.le_trans hk0 E150.1) (Keep.of_wr W151).1) E261.1) (Keep.of_wr W262).1) (Keep.of_wr W263).1) E264.1) Kc268.1) E269.1) Kc273.1) E275.1)) Xa276 hSa276 ga276 hZ hown
                    obtain ⟨rfl, N276q, Kc276, Ec276, Fh276, Fg276⟩ := hQ276
                    have N276 := Fr.app N273 N276q
                    have K276 : Keep h0 T276.heap [] := K275.trans Kc276 (allS (Or.inr sz_b275) all0)
                    have CR276 := CHr.trans CR275 CRc276
                    refine Ends.pre (T' := T276.setTop (mkF m 234 #[.val (.int x0), .val (.int x1), .val (.int x2), .val (.int (1 : Int32)), .val (.int (2 : Int32)), .val (.int (0 : Int32)), .val (.int f6), .val (.int f7), .val (.int u0), .val (.int u1), .val (.int v0), .val (.int v1), .val (.ref b150), .val (.ref b261), .val (.ref b264), .val (.ref b269), .val (.ref ac), .unset, .unset] [(.ref b275)])) (fun t k => st276.trans k) ?_
                    refine Ends.pre (fun t k => XS.astore (g := (mkF m 234 #[.val (.int x0), .val (.int x1), .val (.int x2), .val (.int (1 : Int32)), .val (.int (2 : Int32)), .val (.int (0 : Int32)), .val (.int f6), .val (.int f7), .val (.int u0), .val (.int u1), .val (.int v0), .val (.int v1), .val (.ref b150), .val (.ref b261), .val (.ref b264), .val (.ref b269), .val (.ref ac), .unset, .unset] [(.ref b275)])) X276.here hx rfl (hb hby at_234) rfl rfl (l' := #[.val (.int x0), .val (.int x1), .val (.int x2), .val (.int (1 : Int32)), .val (.int (2 : Int32)), .val (.int (0 : Int32)), .val (.int f6), .val (.int f7), .val (.int u0), .val (.int u1), .val (.int v0), .val (.int v1), .val (.ref b150), .val (.ref b261), .val (.ref b264), .val (.ref b269), .val (.ref ac), .val (.ref b275), .unset]) rfl k) ?_
                    refine Ends.pre (fun t k => XS.iload X276.here hx rfl (hb hby at_236) rfl k) ?_
                    refine Ends.pre (T' := T276.setTop (mkF m 241 #[.val (.int x0), .val (.int x1), .val (.int x2), .val (.int (1 : Int32)), .val (.int (2 : Int32)), .val (.int (0 : Int32)), .val (.int f6), .val (.int f7), .val (.int u0), .val (.int u1), .val (.int v0), .val (.int v1), .val (.ref b150), .val (.ref b261), .val (.ref b264), .val (.ref b269), .val (.ref ac), .val (.ref b275), .unset] [])) (fun t k => XS.ifNo X276.here hx rfl (hb hby at_238) rfl (by decide) k) ?_
                    refine Ends.pre (fun t k => XS.iloadN X276.here hx rfl (hb hby at_241) rfl k) ?_
                    refine Ends.pre (fun t k => XS.iload X276.here hx rfl (hb hby at_242) rfl k) ?_
                    refine Ends.pre (T' := T276.setTop (mkF m 275 #[.val (.int x0), .val (.int x1), .val (.int x2), .val (.int (1 : Int32)), .val (.int (2 : Int32)), .val (.int (0 : Int32)), .val (.int f6), .val (.int f7), .val (.int u0), .val (.int u1), .val (.int v0), .val (.int v1), .val (.ref b150), .val (.ref b261), .val (.ref b264), .val (.ref b269), .val (.ref ac), .val (.ref b275), .unset] [])) (fun t k => XS.icmpYes X276.here hx rfl (pc0 := 244) (pc' := 275) rfl (hb hby at_244) rfl (by decide) (by decide) (by decide) k) ?_
                    refine Ends.pre (fun t k => XS.iconst X276.here hx rfl (hb hby at_275) k) ?_
                    refine Ends.pre (fun t k => XS.istore (g := (mkF m 276 #[.val (.int x0), .val (.int x1), .val (.int x2), .val (.int (1 : Int32)), .val (.int (2 : Int32)), .val (.int (0 : Int32)), .val (.int f6), .val (.int f7), .val (.int u0), .val (.int u1), .val (.int v0), .val (.int v1), .val (.ref b150), .val (.ref b261), .val (.ref b264), .val (.ref b269), .val (.ref ac), .val (.ref b275), .unset] [(.int (0 : Int32))])) X276.here hx rfl (hb hby at_276) rfl (l' := #[.val (.int x0), .val (.int x1), .val (.int x2), .val (.int (1 : Int32)), .val (.int (2 : Int32)), .val (.int (0 : Int32)), .val (.int f6), .val (.int f7), .val (.int u0), .val (.int u1), .val (.int v0), .val (.int v1), .val (.ref b150), .val (.ref b261), .val (.ref b264), .val (.ref b269), .val (.ref ac), .val (.ref b275), .val (.int (0 : Int32))]) rfl k) ?_
                    refine Ends.pre (fun t k => XS.aload X276.here hx rfl (hb hby at_278) rfl rfl k) ?_
                    have F277 : Exa Z T276.heap b269 "java/lang/String" := ((Es273.ext E275).keep Kc276)
                    have F278 : Fld Z T276.heap b269 "java/lang/String" "value" "[B" (.ref t273) := ((Vs273.ext E275).keep Kc276 (ninS (Nat.ne_of_lt (Nat.lt_of_lt_of_le (Nat.lt_of_lt_of_le A269.lt Kc273.1) (Nat.le_of_eq g275.symm))) nin0))
                    have F279 : Fld Z T276.heap b269 "java/lang/String" "coder" "B" (.int 0) := ((Cs273.ext E275).keep Kc276 (ninS (Nat.ne_of_lt (Nat.lt_of_lt_of_le (Nat.lt_of_lt_of_le A269.lt Kc273.1) (Nat.le_of_eq g275.symm))) nin0))
                    have F280 : Arv Z T276.heap t273 kb273 .byte (2 : Int32) ((([v0, v1] : List Int32).map (fun c => c.toInt8.toInt32)).map Value.int) (.int 0) := ((Arv.ext As273 E275).keep Kc276 (ninS (Nat.ne_of_lt (Nat.lt_of_lt_of_le As273.lt (Nat.le_of_eq g275.symm))) nin0))
                    have F281 : Exa Z T276.heap b264 "java/lang/String" := ((((Es268.ext E269).keep Kc273).ext E275).keep Kc276)
                    have F282 : Fld Z T276.heap b264 "java/lang/String" "value" "[B" (.ref t268) := ((((Vs268.ext E269).keep Kc273 (ninS (Nat.ne_of_lt (Nat.lt_of_lt_of_le (Nat.lt_of_lt_of_le A264.lt Kc268.1) (Nat.le_of_eq g269.symm))) nin0)).ext E275).keep Kc276 (ninS (Nat.ne_of_lt (Nat.lt_of_lt_of_le (Nat.lt_of_lt_of_le (Nat.lt_of_lt_of_le (Nat.lt_of_lt_of_le A264.lt Kc268.1) E269.1) Kc273.1) (Nat.le_of_eq g275.symm))) nin0))
                    have F283 : Fld Z T276.heap b264 "java/lang/String" "coder" "B" (.int 0) := ((((Cs268.ext E269).keep Kc273 (ninS (Nat.ne_of_lt (Nat.lt_of_lt_of_le (Nat.lt_of_lt_of_le A264.lt Kc268.1) (Nat.le_of_eq g269.symm))) nin0)).ext E275).keep Kc276 (ninS (Nat.ne_of_lt (Nat.lt_of_lt_of_le (Nat.lt_of_lt_of_le (Nat.lt_of_lt_of_le (Nat.lt_of_lt_of_le A264.lt Kc268.1) E269.1) Kc273.1) (Nat.le_of_eq g275.symm))) nin0))
                    have F284 : Arv Z T276.heap t268 kb268 .byte (1 : Int32) ((([u0] : List Int32).map (fun c => c.toInt8.toInt32)).map Value.int) (.int 0) := ((Arv.ext ((Arv.ext As268 E269).keep Kc273 (ninS (Nat.ne_of_lt (Nat.lt_of_lt_of_le As268.lt (Nat.le_of_eq g269.symm))) nin0)) E275).keep Kc276 (ninS (Nat.ne_of_lt (Nat.lt_of_lt_of_le (Nat.lt_of_lt_of_le (Nat.lt_of_lt_of_le As268.lt E269.1) Kc273.1) (Nat.le_of_eq g275.symm))) nin0))
                    have F285 : Sta Z T276.heap "java/lang/String" "COMPACT_STRINGS" "Z" (.int cz) := (Sta_keep0 SCS K276)
                    have F286 : Sta Z T276.heap "jdk/internal/util/Preconditions" "SIOOBE_FORMATTER" "Ljava/util/function/BiFunction;" fm := (Sta_keep0 SFM K276)
                    obtain ⟨cq287, kq287, q287a, q287b, q287c⟩ := isOf hZ276 rfl Ec276
                    obtain ⟨_, _, ⟨T287, L287, k287, n287⟩, -, X287, ⟨Lc287, hQ287, l287, y287, z287⟩, st287⟩ := X276.virtualBack hx (y := (⟨"com/example/static_permission_checker/staticpermissionchecker/core/FlowConstraint", "holds", "()Z"⟩ : MethodName)) (z := (⟨"com/example/static_permission_checker/staticpermissionchecker/core/FlowConstraint", "holds", "()Z"⟩ : MethodName)) hown276 (mvT hZ276 (hw _ (List.mem_of_getElem? (i := 60) rfl))) (mvT hZ276 (hw _ (List.mem_of_getElem? (i := 61) rfl))) (notFace_of_selects (args := #[]) (mvT hZ276 (hw _ (List.mem_of_getElem? (i := 63) rfl)))) (mvT hZ276 (hw _ (List.mem_of_getElem? (i := 63) rfl))) (mvT hZ276 (hw _ (List.mem_of_getElem? (i := 62) rfl))) (by decide) (backOf (W := 0) (rm10d l Z a0 hw [] b275 b269 t273 kb273 ([v0, v1] : List Int32) (2 : Int32) _ b264 t268 kb268 ([u0] : List Int32) (1 : Int32) _ cz fm T276.heap n0 (Nat.le_trans (Nat.le_trans (Nat.le_trans (Nat.le_trans (Nat.le_trans (Nat.le_trans (Nat.le_trans (Nat.le_trans (Nat.le_trans (Nat.le_trans (Nat.le_trans Z0 E150.1) (Keep.of_wr W151).1) E261.1) (Keep.of_wr W262).1) (Keep.of_wr W263).1) E264.1) Kc268.1) E269.1) Kc273.1) E275.1) Kc276.1) F277 F279 F278 F280 hcd273 hbd270 (Nat.le_of_ble_eq_true rfl) F281 F283 F282 F284 hcd268 hbd265 (Nat.le_of_ble_eq_true rfl) Fh276 Fg276 F285 hcz F286 hfm (by simp)) hZ276 (hw _ (List.mem_of_getElem? (i := 64) rfl)) (hw _ (List.mem_of_getElem? (i := 38) rfl)) (by decide) (by decide)) q287a q287c (g := (mkF m 280 #[.val (.int x0), .val (.int x1), .val (.int x2), .val (.int (1 : Int32)), .val (.int (2 : Int32)), .val (.int (0 : Int32)), .val (.int f6), .val (.int f7), .val (.int u0), .val (.int u1), .val (.int v0), .val (.int v1), .val (.ref b150), .val (.ref b261), .val (.ref b264), .val (.ref b269), .val (.ref ac), .val (.ref b275), .val (.int (0 : Int32))] [(.ref b275)])) rfl (by rw [hml]; rfl) (Steps.refl _) (argsL := []) (rest := []) (lenOf pd_6 rfl) rfl (by show 2 * 0 + _ ≤ _; exact Nat.le_of_eq rfl) (hb hby at_280) (fun _ _ => ⟨rfl, rfl, (by decide : 11 + 0 ≤ _), (by decide : 69 + 0 ≤ _)⟩)
                    dsimp only [Pt.U, Pt.locs, Pt.cells, Pt.slots] at X287 l287 y287 z287 st287 hQ287
                    subst l287 y287 z287
                    obtain ⟨rfl, N287q, eh287⟩ := hQ287
                    have N287 := Fr.app N276 N287q
                    refine Ends.pre (T' := T287.setTop (mkF m 283 #[.val (.int x0), .val (.int x1), .val (.int x2), .val (.int (1 : Int32)), .val (.int (2 : Int32)), .val (.int (0 : Int32)), .val (.int f6), .val (.int f7), .val (.int u0), .val (.int u1), .val (.int v0), .val (.int v1), .val (.ref b150), .val (.ref b261), .val (.ref b264), .val (.ref b269), .val (.ref ac), .val (.ref b275), .val (.int (0 : Int32))] [(.int (0 : Int32))])) (fun t k => st287.trans k) ?_
                    refine Ends.pre (fun t k => XS.iload X287.here hx rfl (hb hby at_283) rfl k) ?_
                    refine Ends.pre (T' := T287.setTop (mkF m 288 #[.val (.int x0), .val (.int x1), .val (.int x2), .val (.int (1 : Int32)), .val (.int (2 : Int32)), .val (.int (0 : Int32)), .val (.int f6), .val (.int f7), .val (.int u0), .val (.int u1), .val (.int v0), .val (.int v1), .val (.ref b150), .val (.ref b261), .val (.ref b264), .val (.ref b269), .val (.ref ac), .val (.ref b275), .val (.int (0 : Int32))] [])) (fun t k => XS.icmpNo X287.here hx rfl (hb hby at_285) rfl (by decide) k) ?_
                    refine Ends.pre (fun t k => XS.iconst X287.here hx rfl (hb hby at_288) k) ?_
                    refine Ends.pre (fun t k => XS.goto X287.here hx rfl (pc0 := 289) (pc' := 293) rfl (hb hby at_289) (by decide) (by decide) k) ?_
                    exact Ends.retW (w := (.int (1 : Int32))) X287 hx Bd.notSynchronized Bd.returns rfl (Or.inl ⟨rfl, Or.inr (Or.inl rfl), _, rfl⟩) (hb hby at_293) eh287 hZ276 hEL hS276 (Nat.le_refl _) hh CR276 ⟨rfl, N287⟩ (by decide) (by decide)
                  refine Ends.pre (fun t k => XS.iload X273.here hx rfl (hb hby at_205) rfl k) ?_
                  by_cases hc207_288 : f7 = 0
                  · refine Ends.pre (T' := T273.setTop (mkF m 216 #[.val (.int x0), .val (.int x1), .val (.int x2), .val (.int (1 : Int32)), .val (.int (2 : Int32)), .val (.int (0 : Int32)), .val (.int f6), .val (.int f7), .val (.int u0), .val (.int u1), .val (.int v0), .val (.int v1), .val (.ref b150), .val (.ref b261), .val (.ref b264), .val (.ref b269), .unset, .unset, .unset] [])) (fun t k => XS.ifYes X273.here hx rfl (pc0 := 207) (pc' := 216) rfl (hb hby at_207) rfl (Jvm.Free.XT.i0_eq_t hc207_288) (by decide) (by decide) k) ?_
                    have F289 : Sta Z T273.heap "com/example/static_permission_checker/staticpermissionchecker/core/FlowConstraint$Access" "READ" "Lcom/example/static_permission_checker/staticpermissionchecker/core/FlowConstraint$Access;" (.ref wREAD) := (Sta_keep0 S_READ K273)
                    obtain ⟨T290, X290, e290, st290⟩ := getS2 X273 hx hZ hown (host := "") (Or.inl (hw _ (List.mem_of_getElem? (i := 33) rfl))) Via.refl rfl F289 (g := (mkF m 216 #[.val (.int x0), .val (.int x1), .val (.int x2), .val (.int (1 : Int32)), .val (.int (2 : Int32)), .val (.int (0 : Int32)), .val (.int f6), .val (.int f7), .val (.int u0), .val (.int u1), .val (.int v0), .val (.int v1), .val (.ref b150), .val (.ref b261), .val (.ref b264), .val (.ref b269), .unset, .unset, .unset] [])) rfl (hb hby at_216)
                    refine Ends.pre (T' := T290.setTop (mkF m 219 #[.val (.int x0), .val (.int x1), .val (.int x2), .val (.int (1 : Int32)), .val (.int (2 : Int32)), .val (.int (0 : Int32)), .val (.int f6), .val (.int f7), .val (.int u0), .val (.int u1), .val (.int v0), .val (.int v1), .val (.ref b150), .val (.ref b261), .val (.ref b264), .val (.ref b269), .unset, .unset, .unset] [(.ref wREAD)])) (fun t k => st290 _ k) ?_
                    exact J219_274 T290 X290 e290 wREAD
                  · refine Ends.pre (T' := T273.setTop (mkF m 210 #[.val (.int x0), .val (.int x1), .val (.int x2), .val (.int (1 : Int32)), .val (.int (2 : Int32)), .val (.int (0 : Int32)), .val (.int f6), .val (.int f7), .val (.int u0), .val (.int u1), .val (.int v0), .val (.int v1), .val (.ref b150), .val (.ref b261), .val (.ref b264), .val (.ref b269), .unset, .unset, .unset] [])) (fun t k => XS.ifNo X273.here hx rfl (hb hby at_207) rfl (Jvm.Free.XT.i0_eq_f hc207_288) k) ?_
                    have F291 : Sta Z T273.heap "com/example/static_permission_checker/staticpermissionchecker/core/FlowConstraint$Access" "WRITE" "Lcom/example/static_permission_checker/staticpermissionchecker/core/FlowConstraint$Access;" (.ref wWRITE) := (Sta_keep0 S_WRITE K273)
                    obtain ⟨T292, X292, e292, st292⟩ := getS2 X273 hx hZ hown (host := "") (Or.inl (hw _ (List.mem_of_getElem? (i := 75) rfl))) Via.refl rfl F291 (g := (mkF m 210 #[.val (.int x0), .val (.int x1), .val (.int x2), .val (.int (1 : Int32)), .val (.int (2 : Int32)), .val (.int (0 : Int32)), .val (.int f6), .val (.int f7), .val (.int u0), .val (.int u1), .val (.int v0), .val (.int v1), .val (.ref b150), .val (.ref b261), .val (.ref b264), .val (.ref b269), .unset, .unset, .unset] [])) rfl (hb hby at_210)
                    refine Ends.pre (T' := T292.setTop (mkF m 213 #[.val (.int x0), .val (.int x1), .val (.int x2), .val (.int (1 : Int32)), .val (.int (2 : Int32)), .val (.int (0 : Int32)), .val (.int f6), .val (.int f7), .val (.int u0), .val (.int u1), .val (.int v0), .val (.int v1), .val (.ref b150), .val (.ref b261), .val (.ref b264), .val (.ref b269), .unset, .unset, .unset] [(.ref wWRITE)])) (fun t k => st292 _ k) ?_
                    refine Ends.pre (fun t k => XS.goto X292.here hx rfl (pc0 := 213) (pc' := 219) rfl (hb hby at_213) (by decide) (by decide) k) ?_
                    exact J219_274 T292 X292 e292 wWRITE
                · refine Ends.pre (fun t k => XS.iload X263.here hx rfl (hb hby at_174) rfl k) ?_
                  refine Ends.pre (T' := T263.setTop (mkF m 179 #[.val (.int x0), .val (.int x1), .val (.int x2), .val (.int (1 : Int32)), .val (.int (2 : Int32)), .val (.int (1 : Int32)), .val (.int f6), .val (.int f7), .val (.int u0), .val (.int u1), .val (.int v0), .val (.int v1), .val (.ref b150), .val (.ref b261), .unset, .unset, .unset, .unset, .unset] [])) (fun t k => XS.ifNo X263.here hx rfl (hb hby at_176) rfl (by decide) k) ?_
                  refine Ends.pre (fun t k => XS.aconstNull X263.here hx rfl (hb hby at_179) k) ?_
                  refine Ends.pre (fun t k => XS.goto X263.here hx rfl (pc0 := 180) (pc' := 192) rfl (hb hby at_180) (by decide) (by decide) k) ?_
                  refine Ends.pre (fun t k => XS.astore (g := (mkF m 192 #[.val (.int x0), .val (.int x1), .val (.int x2), .val (.int (1 : Int32)), .val (.int (2 : Int32)), .val (.int (1 : Int32)), .val (.int f6), .val (.int f7), .val (.int u0), .val (.int u1), .val (.int v0), .val (.int v1), .val (.ref b150), .val (.ref b261), .unset, .unset, .unset, .unset, .unset] [.null])) X263.here hx rfl (hb hby at_192) rfl rfl (l' := #[.val (.int x0), .val (.int x1), .val (.int x2), .val (.int (1 : Int32)), .val (.int (2 : Int32)), .val (.int (1 : Int32)), .val (.int f6), .val (.int f7), .val (.int u0), .val (.int u1), .val (.int v0), .val (.int v1), .val (.ref b150), .val (.ref b261), .val .null, .unset, .unset, .unset, .unset]) rfl k) ?_
                  obtain ⟨T293, h293, X293, e293, E293, A293, D293, -, st293⟩ := newO X263 hx hZ hown (hw _ (List.mem_of_getElem? (i := 1) rfl)) (hw _ (List.mem_of_getElem? (i := 2) rfl)) (hw _ (List.mem_of_getElem? (i := 3) rfl)) e263 (g := (mkF m 194 #[.val (.int x0), .val (.int x1), .val (.int x2), .val (.int (1 : Int32)), .val (.int (2 : Int32)), .val (.int (1 : Int32)), .val (.int f6), .val (.int f7), .val (.int u0), .val (.int u1), .val (.int v0), .val (.int v1), .val (.ref b150), .val (.ref b261), .val .null, .unset, .unset, .unset, .unset] [])) rfl (hb hby at_194) (by decide) (by decide)
                  obtain ⟨b293, g293⟩ : ∃ z, z = h263.size := ⟨_, rfl⟩
                  rw [← g293] at A293 D293 st293
                  have ge_b293 : n0 ≤ b293 := Nat.le_trans (Nat.le_trans (Nat.le_trans (Nat.le_trans (Nat.le_trans (Nat.le_trans Z0 E150.1) (Keep.of_wr W151).1) E261.1) (Keep.of_wr W262).1) (Keep.of_wr W263).1) (Nat.le_of_eq g293.symm)
                  have sz_b293 : h0.size ≤ b293 := Nat.le_trans K263.1 (Nat.le_of_eq g293.symm)
                  have CR293 := CHr.trans CR263 (CHr.ext E293 CR263.1)
                  have K293 : Keep h0 h293 [] := K263.ext E293
                  have Fd293_coder : Fld Z h293 b293 "java/lang/String" "coder" "B" (.int (0 : Int32)) := D293 (Or.inr (hw _ (List.mem_of_getElem? (i := 27) rfl))) (ty := .byte) (by decide)
                  have Fd293_value : Fld Z h293 b293 "java/lang/String" "value" "[B" .null := D293 (Or.inr (hw _ (List.mem_of_getElem? (i := 29) rfl))) (ty := (.array .byte)) (by decide)
                  refine Ends.pre (T' := T293.setTop (mkF m 197 #[.val (.int x0), .val (.int x1), .val (.int x2), .val (.int (1 : Int32)), .val (.int (2 : Int32)), .val (.int (1 : Int32)), .val (.int f6), .val (.int f7), .val (.int u0), .val (.int u1), .val (.int v0), .val (.int v1), .val (.ref b150), .val (.ref b261), .val .null, .unset, .unset, .unset, .unset] [(.ref b293)])) (fun t k => st293 _ k) ?_
                  refine Ends.pre (fun t k => XS.dup X293.here hx rfl (hb hby at_197) rfl rfl k) ?_
                  refine Ends.pre (fun t k => XS.aload X293.here hx rfl (hb hby at_198) rfl rfl k) ?_
                  have hp294 : ∀ c ∈ ([v0, v1] : List Int32), ¬ c < 0 ∧ ¬ (255 : Int32) < c := (own_alS cv0 (own_alS cv1 own_al0))
                  have hbd294 := own_up _ hp294
                  have F295 : Arv Z h293 b261 k261 .char (2 : Int32) [(.int v0), (.int v1)] (.int (0 : Int32)) := (Arv.ext V263 E293)
                  have F296 : Sta Z h293 "java/lang/String" "COMPACT_STRINGS" "Z" (.int cz) := (Sta_keep0 SCS K293)
                  obtain ⟨_, _, ⟨T297, L297, k297, n297⟩, -, X297, ⟨Lc297, hQ297, l297, y297, z297⟩, st297⟩ := X293.specialBack hx (y := (⟨"java/lang/String", "<init>", "([C)V"⟩ : MethodName)) rfl hown (mvT hZ (hw _ (List.mem_of_getElem? (i := 4) rfl))) (mvT hZ (hw _ (List.mem_of_getElem? (i := 5) rfl))) (mvT hZ (hw _ (List.mem_of_getElem? (i := 6) rfl))) (by decide) (StrChars.Road.backV (W := 1) hZ (own_hws hw) (kI := 4) (hw _ (List.mem_of_getElem? (i := 2) rfl)) (cs := ([v0, v1] : List Int32)) (bs := (([v0, v1] : List Int32).map (fun c => c.toInt8.toInt32))) (n := 2) ge_b293 (Nat.le_trans (Nat.le_trans (Nat.le_trans (Nat.le_trans (Nat.le_trans (Nat.le_trans Z0 E150.1) (Keep.of_wr W151).1) E261.1) (Keep.of_wr W262).1) (Keep.of_wr W263).1) E293.1) A293 Fd293_value Fd293_coder F295 F296 hcz rfl rfl (by decide) (by decide) hp294 rfl (by decide) (by decide)) (g := (mkF m 200 #[.val (.int x0), .val (.int x1), .val (.int x2), .val (.int (1 : Int32)), .val (.int (2 : Int32)), .val (.int (1 : Int32)), .val (.int f6), .val (.int f7), .val (.int u0), .val (.int u1), .val (.int v0), .val (.int v1), .val (.ref b150), .val (.ref b261), .val .null, .unset, .unset, .unset, .unset] [(.ref b261), (.ref b293), (.ref b293)])) rfl (by rw [hml]; rfl) (Steps.refl _) (a := b293) (argsL := [(.ref b261)]) (rest := [(.ref b293)]) (lenOf pd_4 rfl) rfl (by show 2 * 0 + _ ≤ _; exact Nat.le_of_eq rfl) (hb hby at_200) (fun _ _ => ⟨rfl, e293, (by decide : 3 + 1 ≤ _), (by decide : 7 + 2 ≤ _)⟩)
                  dsimp only [Pt.U, Pt.locs, Pt.cells, Pt.slots] at X297 l297 y297 z297 st297 hQ297
                  subst l297 y297 z297
                  obtain ⟨rfl, N297q, Kc297, Es297, Cs297, t297, kb297, gt297, ft297, nt297, Vs297, As297⟩ := hQ297
                  have N297 := Fr.app N263 N297q
                  have K297 : Keep h0 T297.heap [] := K293.trans Kc297 (allS (Or.inr sz_b293) all0)
                  have CR297 := CHr.trans CR293 (CHr.keep Kc297 (sfS (Safe.ext E293 CR263.1 (Safe.new (Nat.le_of_eq g293.symm))) sf0) CR293.1)
                  have hcd297 : StrChars.Road.CodA ([v0, v1] : List Int32) 0 (2 : Int32) ((([v0, v1] : List Int32).map (fun c => c.toInt8.toInt32)).map Value.int) := StrChars.Road.codOf (n := 2) rfl (fun c hc => (hp294 c hc).2)
                  refine Ends.pre (T' := T297.setTop (mkF m 203 #[.val (.int x0), .val (.int x1), .val (.int x2), .val (.int (1 : Int32)), .val (.int (2 : Int32)), .val (.int (1 : Int32)), .val (.int f6), .val (.int f7), .val (.int u0), .val (.int u1), .val (.int v0), .val (.int v1), .val (.ref b150), .val (.ref b261), .val .null, .unset, .unset, .unset, .unset] [(.ref b293)])) (fun t k => st297.trans k) ?_
                  refine Ends.pre (fun t k => XS.astore (g := (mkF m 203 #[.val (.int x0), .val (.int x1), .val (.int x2), .val (.int (1 : Int32)), .val (.int (2 : Int32)), .val (.int (1 : Int32)), .val (.int f6), .val (.int f7), .val (.int u0), .val (.int u1), .val (.int v0), .val (.int v1), .val (.ref b150), .val (.ref b261), .val .null, .unset, .unset, .unset, .unset] [(.ref b293)])) X297.here hx rfl (hb hby at_203) rfl rfl (l' := #[.val (.int x0), .val (.int x1), .val (.int x2), .val (.int (1 : Int32)), .val (.int (2 : Int32)), .val (.int (1 : Int32)), .val (.int f6), .val (.int f7), .val (.int u0), .val (.int u1), .val (.int v0), .val (.int v1), .val (.ref b150), .val (.ref b261), .val .null, .val (.ref b293), .unset, .unset, .unset]) rfl k) ?_
                  have J219_298 : ∀ (TJ298 : State) (XJ298 : SS X297 TJ298) (eJ298 : TJ298.heap = T297.heap) (ac : Addr), Jvm.RoadKit.Ends p e below (EndW s room_1 Z consts_1 (Q_rm0 Z x0 x1 x2 wREAD wWRITE cz fm h0 n0)) (TJ298.setTop (mkF m 219 #[.val (.int x0), .val (.int x1), .val (.int x2), .val (.int (1 : Int32)), .val (.int (2 : Int32)), .val (.int (1 : Int32)), .val (.int f6), .val (.int f7), .val (.int u0), .val (.int u1), .val (.int v0), .val (.int v1), .val (.ref b150), .val (.ref b261), .val .null, .val (.ref b293), .unset, .unset, .unset] [(.ref ac)])) := by
                    intro TJ298 XJ298 eJ298 ac
                    unfold SS at XJ298
                    refine Ends.pre (fun t k => XS.astore (g := (mkF m 219 #[.val (.int x0), .val (.int x1), .val (.int x2), .val (.int (1 : Int32)), .val (.int (2 : Int32)), .val (.int (1 : Int32)), .val (.int f6), .val (.int f7), .val (.int u0), .val (.int u1), .val (.int v0), .val (.int v1), .val (.ref b150), .val (.ref b261), .val .null, .val (.ref b293), .unset, .unset, .unset] [(.ref ac)])) XJ298.here hx rfl (hb hby at_219) rfl rfl (l' := #[.val (.int x0), .val (.int x1), .val (.int x2), .val (.int (1 : Int32)), .val (.int (2 : Int32)), .val (.int (1 : Int32)), .val (.int f6), .val (.int f7), .val (.int u0), .val (.int u1), .val (.int v0), .val (.int v1), .val (.ref b150), .val (.ref b261), .val .null, .val (.ref b293), .val (.ref ac), .unset, .unset]) rfl k) ?_
                    obtain ⟨T299, h299, X299, e299, E299, A299, D299, -, st299⟩ := newO XJ298 hx hZ hown (hw _ (List.mem_of_getElem? (i := 36) rfl)) (hw _ (List.mem_of_getElem? (i := 37) rfl)) (hw _ (List.mem_of_getElem? (i := 38) rfl)) eJ298 (g := (mkF m 221 #[.val (.int x0), .val (.int x1), .val (.int x2), .val (.int (1 : Int32)), .val (.int (2 : Int32)), .val (.int (1 : Int32)), .val (.int f6), .val (.int f7), .val (.int u0), .val (.int u1), .val (.int v0), .val (.int v1), .val (.ref b150), .val (.ref b261), .val .null, .val (.ref b293), .val (.ref ac), .unset, .unset] [])) rfl (hb hby at_221) (by decide) (by decide)
                    obtain ⟨b299, g299⟩ : ∃ z, z = T297.heap.size := ⟨_, rfl⟩
                    rw [← g299] at A299 D299 st299
                    have ge_b299 : n0 ≤ b299 := Nat.le_trans (Nat.le_trans (Nat.le_trans (Nat.le_trans (Nat.le_trans (Nat.le_trans (Nat.le_trans (Nat.le_trans Z0 E150.1) (Keep.of_wr W151).1) E261.1) (Keep.of_wr W262).1) (Keep.of_wr W263).1) E293.1) Kc297.1) (Nat.le_of_eq g299.symm)
                    have sz_b299 : h0.size ≤ b299 := Nat.le_trans K297.1 (Nat.le_of_eq g299.symm)
                    have CR299 := CHr.trans CR297 (CHr.ext E299 CR297.1)
                    have K299 : Keep h0 h299 [] := K297.ext E299
                    have Fd299_holder : Fld Z h299 b299 "com/example/static_permission_checker/staticpermissionchecker/core/FlowConstraint" "holder" "Ljava/lang/String;" .null := D299 (Or.inr (hw _ (List.mem_of_getElem? (i := 55) rfl))) (ty := (.object "java/lang/String")) (by decide)
                    have Fd299_access : Fld Z h299 b299 "com/example/static_permission_checker/staticpermissionchecker/core/FlowConstraint" "access" "Lcom/example/static_permission_checker/staticpermissionchecker/core/FlowConstraint$Access;" .null := D299 (Or.inr (hw _ (List.mem_of_getElem? (i := 57) rfl))) (ty := (.object "com/example/static_permission_checker/staticpermissionchecker/core/FlowConstraint$Access")) (by decide)
                    have Fd299_guard : Fld Z h299 b299 "com/example/static_permission_checker/staticpermissionchecker/core/FlowConstraint" "guard" "Ljava/lang/String;" .null := D299 (Or.inr (hw _ (List.mem_of_getElem? (i := 59) rfl))) (ty := (.object "java/lang/String")) (by decide)
                    refine Ends.pre (T' := T299.setTop (mkF m 224 #[.val (.int x0), .val (.int x1), .val (.int x2), .val (.int (1 : Int32)), .val (.int (2 : Int32)), .val (.int (1 : Int32)), .val (.int f6), .val (.int f7), .val (.int u0), .val (.int u1), .val (.int v0), .val (.int v1), .val (.ref b150), .val (.ref b261), .val .null, .val (.ref b293), .val (.ref ac), .unset, .unset] [(.ref b299)])) (fun t k => st299 _ k) ?_
                    refine Ends.pre (fun t k => XS.dup X299.here hx rfl (hb hby at_224) rfl rfl k) ?_
                    refine Ends.pre (fun t k => XS.aload X299.here hx rfl (hb hby at_225) rfl rfl k) ?_
                    refine Ends.pre (fun t k => XS.aload X299.here hx rfl (hb hby at_227) rfl rfl k) ?_
                    refine Ends.pre (fun t k => XS.aload X299.here hx rfl (hb hby at_229) rfl rfl k) ?_
                    obtain ⟨_, _, ⟨T300, L300, k300, n300⟩, -, Xa300, hSa300, ga300, ⟨Lc300, hQ300, l300, y300, z300, CRc300⟩, st300⟩ := X299.specialBackS hx (y := (⟨"com/example/static_permission_checker/staticpermissionchecker/core/FlowConstraint", "<init>", "(Ljava/lang/String;Lcom/example/static_permission_checker/staticpermissionchecker/core/FlowConstraint$Access;Ljava/lang/String;)V"⟩ : MethodName)) rfl hown (mvT hZ (hw _ (List.mem_of_getElem? (i := 39) rfl))) (mvT hZ (hw _ (List.mem_of_getElem? (i := 40) rfl))) (mvT hZ (hw _ (List.mem_of_getElem? (i := 41) rfl))) (by decide) (backOfSH (W := 1) (rm7n l Z a0 hw [] b299 ac b293 h299 n0 (Nat.le_trans (Nat.le_trans (Nat.le_trans (Nat.le_trans (Nat.le_trans (Nat.le_trans (Nat.le_trans (Nat.le_trans Z0 E150.1) (Keep.of_wr W151).1) E261.1) (Keep.of_wr W262).1) (Keep.of_wr W263).1) E293.1) Kc297.1) E299.1) A299 ge_b299 Fd299_holder Fd299_access Fd299_guard) hZ (hw _ (List.mem_of_getElem? (i := 41) rfl)) (hw _ (List.mem_of_getElem? (i := 38) rfl)) (by decide) (by decide) hEL CR299.1) (g := (mkF m 231 #[.val (.int x0), .val (.int x1), .val (.int x2), .val (.int (1 : Int32)), .val (.int (2 : Int32)), .val (.int (1 : Int32)), .val (.int f6), .val (.int f7), .val (.int u0), .val (.int u1), .val (.int v0), .val (.int v1), .val (.ref b150), .val (.ref b261), .val .null, .val (.ref b293), .val (.ref ac), .unset, .unset] [(.ref b293), (.ref ac), .null, (.ref b299), (.ref b299)])) rfl (by rw [hml]; rfl) (Steps.refl _) (a := b299) (argsL := [.null, (.ref ac), (.ref b293)]) (rest := [(.ref b299)]) (lenOf pd_5 rfl) rfl (by show 2 * 0 + _ ≤ _; exact Nat.le_of_eq rfl) (hb hby at_231) (fun _ _ => ⟨rfl, e299, (by decide : 5 + 4 ≤ _), (by decide : 12 + 52 ≤ _)⟩)
                    dsimp only [Pt.U, Pt.locs, Pt.cells, Pt.slots] at Xa300 hSa300 ga300 l300 y300 z300 st300 hQ300 CRc300
                    subst l300 y300 z300
                    obtain ⟨X300, hS300, hZ300, hown300⟩ := rebS hS0 (n1 := T299.heap.size) (by rw [e299]; exact (Nat.le_trans (Nat.le_trans (Nat.le_trans (Nat.le_trans (Nat.le_trans (Nat.le_trans (Nat.le_trans (Nat.le_trans hk0 E150.1) (Keep.of_wr W151).1) E261.1) (Keep.of_wr W262).1) (Keep.of_wr W263).1) E293.1) Kc297.1) E299.1)) Xa300 hSa300 ga300 hZ hown
                    obtain ⟨rfl, N300q, Kc300, Ec300, Fh300, Fg300⟩ := hQ300
                    have N300 := Fr.app N297 N300q
                    have K300 : Keep h0 T300.heap [] := K299.trans Kc300 (allS (Or.inr sz_b299) all0)
                    have CR300 := CHr.trans CR299 CRc300
                    refine Ends.pre (T' := T300.setTop (mkF m 234 #[.val (.int x0), .val (.int x1), .val (.int x2), .val (.int (1 : Int32)), .val (.int (2 : Int32)), .val (.int (1 : Int32)), .val (.int f6), .val (.int f7), .val (.int u0), .val (.int u1), .val (.int v0), .val (.int v1), .val (.ref b150), .val (.ref b261), .val .null, .val (.ref b293), .val (.ref ac), .unset, .unset] [(.ref b299)])) (fun t k => st300.trans k) ?_
                    refine Ends.pre (fun t k => XS.astore (g := (mkF m 234 #[.val (.int x0), .val (.int x1), .val (.int x2), .val (.int (1 : Int32)), .val (.int (2 : Int32)), .val (.int (1 : Int32)), .val (.int f6), .val (.int f7), .val (.int u0), .val (.int u1), .val (.int v0), .val (.int v1), .val (.ref b150), .val (.ref b261), .val .null, .val (.ref b293), .val (.ref ac), .unset, .unset] [(.ref b299)])) X300.here hx rfl (hb hby at_234) rfl rfl (l' := #[.val (.int x0), .val (.int x1), .val (.int x2), .val (.int (1 : Int32)), .val (.int (2 : Int32)), .val (.int (1 : Int32)), .val (.int f6), .val (.int f7), .val (.int u0), .val (.int u1), .val (.int v0), .val (.int v1), .val (.ref b150), .val (.ref b261), .val .null, .val (.ref b293), .val (.ref ac), .val (.ref b299), .unset]) rfl k) ?_
                    refine Ends.pre (fun t k => XS.iload X300.here hx rfl (hb hby at_236) rfl k) ?_
                    refine Ends.pre (T' := T300.setTop (mkF m 275 #[.val (.int x0), .val (.int x1), .val (.int x2), .val (.int (1 : Int32)), .val (.int (2 : Int32)), .val (.int (1 : Int32)), .val (.int f6), .val (.int f7), .val (.int u0), .val (.int u1), .val (.int v0), .val (.int v1), .val (.ref b150), .val (.ref b261), .val .null, .val (.ref b293), .val (.ref ac), .val (.ref b299), .unset] [])) (fun t k => XS.ifYes X300.here hx rfl (pc0 := 238) (pc' := 275) rfl (hb hby at_238) rfl (by decide) (by decide) (by decide) k) ?_
                    refine Ends.pre (fun t k => XS.iconst X300.here hx rfl (hb hby at_275) k) ?_
                    refine Ends.pre (fun t k => XS.istore (g := (mkF m 276 #[.val (.int x0), .val (.int x1), .val (.int x2), .val (.int (1 : Int32)), .val (.int (2 : Int32)), .val (.int (1 : Int32)), .val (.int f6), .val (.int f7), .val (.int u0), .val (.int u1), .val (.int v0), .val (.int v1), .val (.ref b150), .val (.ref b261), .val .null, .val (.ref b293), .val (.ref ac), .val (.ref b299), .unset] [(.int (0 : Int32))])) X300.here hx rfl (hb hby at_276) rfl (l' := #[.val (.int x0), .val (.int x1), .val (.int x2), .val (.int (1 : Int32)), .val (.int (2 : Int32)), .val (.int (1 : Int32)), .val (.int f6), .val (.int f7), .val (.int u0), .val (.int u1), .val (.int v0), .val (.int v1), .val (.ref b150), .val (.ref b261), .val .null, .val (.ref b293), .val (.ref ac), .val (.ref b299), .val (.int (0 : Int32))]) rfl k) ?_
                    refine Ends.pre (fun t k => XS.aload X300.here hx rfl (hb hby at_278) rfl rfl k) ?_
                    have F301 : Exa Z T300.heap b293 "java/lang/String" := ((Es297.ext E299).keep Kc300)
                    have F302 : Fld Z T300.heap b293 "java/lang/String" "value" "[B" (.ref t297) := ((Vs297.ext E299).keep Kc300 (ninS (Nat.ne_of_lt (Nat.lt_of_lt_of_le (Nat.lt_of_lt_of_le A293.lt Kc297.1) (Nat.le_of_eq g299.symm))) nin0))
                    have F303 : Fld Z T300.heap b293 "java/lang/String" "coder" "B" (.int 0) := ((Cs297.ext E299).keep Kc300 (ninS (Nat.ne_of_lt (Nat.lt_of_lt_of_le (Nat.lt_of_lt_of_le A293.lt Kc297.1) (Nat.le_of_eq g299.symm))) nin0))
                    have F304 : Arv Z T300.heap t297 kb297 .byte (2 : Int32) ((([v0, v1] : List Int32).map (fun c => c.toInt8.toInt32)).map Value.int) (.int 0) := ((Arv.ext As297 E299).keep Kc300 (ninS (Nat.ne_of_lt (Nat.lt_of_lt_of_le As297.lt (Nat.le_of_eq g299.symm))) nin0))
                    have F305 : Sta Z T300.heap "java/lang/String" "COMPACT_STRINGS" "Z" (.int cz) := (Sta_keep0 SCS K300)
                    have F306 : Sta Z T300.heap "jdk/internal/util/Preconditions" "SIOOBE_FORMATTER" "Ljava/util/function/BiFunction;" fm := (Sta_keep0 SFM K300)
                    obtain ⟨cq307, kq307, q307a, q307b, q307c⟩ := isOf hZ300 rfl Ec300
                    obtain ⟨_, _, ⟨T307, L307, k307, n307⟩, -, X307, ⟨Lc307, hQ307, l307, y307, z307⟩, st307⟩ := X300.virtualBack hx (y := (⟨"com/example/static_permission_checker/staticpermissionchecker/core/FlowConstraint", "holds", "()Z"⟩ : MethodName)) (z := (⟨"com/example/static_permission_checker/staticpermissionchecker/core/FlowConstraint", "holds", "()Z"⟩ : MethodName)) hown300 (mvT hZ300 (hw _ (List.mem_of_getElem? (i := 60) rfl))) (mvT hZ300 (hw _ (List.mem_of_getElem? (i := 61) rfl))) (notFace_of_selects (args := #[]) (mvT hZ300 (hw _ (List.mem_of_getElem? (i := 63) rfl)))) (mvT hZ300 (hw _ (List.mem_of_getElem? (i := 63) rfl))) (mvT hZ300 (hw _ (List.mem_of_getElem? (i := 62) rfl))) (by decide) (backOf (W := 0) (rm10n l Z a0 hw [] b299 b293 t297 kb297 ([v0, v1] : List Int32) (2 : Int32) _  cz fm T300.heap n0 (Nat.le_trans (Nat.le_trans (Nat.le_trans (Nat.le_trans (Nat.le_trans (Nat.le_trans (Nat.le_trans (Nat.le_trans (Nat.le_trans Z0 E150.1) (Keep.of_wr W151).1) E261.1) (Keep.of_wr W262).1) (Keep.of_wr W263).1) E293.1) Kc297.1) E299.1) Kc300.1) F301 F303 F302 F304 hcd297 hbd294 (Nat.le_of_ble_eq_true rfl)  Fh300 Fg300 F305 hcz F306 hfm ) hZ300 (hw _ (List.mem_of_getElem? (i := 64) rfl)) (hw _ (List.mem_of_getElem? (i := 38) rfl)) (by decide) (by decide)) q307a q307c (g := (mkF m 280 #[.val (.int x0), .val (.int x1), .val (.int x2), .val (.int (1 : Int32)), .val (.int (2 : Int32)), .val (.int (1 : Int32)), .val (.int f6), .val (.int f7), .val (.int u0), .val (.int u1), .val (.int v0), .val (.int v1), .val (.ref b150), .val (.ref b261), .val .null, .val (.ref b293), .val (.ref ac), .val (.ref b299), .val (.int (0 : Int32))] [(.ref b299)])) rfl (by rw [hml]; rfl) (Steps.refl _) (argsL := []) (rest := []) (lenOf pd_6 rfl) rfl (by show 2 * 0 + _ ≤ _; exact Nat.le_of_eq rfl) (hb hby at_280) (fun _ _ => ⟨rfl, rfl, (by decide : 9 + 0 ≤ _), (by decide : 64 + 0 ≤ _)⟩)
                    dsimp only [Pt.U, Pt.locs, Pt.cells, Pt.slots] at X307 l307 y307 z307 st307 hQ307
                    subst l307 y307 z307
                    obtain ⟨rfl, N307q, eh307⟩ := hQ307
                    have N307 := Fr.app N300 N307q
                    refine Ends.pre (T' := T307.setTop (mkF m 283 #[.val (.int x0), .val (.int x1), .val (.int x2), .val (.int (1 : Int32)), .val (.int (2 : Int32)), .val (.int (1 : Int32)), .val (.int f6), .val (.int f7), .val (.int u0), .val (.int u1), .val (.int v0), .val (.int v1), .val (.ref b150), .val (.ref b261), .val .null, .val (.ref b293), .val (.ref ac), .val (.ref b299), .val (.int (0 : Int32))] [(.int (0 : Int32))])) (fun t k => st307.trans k) ?_
                    refine Ends.pre (fun t k => XS.iload X307.here hx rfl (hb hby at_283) rfl k) ?_
                    refine Ends.pre (T' := T307.setTop (mkF m 288 #[.val (.int x0), .val (.int x1), .val (.int x2), .val (.int (1 : Int32)), .val (.int (2 : Int32)), .val (.int (1 : Int32)), .val (.int f6), .val (.int f7), .val (.int u0), .val (.int u1), .val (.int v0), .val (.int v1), .val (.ref b150), .val (.ref b261), .val .null, .val (.ref b293), .val (.ref ac), .val (.ref b299), .val (.int (0 : Int32))] [])) (fun t k => XS.icmpNo X307.here hx rfl (hb hby at_285) rfl (by decide) k) ?_
                    refine Ends.pre (fun t k => XS.iconst X307.here hx rfl (hb hby at_288) k) ?_
                    refine Ends.pre (fun t k => XS.goto X307.here hx rfl (pc0 := 289) (pc' := 293) rfl (hb hby at_289) (by decide) (by decide) k) ?_
                    exact Ends.retW (w := (.int (1 : Int32))) X307 hx Bd.notSynchronized Bd.returns rfl (Or.inl ⟨rfl, Or.inr (Or.inl rfl), _, rfl⟩) (hb hby at_293) eh307 hZ300 hEL hS300 (Nat.le_refl _) hh CR300 ⟨rfl, N307⟩ (by decide) (by decide)
                  refine Ends.pre (fun t k => XS.iload X297.here hx rfl (hb hby at_205) rfl k) ?_
                  by_cases hc207_308 : f7 = 0
                  · refine Ends.pre (T' := T297.setTop (mkF m 216 #[.val (.int x0), .val (.int x1), .val (.int x2), .val (.int (1 : Int32)), .val (.int (2 : Int32)), .val (.int (1 : Int32)), .val (.int f6), .val (.int f7), .val (.int u0), .val (.int u1), .val (.int v0), .val (.int v1), .val (.ref b150), .val (.ref b261), .val .null, .val (.ref b293), .unset, .unset, .unset] [])) (fun t k => XS.ifYes X297.here hx rfl (pc0 := 207) (pc' := 216) rfl (hb hby at_207) rfl (Jvm.Free.XT.i0_eq_t hc207_308) (by decide) (by decide) k) ?_
                    have F309 : Sta Z T297.heap "com/example/static_permission_checker/staticpermissionchecker/core/FlowConstraint$Access" "READ" "Lcom/example/static_permission_checker/staticpermissionchecker/core/FlowConstraint$Access;" (.ref wREAD) := (Sta_keep0 S_READ K297)
                    obtain ⟨T310, X310, e310, st310⟩ := getS2 X297 hx hZ hown (host := "") (Or.inl (hw _ (List.mem_of_getElem? (i := 33) rfl))) Via.refl rfl F309 (g := (mkF m 216 #[.val (.int x0), .val (.int x1), .val (.int x2), .val (.int (1 : Int32)), .val (.int (2 : Int32)), .val (.int (1 : Int32)), .val (.int f6), .val (.int f7), .val (.int u0), .val (.int u1), .val (.int v0), .val (.int v1), .val (.ref b150), .val (.ref b261), .val .null, .val (.ref b293), .unset, .unset, .unset] [])) rfl (hb hby at_216)
                    refine Ends.pre (T' := T310.setTop (mkF m 219 #[.val (.int x0), .val (.int x1), .val (.int x2), .val (.int (1 : Int32)), .val (.int (2 : Int32)), .val (.int (1 : Int32)), .val (.int f6), .val (.int f7), .val (.int u0), .val (.int u1), .val (.int v0), .val (.int v1), .val (.ref b150), .val (.ref b261), .val .null, .val (.ref b293), .unset, .unset, .unset] [(.ref wREAD)])) (fun t k => st310 _ k) ?_
                    exact J219_298 T310 X310 e310 wREAD
                  · refine Ends.pre (T' := T297.setTop (mkF m 210 #[.val (.int x0), .val (.int x1), .val (.int x2), .val (.int (1 : Int32)), .val (.int (2 : Int32)), .val (.int (1 : Int32)), .val (.int f6), .val (.int f7), .val (.int u0), .val (.int u1), .val (.int v0), .val (.int v1), .val (.ref b150), .val (.ref b261), .val .null, .val (.ref b293), .unset, .unset, .unset] [])) (fun t k => XS.ifNo X297.here hx rfl (hb hby at_207) rfl (Jvm.Free.XT.i0_eq_f hc207_308) k) ?_
                    have F311 : Sta Z T297.heap "com/example/static_permission_checker/staticpermissionchecker/core/FlowConstraint$Access" "WRITE" "Lcom/example/static_permission_checker/staticpermissionchecker/core/FlowConstraint$Access;" (.ref wWRITE) := (Sta_keep0 S_WRITE K297)
                    obtain ⟨T312, X312, e312, st312⟩ := getS2 X297 hx hZ hown (host := "") (Or.inl (hw _ (List.mem_of_getElem? (i := 75) rfl))) Via.refl rfl F311 (g := (mkF m 210 #[.val (.int x0), .val (.int x1), .val (.int x2), .val (.int (1 : Int32)), .val (.int (2 : Int32)), .val (.int (1 : Int32)), .val (.int f6), .val (.int f7), .val (.int u0), .val (.int u1), .val (.int v0), .val (.int v1), .val (.ref b150), .val (.ref b261), .val .null, .val (.ref b293), .unset, .unset, .unset] [])) rfl (hb hby at_210)
                    refine Ends.pre (T' := T312.setTop (mkF m 213 #[.val (.int x0), .val (.int x1), .val (.int x2), .val (.int (1 : Int32)), .val (.int (2 : Int32)), .val (.int (1 : Int32)), .val (.int f6), .val (.int f7), .val (.int u0), .val (.int u1), .val (.int v0), .val (.int v1), .val (.ref b150), .val (.ref b261), .val .null, .val (.ref b293), .unset, .unset, .unset] [(.ref wWRITE)])) (fun t k => st312 _ k) ?_
                    refine Ends.pre (fun t k => XS.goto X312.here hx rfl (pc0 := 213) (pc' := 219) rfl (hb hby at_213) (by decide) (by decide) k) ?_
                    exact J219_298 T312 X312 e312 wWRITE
            · refine Ends.pre (fun t k => XS.iloadN X0.here hx rfl (hb hby at_119) rfl k) ?_
              obtain ⟨T313, h313, k313, X313, e313, E313, A313, st313⟩ := newP X0 hx hZ (hw _ (List.mem_of_getElem? (i := 0) rfl)) e0 (g := (mkF m 120 #[.val (.int x0), .val (.int x1), .val (.int x2), .val (.int (2 : Int32)), .val (.int gl), .val (.int f5), .val (.int f6), .val (.int f7), .val (.int u0), .val (.int u1), .val (.int v0), .val (.int v1), .unset, .unset, .unset, .unset, .unset, .unset, .unset] [(.int (2 : Int32))])) rfl (hb hby at_120) rfl (by decide) (cap := 2) (by decide) (by decide) (by decide) (by decide)
              obtain ⟨b313, g313⟩ : ∃ z, z = h0.size := ⟨_, rfl⟩
              rw [← g313] at A313 st313
              have ge_b313 : n0 ≤ b313 := Nat.le_trans Z0 (Nat.le_of_eq g313.symm)
              have sz_b313 : h0.size ≤ b313 := Nat.le_trans (Keep.refl h0 []).1 (Nat.le_of_eq g313.symm)
              have CR313 := CHr.trans CR0 (CHr.ext E313 CH0)
              have K313 : Keep h0 h313 [] := (Keep.refl h0 []).ext E313
              have V313 : Arv Z h313 b313 k313 .char (2 : Int32) [(.int (0 : Int32)), (.int (0 : Int32))] (.int (0 : Int32)) := (Arv.new A313 (by decide)).pad (pad_rep [] (.int (0 : Int32)) 2)
              refine Ends.pre (T' := T313.setTop (mkF m 122 #[.val (.int x0), .val (.int x1), .val (.int x2), .val (.int (2 : Int32)), .val (.int gl), .val (.int f5), .val (.int f6), .val (.int f7), .val (.int u0), .val (.int u1), .val (.int v0), .val (.int v1), .unset, .unset, .unset, .unset, .unset, .unset, .unset] [(.ref b313)])) (fun t k => st313 _ k) ?_
              refine Ends.pre (fun t k => XS.astore (g := (mkF m 122 #[.val (.int x0), .val (.int x1), .val (.int x2), .val (.int (2 : Int32)), .val (.int gl), .val (.int f5), .val (.int f6), .val (.int f7), .val (.int u0), .val (.int u1), .val (.int v0), .val (.int v1), .unset, .unset, .unset, .unset, .unset, .unset, .unset] [(.ref b313)])) X313.here hx rfl (hb hby at_122) rfl rfl (l' := #[.val (.int x0), .val (.int x1), .val (.int x2), .val (.int (2 : Int32)), .val (.int gl), .val (.int f5), .val (.int f6), .val (.int f7), .val (.int u0), .val (.int u1), .val (.int v0), .val (.int v1), .val (.ref b313), .unset, .unset, .unset, .unset, .unset, .unset]) rfl k) ?_
              refine Ends.pre (fun t k => XS.iloadN X313.here hx rfl (hb hby at_124) rfl k) ?_
              refine Ends.pre (T' := T313.setTop (mkF m 128 #[.val (.int x0), .val (.int x1), .val (.int x2), .val (.int (2 : Int32)), .val (.int gl), .val (.int f5), .val (.int f6), .val (.int f7), .val (.int u0), .val (.int u1), .val (.int v0), .val (.int v1), .val (.ref b313), .unset, .unset, .unset, .unset, .unset, .unset] [])) (fun t k => XS.ifNo X313.here hx rfl (hb hby at_125) rfl (by decide) k) ?_
              refine Ends.pre (fun t k => XS.aload X313.here hx rfl (hb hby at_128) rfl rfl k) ?_
              refine Ends.pre (fun t k => XS.iconst X313.here hx rfl (hb hby at_130) k) ?_
              refine Ends.pre (fun t k => XS.iload X313.here hx rfl (hb hby at_131) rfl k) ?_
              obtain ⟨cl314, Ar314, q314, S314, N314', H314, G314⟩ := id V313
              have hin314 : ¬ ((0 : Int32) < 0 ∨ cl314.slots.size ≤ ((0 : Int32)).toNatClampNeg) := inb_of S314 ⟨by decide, by decide⟩
              obtain ⟨T314, h314, X314, e314, W314, st314⟩ := stC X313 hx hZ e313 Ar314 (j := (0 : Int32)) hin314 (g := (mkF m 133 #[.val (.int x0), .val (.int x1), .val (.int x2), .val (.int (2 : Int32)), .val (.int gl), .val (.int f5), .val (.int f6), .val (.int f7), .val (.int u0), .val (.int u1), .val (.int v0), .val (.int v1), .val (.ref b313), .unset, .unset, .unset, .unset, .unset, .unset] [(.int u0), (.int (0 : Int32)), (.ref b313)])) rfl rfl (hb hby at_133)
              have CR314 := CHr.trans CR313 (CHr.wr W314 (Safe.arv hZo.alike V313 (by decide)) CR313.1)
              have V314 : Arv Z h314 b313 k313 .char (2 : Int32) [(.int u0), (.int (0 : Int32))] (.int (0 : Int32)) := (by have q := Arv.set Ar314 q314 S314 N314' H314 G314 (fits_nar_char _) W314 0 rfl (Nat.le_of_ble_eq_true rfl); rw [own_char cu0] at q; exact q)
              have N314 := Fr.snoc X314 N0 ge_b313
              refine Ends.pre (T' := T314.setTop (mkF m 134 #[.val (.int x0), .val (.int x1), .val (.int x2), .val (.int (2 : Int32)), .val (.int gl), .val (.int f5), .val (.int f6), .val (.int f7), .val (.int u0), .val (.int u1), .val (.int v0), .val (.int v1), .val (.ref b313), .unset, .unset, .unset, .unset, .unset, .unset] [])) (fun t k => st314 _ k) ?_
              have K314 : Keep h0 h314 [] := K313.wr W314 (Or.inr sz_b313)
              refine Ends.pre (fun t k => XS.iloadN X314.here hx rfl (hb hby at_134) rfl k) ?_
              refine Ends.pre (fun t k => XS.iconst X314.here hx rfl (hb hby at_135) k) ?_
              refine Ends.pre (T' := T314.setTop (mkF m 139 #[.val (.int x0), .val (.int x1), .val (.int x2), .val (.int (2 : Int32)), .val (.int gl), .val (.int f5), .val (.int f6), .val (.int f7), .val (.int u0), .val (.int u1), .val (.int v0), .val (.int v1), .val (.ref b313), .unset, .unset, .unset, .unset, .unset, .unset] [])) (fun t k => XS.icmpNo X314.here hx rfl (hb hby at_136) rfl (by decide) k) ?_
              refine Ends.pre (fun t k => XS.aload X314.here hx rfl (hb hby at_139) rfl rfl k) ?_
              refine Ends.pre (fun t k => XS.iconst X314.here hx rfl (hb hby at_141) k) ?_
              refine Ends.pre (fun t k => XS.iload X314.here hx rfl (hb hby at_142) rfl k) ?_
              obtain ⟨cl315, Ar315, q315, S315, N315', H315, G315⟩ := id V314
              have hin315 : ¬ ((1 : Int32) < 0 ∨ cl315.slots.size ≤ ((1 : Int32)).toNatClampNeg) := inb_of S315 ⟨by decide, by decide⟩
              obtain ⟨T315, h315, X315, e315, W315, st315⟩ := stC X314 hx hZ e314 Ar315 (j := (1 : Int32)) hin315 (g := (mkF m 144 #[.val (.int x0), .val (.int x1), .val (.int x2), .val (.int (2 : Int32)), .val (.int gl), .val (.int f5), .val (.int f6), .val (.int f7), .val (.int u0), .val (.int u1), .val (.int v0), .val (.int v1), .val (.ref b313), .unset, .unset, .unset, .unset, .unset, .unset] [(.int u1), (.int (1 : Int32)), (.ref b313)])) rfl rfl (hb hby at_144)
              have CR315 := CHr.trans CR314 (CHr.wr W315 (Safe.arv hZo.alike V314 (by decide)) CR314.1)
              have V315 : Arv Z h315 b313 k313 .char (2 : Int32) [(.int u0), (.int u1)] (.int (0 : Int32)) := (by have q := Arv.set Ar315 q315 S315 N315' H315 G315 (fits_nar_char _) W315 1 rfl (Nat.le_of_ble_eq_true rfl); rw [own_char cu1] at q; exact q)
              have N315 := Fr.snoc X315 N314 ge_b313
              refine Ends.pre (T' := T315.setTop (mkF m 145 #[.val (.int x0), .val (.int x1), .val (.int x2), .val (.int (2 : Int32)), .val (.int gl), .val (.int f5), .val (.int f6), .val (.int f7), .val (.int u0), .val (.int u1), .val (.int v0), .val (.int v1), .val (.ref b313), .unset, .unset, .unset, .unset, .unset, .unset] [])) (fun t k => st315 _ k) ?_
              have K315 : Keep h0 h315 [] := K314.wr W315 (Or.inr sz_b313)
              rcases (hv_gl ▸ own_m33 _ : gl = 0 ∨ gl = 1 ∨ gl = 2) with rfl | rfl | rfl
              · refine Ends.pre (fun t k => XS.iload X315.here hx rfl (hb hby at_145) rfl k) ?_
                obtain ⟨T316, h316, k316, X316, e316, E316, A316, st316⟩ := newP X315 hx hZ (hw _ (List.mem_of_getElem? (i := 0) rfl)) e315 (g := (mkF m 147 #[.val (.int x0), .val (.int x1), .val (.int x2), .val (.int (2 : Int32)), .val (.int (0 : Int32)), .val (.int f5), .val (.int f6), .val (.int f7), .val (.int u0), .val (.int u1), .val (.int v0), .val (.int v1), .val (.ref b313), .unset, .unset, .unset, .unset, .unset, .unset] [(.int (0 : Int32))])) rfl (hb hby at_147) rfl (by decide) (cap := 0) (by decide) (by decide) (by decide) (by decide)
                obtain ⟨b316, g316⟩ : ∃ z, z = h315.size := ⟨_, rfl⟩
                rw [← g316] at A316 st316
                have ge_b316 : n0 ≤ b316 := Nat.le_trans (Nat.le_trans (Nat.le_trans (Nat.le_trans Z0 E313.1) (Keep.of_wr W314).1) (Keep.of_wr W315).1) (Nat.le_of_eq g316.symm)
                have sz_b316 : h0.size ≤ b316 := Nat.le_trans K315.1 (Nat.le_of_eq g316.symm)
                have CR316 := CHr.trans CR315 (CHr.ext E316 CR315.1)
                have K316 : Keep h0 h316 [] := K315.ext E316
                have V316 : Arv Z h316 b316 k316 .char (0 : Int32) [] (.int (0 : Int32)) := (Arv.new A316 (by decide))
                refine Ends.pre (T' := T316.setTop (mkF m 149 #[.val (.int x0), .val (.int x1), .val (.int x2), .val (.int (2 : Int32)), .val (.int (0 : Int32)), .val (.int f5), .val (.int f6), .val (.int f7), .val (.int u0), .val (.int u1), .val (.int v0), .val (.int v1), .val (.ref b313), .unset, .unset, .unset, .unset, .unset, .unset] [(.ref b316)])) (fun t k => st316 _ k) ?_
                refine Ends.pre (fun t k => XS.astore (g := (mkF m 149 #[.val (.int x0), .val (.int x1), .val (.int x2), .val (.int (2 : Int32)), .val (.int (0 : Int32)), .val (.int f5), .val (.int f6), .val (.int f7), .val (.int u0), .val (.int u1), .val (.int v0), .val (.int v1), .val (.ref b313), .unset, .unset, .unset, .unset, .unset, .unset] [(.ref b316)])) X316.here hx rfl (hb hby at_149) rfl rfl (l' := #[.val (.int x0), .val (.int x1), .val (.int x2), .val (.int (2 : Int32)), .val (.int (0 : Int32)), .val (.int f5), .val (.int f6), .val (.int f7), .val (.int u0), .val (.int u1), .val (.int v0), .val (.int v1), .val (.ref b313), .val (.ref b316), .unset, .unset, .unset, .unset, .unset]) rfl k) ?_
                refine Ends.pre (fun t k => XS.iload X316.here hx rfl (hb hby at_151) rfl k) ?_
                refine Ends.pre (T' := T316.setTop (mkF m 162 #[.val (.int x0), .val (.int x1), .val (.int x2), .val (.int (2 : Int32)), .val (.int (0 : Int32)), .val (.int f5), .val (.int f6), .val (.int f7), .val (.int u0), .val (.int u1), .val (.int v0), .val (.int v1), .val (.ref b313), .val (.ref b316), .unset, .unset, .unset, .unset, .unset] [])) (fun t k => XS.ifYes X316.here hx rfl (pc0 := 153) (pc' := 162) rfl (hb hby at_153) rfl (by decide) (by decide) (by decide) k) ?_
                refine Ends.pre (fun t k => XS.iload X316.here hx rfl (hb hby at_162) rfl k) ?_
                refine Ends.pre (fun t k => XS.iconst X316.here hx rfl (hb hby at_164) k) ?_
                refine Ends.pre (T' := T316.setTop (mkF m 174 #[.val (.int x0), .val (.int x1), .val (.int x2), .val (.int (2 : Int32)), .val (.int (0 : Int32)), .val (.int f5), .val (.int f6), .val (.int f7), .val (.int u0), .val (.int u1), .val (.int v0), .val (.int v1), .val (.ref b313), .val (.ref b316), .unset, .unset, .unset, .unset, .unset] [])) (fun t k => XS.icmpYes X316.here hx rfl (pc0 := 165) (pc' := 174) rfl (hb hby at_165) rfl (by decide) (by decide) (by decide) k) ?_
                rcases qf5 with rfl | rfl
                · refine Ends.pre (fun t k => XS.iload X316.here hx rfl (hb hby at_174) rfl k) ?_
                  refine Ends.pre (T' := T316.setTop (mkF m 183 #[.val (.int x0), .val (.int x1), .val (.int x2), .val (.int (2 : Int32)), .val (.int (0 : Int32)), .val (.int (0 : Int32)), .val (.int f6), .val (.int f7), .val (.int u0), .val (.int u1), .val (.int v0), .val (.int v1), .val (.ref b313), .val (.ref b316), .unset, .unset, .unset, .unset, .unset] [])) (fun t k => XS.ifYes X316.here hx rfl (pc0 := 176) (pc' := 183) rfl (hb hby at_176) rfl (by decide) (by decide) (by decide) k) ?_
                  obtain ⟨T317, h317, X317, e317, E317, A317, D317, -, st317⟩ := newO X316 hx hZ hown (hw _ (List.mem_of_getElem? (i := 1) rfl)) (hw _ (List.mem_of_getElem? (i := 2) rfl)) (hw _ (List.mem_of_getElem? (i := 3) rfl)) e316 (g := (mkF m 183 #[.val (.int x0), .val (.int x1), .val (.int x2), .val (.int (2 : Int32)), .val (.int (0 : Int32)), .val (.int (0 : Int32)), .val (.int f6), .val (.int f7), .val (.int u0), .val (.int u1), .val (.int v0), .val (.int v1), .val (.ref b313), .val (.ref b316), .unset, .unset, .unset, .unset, .unset] [])) rfl (hb hby at_183) (by decide) (by decide)
                  obtain ⟨b317, g317⟩ : ∃ z, z = h316.size := ⟨_, rfl⟩
                  rw [← g317] at A317 D317 st317
                  have ge_b317 : n0 ≤ b317 := Nat.le_trans (Nat.le_trans (Nat.le_trans (Nat.le_trans (Nat.le_trans Z0 E313.1) (Keep.of_wr W314).1) (Keep.of_wr W315).1) E316.1) (Nat.le_of_eq g317.symm)
                  have sz_b317 : h0.size ≤ b317 := Nat.le_trans K316.1 (Nat.le_of_eq g317.symm)
                  have CR317 := CHr.trans CR316 (CHr.ext E317 CR316.1)
                  have K317 : Keep h0 h317 [] := K316.ext E317
                  have Fd317_coder : Fld Z h317 b317 "java/lang/String" "coder" "B" (.int (0 : Int32)) := D317 (Or.inr (hw _ (List.mem_of_getElem? (i := 27) rfl))) (ty := .byte) (by decide)
                  have Fd317_value : Fld Z h317 b317 "java/lang/String" "value" "[B" .null := D317 (Or.inr (hw _ (List.mem_of_getElem? (i := 29) rfl))) (ty := (.array .byte)) (by decide)
                  refine Ends.pre (T' := T317.setTop (mkF m 186 #[.val (.int x0), .val (.int x1), .val (.int x2), .val (.int (2 : Int32)), .val (.int (0 : Int32)), .val (.int (0 : Int32)), .val (.int f6), .val (.int f7), .val (.int u0), .val (.int u1), .val (.int v0), .val (.int v1), .val (.ref b313), .val (.ref b316), .unset, .unset, .unset, .unset, .unset] [(.ref b317)])) (fun t k => st317 _ k) ?_
                  refine Ends.pre (fun t k => XS.dup X317.here hx rfl (hb hby at_186) rfl rfl k) ?_
                  refine Ends.pre (fun t k => XS.aload X317.here hx rfl (hb hby at_187) rfl rfl k) ?_
                  have hp318 : ∀ c ∈ ([u0, u1] : List Int32), ¬ c < 0 ∧ ¬ (255 : Int32) < c := (own_alS cu0 (own_alS cu1 own_al0))
                  have hbd318 := own_up _ hp318
                  have F319 : Arv Z h317 b313 k313 .char (2 : Int32) [(.int u0), (.int u1)] (.int (0 : Int32)) := (Arv.ext (Arv.ext V315 E316) E317)
                  have F320 : Sta Z h317 "java/lang/String" "COMPACT_STRINGS" "Z" (.int cz) := (Sta_keep0 SCS K317)
                  obtain ⟨_, _, ⟨T321, L321, k321, n321⟩, -, X321, ⟨Lc321, hQ321, l321, y321, z321⟩, st321⟩ := X317.specialBack hx (y := (⟨"java/lang/String", "<init>", "([C)V"⟩ : MethodName)) rfl hown (mvT hZ (hw _ (List.mem_of_getElem? (i := 4) rfl))) (mvT hZ (hw _ (List.mem_of_getElem? (i := 5) rfl))) (mvT hZ (hw _ (List.mem_of_getElem? (i := 6) rfl))) (by decide) (StrChars.Road.backV (W := 1) hZ (own_hws hw) (kI := 4) (hw _ (List.mem_of_getElem? (i := 2) rfl)) (cs := ([u0, u1] : List Int32)) (bs := (([u0, u1] : List Int32).map (fun c => c.toInt8.toInt32))) (n := 2) ge_b317 (Nat.le_trans (Nat.le_trans (Nat.le_trans (Nat.le_trans (Nat.le_trans Z0 E313.1) (Keep.of_wr W314).1) (Keep.of_wr W315).1) E316.1) E317.1) A317 Fd317_value Fd317_coder F319 F320 hcz rfl rfl (by decide) (by decide) hp318 rfl (by decide) (by decide)) (g := (mkF m 189 #[.val (.int x0), .val (.int x1), .val (.int x2), .val (.int (2 : Int32)), .val (.int (0 : Int32)), .val (.int (0 : Int32)), .val (.int f6), .val (.int f7), .val (.int u0), .val (.int u1), .val (.int v0), .val (.int v1), .val (.ref b313), .val (.ref b316), .unset, .unset, .unset, .unset, .unset] [(.ref b313), (.ref b317), (.ref b317)])) rfl (by rw [hml]; rfl) (Steps.refl _) (a := b317) (argsL := [(.ref b313)]) (rest := [(.ref b317)]) (lenOf pd_4 rfl) rfl (by show 2 * 0 + _ ≤ _; exact Nat.le_of_eq rfl) (hb hby at_189) (fun _ _ => ⟨rfl, e317, (by decide : 3 + 1 ≤ _), (by decide : 6 + 2 ≤ _)⟩)
                  dsimp only [Pt.U, Pt.locs, Pt.cells, Pt.slots] at X321 l321 y321 z321 st321 hQ321
                  subst l321 y321 z321
                  obtain ⟨rfl, N321q, Kc321, Es321, Cs321, t321, kb321, gt321, ft321, nt321, Vs321, As321⟩ := hQ321
                  have N321 := Fr.app N315 N321q
                  have K321 : Keep h0 T321.heap [] := K317.trans Kc321 (allS (Or.inr sz_b317) all0)
                  have CR321 := CHr.trans CR317 (CHr.keep Kc321 (sfS (Safe.ext E317 CR316.1 (Safe.new (Nat.le_of_eq g317.symm))) sf0) CR317.1)
                  have hcd321 : StrChars.Road.CodA ([u0, u1] : List Int32) 0 (2 : Int32) ((([u0, u1] : List Int32).map (fun c => c.toInt8.toInt32)).map Value.int) := StrChars.Road.codOf (n := 2) rfl (fun c hc => (hp318 c hc).2)
                  refine Ends.pre (T' := T321.setTop (mkF m 192 #[.val (.int x0), .val (.int x1), .val (.int x2), .val (.int (2 : Int32)), .val (.int (0 : Int32)), .val (.int (0 : Int32)), .val (.int f6), .val (.int f7), .val (.int u0), .val (.int u1), .val (.int v0), .val (.int v1), .val (.ref b313), .val (.ref b316), .unset, .unset, .unset, .unset, .unset] [(.ref b317)])) (fun t k => st321.trans k) ?_
                  refine Ends.pre (fun t k => XS.astore (g := (mkF m 192 #[.val (.int x0), .val (.int x1), .val (.int x2), .val (.int (2 : Int32)), .val (.int (0 : Int32)), .val (.int (0 : Int32)), .val (.int f6), .val (.int f7), .val (.int u0), .val (.int u1), .val (.int v0), .val (.int v1), .val (.ref b313), .val (.ref b316), .unset, .unset, .unset, .unset, .unset] [(.ref b317)])) X321.here hx rfl (hb hby at_192) rfl rfl (l' := #[.val (.int x0), .val (.int x1), .val (.int x2), .val (.int (2 : Int32)), .val (.int (0 : Int32)), .val (.int (0 : Int32)), .val (.int f6), .val (.int f7), .val (.int u0), .val (.int u1), .val (.int v0), .val (.int v1), .val (.ref b313), .val (.ref b316), .val (.ref b317), .unset, .unset, .unset, .unset]) rfl k) ?_
                  obtain ⟨T322, h322, X322, e322, E322, A322, D322, -, st322⟩ := newO X321 hx hZ hown (hw _ (List.mem_of_getElem? (i := 1) rfl)) (hw _ (List.mem_of_getElem? (i := 2) rfl)) (hw _ (List.mem_of_getElem? (i := 3) rfl)) rfl (g := (mkF m 194 #[.val (.int x0), .val (.int x1), .val (.int x2), .val (.int (2 : Int32)), .val (.int (0 : Int32)), .val (.int (0 : Int32)), .val (.int f6), .val (.int f7), .val (.int u0), .val (.int u1), .val (.int v0), .val (.int v1), .val (.ref b313), .val (.ref b316), .val (.ref b317), .unset, .unset, .unset, .unset] [])) rfl (hb hby at_194) (by decide) (by decide)
                  obtain ⟨b322, g322⟩ : ∃ z, z = T321.heap.size := ⟨_, rfl⟩
                  rw [← g322] at A322 D322 st322
                  have ge_b322 : n0 ≤ b322 := Nat.le_trans (Nat.le_trans (Nat.le_trans (Nat.le_trans (Nat.le_trans (Nat.le_trans (Nat.le_trans Z0 E313.1) (Keep.of_wr W314).1) (Keep.of_wr W315).1) E316.1) E317.1) Kc321.1) (Nat.le_of_eq g322.symm)
                  have sz_b322 : h0.size ≤ b322 := Nat.le_trans K321.1 (Nat.le_of_eq g322.symm)
                  have CR322 := CHr.trans CR321 (CHr.ext E322 CR321.1)
                  have K322 : Keep h0 h322 [] := K321.ext E322
                  have Fd322_coder : Fld Z h322 b322 "java/lang/String" "coder" "B" (.int (0 : Int32)) := D322 (Or.inr (hw _ (List.mem_of_getElem? (i := 27) rfl))) (ty := .byte) (by decide)
                  have Fd322_value : Fld Z h322 b322 "java/lang/String" "value" "[B" .null := D322 (Or.inr (hw _ (List.mem_of_getElem? (i := 29) rfl))) (ty := (.array .byte)) (by decide)
                  refine Ends.pre (T' := T322.setTop (mkF m 197 #[.val (.int x0), .val (.int x1), .val (.int x2), .val (.int (2 : Int32)), .val (.int (0 : Int32)), .val (.int (0 : Int32)), .val (.int f6), .val (.int f7), .val (.int u0), .val (.int u1), .val (.int v0), .val (.int v1), .val (.ref b313), .val (.ref b316), .val (.ref b317), .unset, .unset, .unset, .unset] [(.ref b322)])) (fun t k => st322 _ k) ?_
                  refine Ends.pre (fun t k => XS.dup X322.here hx rfl (hb hby at_197) rfl rfl k) ?_
                  refine Ends.pre (fun t k => XS.aload X322.here hx rfl (hb hby at_198) rfl rfl k) ?_
                  have F323 : Arv Z h322 b316 k316 .char (0 : Int32) [] (.int (0 : Int32)) := (Arv.ext ((Arv.ext V316 E317).keep Kc321 (ninS (Nat.ne_of_lt (Nat.lt_of_lt_of_le V316.lt (Nat.le_of_eq g317.symm))) nin0)) E322)
                  obtain ⟨_, _, ⟨T324, L324, k324, n324⟩, -, Xa324, hSa324, ga324, ⟨Lc324, hQ324, l324, y324, z324, CRc324⟩, st324⟩ := X322.specialBackS hx (y := (⟨"java/lang/String", "<init>", "([C)V"⟩ : MethodName)) rfl hown (mvT hZ (hw _ (List.mem_of_getElem? (i := 4) rfl))) (mvT hZ (hw _ (List.mem_of_getElem? (i := 5) rfl))) (mvT hZ (hw _ (List.mem_of_getElem? (i := 6) rfl))) (by decide) (backOfSH (W := 1) (rm_e1 l Z a0 hw [] b322 b316 k316 h322 n0 (Nat.le_trans (Nat.le_trans (Nat.le_trans (Nat.le_trans (Nat.le_trans (Nat.le_trans (Nat.le_trans Z0 E313.1) (Keep.of_wr W314).1) (Keep.of_wr W315).1) E316.1) E317.1) Kc321.1) E322.1) A322 Fd322_value Fd322_coder ge_b322 F323) hZ (hw _ (List.mem_of_getElem? (i := 6) rfl)) (hw _ (List.mem_of_getElem? (i := 3) rfl)) (by decide) (by decide) hEL CR322.1) (g := (mkF m 200 #[.val (.int x0), .val (.int x1), .val (.int x2), .val (.int (2 : Int32)), .val (.int (0 : Int32)), .val (.int (0 : Int32)), .val (.int f6), .val (.int f7), .val (.int u0), .val (.int u1), .val (.int v0), .val (.int v1), .val (.ref b313), .val (.ref b316), .val (.ref b317), .unset, .unset, .unset, .unset] [(.ref b316), (.ref b322), (.ref b322)])) rfl (by rw [hml]; rfl) (Steps.refl _) (a := b322) (argsL := [(.ref b316)]) (rest := [(.ref b322)]) (lenOf pd_4 rfl) rfl (by show 2 * 0 + _ ≤ _; exact Nat.le_of_eq rfl) (hb hby at_200) (fun _ _ => ⟨rfl, e322, (by decide : 5 + 4 ≤ _), (by decide : 12 + 8 ≤ _)⟩)
                  dsimp only [Pt.U, Pt.locs, Pt.cells, Pt.slots] at Xa324 hSa324 ga324 l324 y324 z324 st324 hQ324 CRc324
                  subst l324 y324 z324
                  obtain ⟨X324, hS324, hZ324, hown324⟩ := rebS hS0 (n1 := T322.heap.size) (by rw [e322]; exact (Nat.le_trans (Nat.le_trans (Nat.le_trans (Nat.le_trans (Nat.le_trans (Nat.le_trans (Nat.le_trans hk0 E313.1) (Keep.of_wr W314).1) (Keep.of_wr W315).1) E316.1) E317.1) Kc321.1) E322.1)) Xa324 hSa324 ga324 hZ hown
                  obtain ⟨rfl, N324q, Kc324, Es324, Cs324, t324, kb324, Vs324, As324⟩ := hQ324
                  have N324 := Fr.app N321 N324q
                  have K324 : Keep h0 T324.heap [] := K322.trans Kc324 (allS (Or.inr sz_b322) all0)
                  have CR324 := CHr.trans CR322 CRc324
                  have hcd324 : StrChars.Road.CodA ([] : List Int32) 0 (0 : Int32) [] := own_lit rfl rfl own_al0
                  have hbd324 : ∀ c ∈ ([] : List Int32), ¬ c < 0 ∧ ¬ (65535 : Int32) < c := own_al0
                  refine Ends.pre (T' := T324.setTop (mkF m 203 #[.val (.int x0), .val (.int x1), .val (.int x2), .val (.int (2 : Int32)), .val (.int (0 : Int32)), .val (.int (0 : Int32)), .val (.int f6), .val (.int f7), .val (.int u0), .val (.int u1), .val (.int v0), .val (.int v1), .val (.ref b313), .val (.ref b316), .val (.ref b317), .unset, .unset, .unset, .unset] [(.ref b322)])) (fun t k => st324.trans k) ?_
                  refine Ends.pre (fun t k => XS.astore (g := (mkF m 203 #[.val (.int x0), .val (.int x1), .val (.int x2), .val (.int (2 : Int32)), .val (.int (0 : Int32)), .val (.int (0 : Int32)), .val (.int f6), .val (.int f7), .val (.int u0), .val (.int u1), .val (.int v0), .val (.int v1), .val (.ref b313), .val (.ref b316), .val (.ref b317), .unset, .unset, .unset, .unset] [(.ref b322)])) X324.here hx rfl (hb hby at_203) rfl rfl (l' := #[.val (.int x0), .val (.int x1), .val (.int x2), .val (.int (2 : Int32)), .val (.int (0 : Int32)), .val (.int (0 : Int32)), .val (.int f6), .val (.int f7), .val (.int u0), .val (.int u1), .val (.int v0), .val (.int v1), .val (.ref b313), .val (.ref b316), .val (.ref b317), .val (.ref b322), .unset, .unset, .unset]) rfl k) ?_
                  have J219_325 : ∀ (TJ325 : State) (XJ325 : SS X324 TJ325) (eJ325 : TJ325.heap = T324.heap) (ac : Addr), Jvm.RoadKit.Ends p e below (EndW s room_1 Z consts_1 (Q_rm0 Z x0 x1 x2 wREAD wWRITE cz fm h0 n0)) (TJ325.setTop (mkF m 219 #[.val (.int x0), .val (.int x1), .val (.int x2), .val (.int (2 : Int32)), .val (.int (0 : Int32)), .val (.int (0 : Int32)), .val (.int f6), .val (.int f7), .val (.int u0), .val (.int u1), .val (.int v0), .val (.int v1), .val (.ref b313), .val (.ref b316), .val (.ref b317), .val (.ref b322), .unset, .unset, .unset] [(.ref ac)])) := by
                    intro TJ325 XJ325 eJ325 ac
                    unfold SS at XJ325
                    refine Ends.pre (fun t k => XS.astore (g := (mkF m 219 #[.val (.int x0), .val (.int x1), .val (.int x2), .val (.int (2 : Int32)), .val (.int (0 : Int32)), .val (.int (0 : Int32)), .val (.int f6), .val (.int f7), .val (.int u0), .val (.int u1), .val (.int v0), .val (.int v1), .val (.ref b313), .val (.ref b316), .val (.ref b317), .val (.ref b322), .unset, .unset, .unset] [(.ref ac)])) XJ325.here hx rfl (hb hby at_219) rfl rfl (l' := #[.val (.int x0), .val (.int x1), .val (.int x2), .val (.int (2 : Int32)), .val (.int (0 : Int32)), .val (.int (0 : Int32)), .val (.int f6), .val (.int f7), .val (.int u0), .val (.int u1), .val (.int v0), .val (.int v1), .val (.ref b313), .val (.ref b316), .val (.ref b317), .val (.ref b322), .val (.ref ac), .unset, .unset]) rfl k) ?_
                    obtain ⟨T326, h326, X326, e326, E326, A326, D326, -, st326⟩ := newO XJ325 hx hZ324 hown324 (hw _ (List.mem_of_getElem? (i := 36) rfl)) (hw _ (List.mem_of_getElem? (i := 37) rfl)) (hw _ (List.mem_of_getElem? (i := 38) rfl)) eJ325 (g := (mkF m 221 #[.val (.int x0), .val (.int x1), .val (.int x2), .val (.int (2 : Int32)), .val (.int (0 : Int32)), .val (.int (0 : Int32)), .val (.int f6), .val (.int f7), .val (.int u0), .val (.int u1), .val (.int v0), .val (.int v1), .val (.ref b313), .val (.ref b316), .val (.ref b317), .val (.ref b322), .val (.ref ac), .unset, .unset] [])) rfl (hb hby at_221) (by decide) (by decide)
                    obtain ⟨b326, g326⟩ : ∃ z, z = T324.heap.size := ⟨_, rfl⟩
                    rw [← g326] at A326 D326 st326
                    have ge_b326 : n0 ≤ b326 := Nat.le_trans (Nat.le_trans (Nat.le_trans (Nat.le_trans (Nat.le_trans (Nat.le_trans (Nat.le_trans (Nat.le_trans (Nat.le_trans Z0 E313.1) (Keep.of_wr W314).1) (Keep.of_wr W315).1) E316.1) E317.1) Kc321.1) E322.1) Kc324.1) (Nat.le_of_eq g326.symm)
                    have sz_b326 : h0.size ≤ b326 := Nat.le_trans K324.1 (Nat.le_of_eq g326.symm)
                    have CR326 := CHr.trans CR324 (CHr.ext E326 CR324.1)
                    have K326 : Keep h0 h326 [] := K324.ext E326
                    have Fd326_holder : Fld Z h326 b326 "com/example/static_permission_checker/staticpermissionchecker/core/FlowConstraint" "holder" "Ljava/lang/String;" .null := D326 (Or.inr (hw _ (List.mem_of_getElem? (i := 55) rfl))) (ty := (.object "java/lang/String")) (by decide)
                    have Fd326_access : Fld Z h326 b326 "com/example/static_permission_checker/staticpermissionchecker/core/FlowConstraint" "access" "Lcom/example/static_permission_checker/staticpermissionchecker/core/FlowConstraint$Access;" .null := D326 (Or.inr (hw _ (List.mem_of_getElem? (i := 57) rfl))) (ty := (.object "com/example/static_permission_checker/staticpermissionchecker/core/FlowConstraint$Access")) (by decide)
                    have Fd326_guard : Fld Z h326 b326 "com/example/static_permission_checker/staticpermissionchecker/core/FlowConstraint" "guard" "Ljava/lang/String;" .null := D326 (Or.inr (hw _ (List.mem_of_getElem? (i := 59) rfl))) (ty := (.object "java/lang/String")) (by decide)
                    refine Ends.pre (T' := T326.setTop (mkF m 224 #[.val (.int x0), .val (.int x1), .val (.int x2), .val (.int (2 : Int32)), .val (.int (0 : Int32)), .val (.int (0 : Int32)), .val (.int f6), .val (.int f7), .val (.int u0), .val (.int u1), .val (.int v0), .val (.int v1), .val (.ref b313), .val (.ref b316), .val (.ref b317), .val (.ref b322), .val (.ref ac), .unset, .unset] [(.ref b326)])) (fun t k => st326 _ k) ?_
                    refine Ends.pre (fun t k => XS.dup X326.here hx rfl (hb hby at_224) rfl rfl k) ?_
                    refine Ends.pre (fun t k => XS.aload X326.here hx rfl (hb hby at_225) rfl rfl k) ?_
                    refine Ends.pre (fun t k => XS.aload X326.here hx rfl (hb hby at_227) rfl rfl k) ?_
                    refine Ends.pre (fun t k => XS.aload X326.here hx rfl (hb hby at_229) rfl rfl k) ?_
                    obtain ⟨_, _, ⟨T327, L327, k327, n327⟩, -, Xa327, hSa327, ga327, ⟨Lc327, hQ327, l327, y327, z327, CRc327⟩, st327⟩ := X326.specialBackS hx (y := (⟨"com/example/static_permission_checker/staticpermissionchecker/core/FlowConstraint", "<init>", "(Ljava/lang/String;Lcom/example/static_permission_checker/staticpermissionchecker/core/FlowConstraint$Access;Ljava/lang/String;)V"⟩ : MethodName)) rfl hown324 (mvT hZ324 (hw _ (List.mem_of_getElem? (i := 39) rfl))) (mvT hZ324 (hw _ (List.mem_of_getElem? (i := 40) rfl))) (mvT hZ324 (hw _ (List.mem_of_getElem? (i := 41) rfl))) (by decide) (backOfSH (W := 1) (rm7r l Z a0 hw [] b326 b317 ac b322 h326 n0 (Nat.le_trans (Nat.le_trans (Nat.le_trans (Nat.le_trans (Nat.le_trans (Nat.le_trans (Nat.le_trans (Nat.le_trans (Nat.le_trans Z0 E313.1) (Keep.of_wr W314).1) (Keep.of_wr W315).1) E316.1) E317.1) Kc321.1) E322.1) Kc324.1) E326.1) A326 ge_b326 Fd326_holder Fd326_access Fd326_guard) hZ324 (hw _ (List.mem_of_getElem? (i := 41) rfl)) (hw _ (List.mem_of_getElem? (i := 38) rfl)) (by decide) (by decide) hEL CR326.1) (g := (mkF m 231 #[.val (.int x0), .val (.int x1), .val (.int x2), .val (.int (2 : Int32)), .val (.int (0 : Int32)), .val (.int (0 : Int32)), .val (.int f6), .val (.int f7), .val (.int u0), .val (.int u1), .val (.int v0), .val (.int v1), .val (.ref b313), .val (.ref b316), .val (.ref b317), .val (.ref b322), .val (.ref ac), .unset, .unset] [(.ref b322), (.ref ac), (.ref b317), (.ref b326), (.ref b326)])) rfl (by rw [hml]; rfl) (Steps.refl _) (a := b326) (argsL := [(.ref b317), (.ref ac), (.ref b322)]) (rest := [(.ref b326)]) (lenOf pd_5 rfl) rfl (by show 2 * 0 + _ ≤ _; exact Nat.le_of_eq rfl) (hb hby at_231) (fun _ _ => ⟨rfl, e326, (by decide : 10 + 4 ≤ _), (by decide : 23 + 52 ≤ _)⟩)
                    dsimp only [Pt.U, Pt.locs, Pt.cells, Pt.slots] at Xa327 hSa327 ga327 l327 y327 z327 st327 hQ327 CRc327
                    subst l327 y327 z327
                    obtain ⟨X327, hS327, hZ327, hown327⟩ := rebS hS324 (n1 := T326.heap.size) (by rw [e326]; exact (Nat.le_trans (Nat.le_refl _) E326.1)) Xa327 hSa327 ga327 hZ324 hown324
                    obtain ⟨rfl, N327q, Kc327, Ec327, Fh327, Fg327⟩ := hQ327
                    have N327 := Fr.app N324 N327q
                    have K327 : Keep h0 T327.heap [] := K326.trans Kc327 (allS (Or.inr sz_b326) all0)
                    have CR327 := CHr.trans CR326 CRc327
                    refine Ends.pre (T' := T327.setTop (mkF m 234 #[.val (.int x0), .val (.int x1), .val (.int x2), .val (.int (2 : Int32)), .val (.int (0 : Int32)), .val (.int (0 : Int32)), .val (.int f6), .val (.int f7), .val (.int u0), .val (.int u1), .val (.int v0), .val (.int v1), .val (.ref b313), .val (.ref b316), .val (.ref b317), .val (.ref b322), .val (.ref ac), .unset, .unset] [(.ref b326)])) (fun t k => st327.trans k) ?_
                    refine Ends.pre (fun t k => XS.astore (g := (mkF m 234 #[.val (.int x0), .val (.int x1), .val (.int x2), .val (.int (2 : Int32)), .val (.int (0 : Int32)), .val (.int (0 : Int32)), .val (.int f6), .val (.int f7), .val (.int u0), .val (.int u1), .val (.int v0), .val (.int v1), .val (.ref b313), .val (.ref b316), .val (.ref b317), .val (.ref b322), .val (.ref ac), .unset, .unset] [(.ref b326)])) X327.here hx rfl (hb hby at_234) rfl rfl (l' := #[.val (.int x0), .val (.int x1), .val (.int x2), .val (.int (2 : Int32)), .val (.int (0 : Int32)), .val (.int (0 : Int32)), .val (.int f6), .val (.int f7), .val (.int u0), .val (.int u1), .val (.int v0), .val (.int v1), .val (.ref b313), .val (.ref b316), .val (.ref b317), .val (.ref b322), .val (.ref ac), .val (.ref b326), .unset]) rfl k) ?_
                    refine Ends.pre (fun t k => XS.iload X327.here hx rfl (hb hby at_236) rfl k) ?_
                    refine Ends.pre (T' := T327.setTop (mkF m 241 #[.val (.int x0), .val (.int x1), .val (.int x2), .val (.int (2 : Int32)), .val (.int (0 : Int32)), .val (.int (0 : Int32)), .val (.int f6), .val (.int f7), .val (.int u0), .val (.int u1), .val (.int v0), .val (.int v1), .val (.ref b313), .val (.ref b316), .val (.ref b317), .val (.ref b322), .val (.ref ac), .val (.ref b326), .unset] [])) (fun t k => XS.ifNo X327.here hx rfl (hb hby at_238) rfl (by decide) k) ?_
                    refine Ends.pre (fun t k => XS.iloadN X327.here hx rfl (hb hby at_241) rfl k) ?_
                    refine Ends.pre (fun t k => XS.iload X327.here hx rfl (hb hby at_242) rfl k) ?_
                    refine Ends.pre (T' := T327.setTop (mkF m 275 #[.val (.int x0), .val (.int x1), .val (.int x2), .val (.int (2 : Int32)), .val (.int (0 : Int32)), .val (.int (0 : Int32)), .val (.int f6), .val (.int f7), .val (.int u0), .val (.int u1), .val (.int v0), .val (.int v1), .val (.ref b313), .val (.ref b316), .val (.ref b317), .val (.ref b322), .val (.ref ac), .val (.ref b326), .unset] [])) (fun t k => XS.icmpYes X327.here hx rfl (pc0 := 244) (pc' := 275) rfl (hb hby at_244) rfl (by decide) (by decide) (by decide) k) ?_
                    refine Ends.pre (fun t k => XS.iconst X327.here hx rfl (hb hby at_275) k) ?_
                    refine Ends.pre (fun t k => XS.istore (g := (mkF m 276 #[.val (.int x0), .val (.int x1), .val (.int x2), .val (.int (2 : Int32)), .val (.int (0 : Int32)), .val (.int (0 : Int32)), .val (.int f6), .val (.int f7), .val (.int u0), .val (.int u1), .val (.int v0), .val (.int v1), .val (.ref b313), .val (.ref b316), .val (.ref b317), .val (.ref b322), .val (.ref ac), .val (.ref b326), .unset] [(.int (0 : Int32))])) X327.here hx rfl (hb hby at_276) rfl (l' := #[.val (.int x0), .val (.int x1), .val (.int x2), .val (.int (2 : Int32)), .val (.int (0 : Int32)), .val (.int (0 : Int32)), .val (.int f6), .val (.int f7), .val (.int u0), .val (.int u1), .val (.int v0), .val (.int v1), .val (.ref b313), .val (.ref b316), .val (.ref b317), .val (.ref b322), .val (.ref ac), .val (.ref b326), .val (.int (0 : Int32))]) rfl k) ?_
                    refine Ends.pre (fun t k => XS.aload X327.here hx rfl (hb hby at_278) rfl rfl k) ?_
                    have F328 : Exa Z T327.heap b322 "java/lang/String" := ((Es324.ext E326).keep Kc327)
                    have F329 : Fld Z T327.heap b322 "java/lang/String" "value" "[B" (.ref t324) := ((Vs324.ext E326).keep Kc327 (ninS (Nat.ne_of_lt (Nat.lt_of_lt_of_le (Nat.lt_of_lt_of_le A322.lt Kc324.1) (Nat.le_of_eq g326.symm))) nin0))
                    have F330 : Fld Z T327.heap b322 "java/lang/String" "coder" "B" (.int 0) := ((Cs324.ext E326).keep Kc327 (ninS (Nat.ne_of_lt (Nat.lt_of_lt_of_le (Nat.lt_of_lt_of_le A322.lt Kc324.1) (Nat.le_of_eq g326.symm))) nin0))
                    have F331 : Arv Z T327.heap t324 kb324 .byte (0 : Int32) [] (.int 0) := ((Arv.ext As324 E326).keep Kc327 (ninS (Nat.ne_of_lt (Nat.lt_of_lt_of_le As324.lt (Nat.le_of_eq g326.symm))) nin0))
                    have F332 : Exa Z T327.heap b317 "java/lang/String" := ((((Es321.ext E322).keep Kc324).ext E326).keep Kc327)
                    have F333 : Fld Z T327.heap b317 "java/lang/String" "value" "[B" (.ref t321) := ((((Vs321.ext E322).keep Kc324 (ninS (Nat.ne_of_lt (Nat.lt_of_lt_of_le (Nat.lt_of_lt_of_le A317.lt Kc321.1) (Nat.le_of_eq g322.symm))) nin0)).ext E326).keep Kc327 (ninS (Nat.ne_of_lt (Nat.lt_of_lt_of_le (Nat.lt_of_lt_of_le (Nat.lt_of_lt_of_le (Nat.lt_of_lt_of_le A317.lt Kc321.1) E322.1) Kc324.1) (Nat.le_of_eq g326.symm))) nin0))
                    have F334 : Fld Z T327.heap b317 "java/lang/String" "coder" "B" (.int 0) := ((((Cs321.ext E322).keep Kc324 (ninS (Nat.ne_of_lt (Nat.lt_of_lt_of_le (Nat.lt_of_lt_of_le A317.lt Kc321.1) (Nat.le_of_eq g322.symm))) nin0)).ext E326).keep Kc327 (ninS (Nat.ne_of_lt (Nat.lt_of_lt_of_le (Nat.lt_of_lt_of_le (Nat.lt_of_lt_of_le (Nat.lt_of_lt_of_le A317.lt Kc321.1) E322.1) Kc324.1) (Nat.le_of_eq g326.symm))) nin0))
                    have F335 : Arv Z T327.heap t321 kb321 .byte (2 : Int32) ((([u0, u1] : List Int32).map (fun c => c.toInt8.toInt32)).map Value.int) (.int 0) := ((Arv.ext ((Arv.ext As321 E322).keep Kc324 (ninS (Nat.ne_of_lt (Nat.lt_of_lt_of_le As321.lt (Nat.le_of_eq g322.symm))) nin0)) E326).keep Kc327 (ninS (Nat.ne_of_lt (Nat.lt_of_lt_of_le (Nat.lt_of_lt_of_le (Nat.lt_of_lt_of_le As321.lt E322.1) Kc324.1) (Nat.le_of_eq g326.symm))) nin0))
                    have F336 : Sta Z T327.heap "java/lang/String" "COMPACT_STRINGS" "Z" (.int cz) := (Sta_keep0 SCS K327)
                    have F337 : Sta Z T327.heap "jdk/internal/util/Preconditions" "SIOOBE_FORMATTER" "Ljava/util/function/BiFunction;" fm := (Sta_keep0 SFM K327)
                    obtain ⟨cq338, kq338, q338a, q338b, q338c⟩ := isOf hZ327 rfl Ec327
                    obtain ⟨_, _, ⟨T338, L338, k338, n338⟩, -, X338, ⟨Lc338, hQ338, l338, y338, z338⟩, st338⟩ := X327.virtualBack hx (y := (⟨"com/example/static_permission_checker/staticpermissionchecker/core/FlowConstraint", "holds", "()Z"⟩ : MethodName)) (z := (⟨"com/example/static_permission_checker/staticpermissionchecker/core/FlowConstraint", "holds", "()Z"⟩ : MethodName)) hown327 (mvT hZ327 (hw _ (List.mem_of_getElem? (i := 60) rfl))) (mvT hZ327 (hw _ (List.mem_of_getElem? (i := 61) rfl))) (notFace_of_selects (args := #[]) (mvT hZ327 (hw _ (List.mem_of_getElem? (i := 63) rfl)))) (mvT hZ327 (hw _ (List.mem_of_getElem? (i := 63) rfl))) (mvT hZ327 (hw _ (List.mem_of_getElem? (i := 62) rfl))) (by decide) (backOf (W := 0) (rm10d l Z a0 hw [] b326 b322 t324 kb324 ([] : List Int32) (0 : Int32) _ b317 t321 kb321 ([u0, u1] : List Int32) (2 : Int32) _ cz fm T327.heap n0 (Nat.le_trans (Nat.le_trans (Nat.le_trans (Nat.le_trans (Nat.le_trans (Nat.le_trans (Nat.le_trans (Nat.le_trans (Nat.le_trans (Nat.le_trans Z0 E313.1) (Keep.of_wr W314).1) (Keep.of_wr W315).1) E316.1) E317.1) Kc321.1) E322.1) Kc324.1) E326.1) Kc327.1) F328 F330 F329 F331 hcd324 hbd324 (Nat.le_of_ble_eq_true rfl) F332 F334 F333 F335 hcd321 hbd318 (Nat.le_of_ble_eq_true rfl) Fh327 Fg327 F336 hcz F337 hfm (by simp)) hZ327 (hw _ (List.mem_of_getElem? (i := 64) rfl)) (hw _ (List.mem_of_getElem? (i := 38) rfl)) (by decide) (by decide)) q338a q338c (g := (mkF m 280 #[.val (.int x0), .val (.int x1), .val (.int x2), .val (.int (2 : Int32)), .val (.int (0 : Int32)), .val (.int (0 : Int32)), .val (.int f6), .val (.int f7), .val (.int u0), .val (.int u1), .val (.int v0), .val (.int v1), .val (.ref b313), .val (.ref b316), .val (.ref b317), .val (.ref b322), .val (.ref ac), .val (.ref b326), .val (.int (0 : Int32))] [(.ref b326)])) rfl (by rw [hml]; rfl) (Steps.refl _) (argsL := []) (rest := []) (lenOf pd_6 rfl) rfl (by show 2 * 0 + _ ≤ _; exact Nat.le_of_eq rfl) (hb hby at_280) (fun _ _ => ⟨rfl, rfl, (by decide : 14 + 0 ≤ _), (by decide : 75 + 0 ≤ _)⟩)
                    dsimp only [Pt.U, Pt.locs, Pt.cells, Pt.slots] at X338 l338 y338 z338 st338 hQ338
                    subst l338 y338 z338
                    obtain ⟨rfl, N338q, eh338⟩ := hQ338
                    have N338 := Fr.app N327 N338q
                    refine Ends.pre (T' := T338.setTop (mkF m 283 #[.val (.int x0), .val (.int x1), .val (.int x2), .val (.int (2 : Int32)), .val (.int (0 : Int32)), .val (.int (0 : Int32)), .val (.int f6), .val (.int f7), .val (.int u0), .val (.int u1), .val (.int v0), .val (.int v1), .val (.ref b313), .val (.ref b316), .val (.ref b317), .val (.ref b322), .val (.ref ac), .val (.ref b326), .val (.int (0 : Int32))] [(.int (0 : Int32))])) (fun t k => st338.trans k) ?_
                    refine Ends.pre (fun t k => XS.iload X338.here hx rfl (hb hby at_283) rfl k) ?_
                    refine Ends.pre (T' := T338.setTop (mkF m 288 #[.val (.int x0), .val (.int x1), .val (.int x2), .val (.int (2 : Int32)), .val (.int (0 : Int32)), .val (.int (0 : Int32)), .val (.int f6), .val (.int f7), .val (.int u0), .val (.int u1), .val (.int v0), .val (.int v1), .val (.ref b313), .val (.ref b316), .val (.ref b317), .val (.ref b322), .val (.ref ac), .val (.ref b326), .val (.int (0 : Int32))] [])) (fun t k => XS.icmpNo X338.here hx rfl (hb hby at_285) rfl (by decide) k) ?_
                    refine Ends.pre (fun t k => XS.iconst X338.here hx rfl (hb hby at_288) k) ?_
                    refine Ends.pre (fun t k => XS.goto X338.here hx rfl (pc0 := 289) (pc' := 293) rfl (hb hby at_289) (by decide) (by decide) k) ?_
                    exact Ends.retW (w := (.int (1 : Int32))) X338 hx Bd.notSynchronized Bd.returns rfl (Or.inl ⟨rfl, Or.inr (Or.inl rfl), _, rfl⟩) (hb hby at_293) eh338 hZ327 hEL hS327 (Nat.le_refl _) hh CR327 ⟨rfl, N338⟩ (by decide) (by decide)
                  refine Ends.pre (fun t k => XS.iload X324.here hx rfl (hb hby at_205) rfl k) ?_
                  by_cases hc207_339 : f7 = 0
                  · refine Ends.pre (T' := T324.setTop (mkF m 216 #[.val (.int x0), .val (.int x1), .val (.int x2), .val (.int (2 : Int32)), .val (.int (0 : Int32)), .val (.int (0 : Int32)), .val (.int f6), .val (.int f7), .val (.int u0), .val (.int u1), .val (.int v0), .val (.int v1), .val (.ref b313), .val (.ref b316), .val (.ref b317), .val (.ref b322), .unset, .unset, .unset] [])) (fun t k => XS.ifYes X324.here hx rfl (pc0 := 207) (pc' := 216) rfl (hb hby at_207) rfl (Jvm.Free.XT.i0_eq_t hc207_339) (by decide) (by decide) k) ?_
                    have F340 : Sta Z T324.heap "com/example/static_permission_checker/staticpermissionchecker/core/FlowConstraint$Access" "READ" "Lcom/example/static_permission_checker/staticpermissionchecker/core/FlowConstraint$Access;" (.ref wREAD) := (Sta_keep0 S_READ K324)
                    obtain ⟨T341, X341, e341, st341⟩ := getS2 X324 hx hZ324 hown324 (host := "") (Or.inl (hw _ (List.mem_of_getElem? (i := 33) rfl))) Via.refl rfl F340 (g := (mkF m 216 #[.val (.int x0), .val (.int x1), .val (.int x2), .val (.int (2 : Int32)), .val (.int (0 : Int32)), .val (.int (0 : Int32)), .val (.int f6), .val (.int f7), .val (.int u0), .val (.int u1), .val (.int v0), .val (.int v1), .val (.ref b313), .val (.ref b316), .val (.ref b317), .val (.ref b322), .unset, .unset, .unset] [])) rfl (hb hby at_216)
                    refine Ends.pre (T' := T341.setTop (mkF m 219 #[.val (.int x0), .val (.int x1), .val (.int x2), .val (.int (2 : Int32)), .val (.int (0 : Int32)), .val (.int (0 : Int32)), .val (.int f6), .val (.int f7), .val (.int u0), .val (.int u1), .val (.int v0), .val (.int v1), .val (.ref b313), .val (.ref b316), .val (.ref b317), .val (.ref b322), .unset, .unset, .unset] [(.ref wREAD)])) (fun t k => st341 _ k) ?_
                    exact J219_325 T341 X341 e341 wREAD
                  · refine Ends.pre (T' := T324.setTop (mkF m 210 #[.val (.int x0), .val (.int x1), .val (.int x2), .val (.int (2 : Int32)), .val (.int (0 : Int32)), .val (.int (0 : Int32)), .val (.int f6), .val (.int f7), .val (.int u0), .val (.int u1), .val (.int v0), .val (.int v1), .val (.ref b313), .val (.ref b316), .val (.ref b317), .val (.ref b322), .unset, .unset, .unset] [])) (fun t k => XS.ifNo X324.here hx rfl (hb hby at_207) rfl (Jvm.Free.XT.i0_eq_f hc207_339) k) ?_
                    have F342 : Sta Z T324.heap "com/example/static_permission_checker/staticpermissionchecker/core/FlowConstraint$Access" "WRITE" "Lcom/example/static_permission_checker/staticpermissionchecker/core/FlowConstraint$Access;" (.ref wWRITE) := (Sta_keep0 S_WRITE K324)
                    obtain ⟨T343, X343, e343, st343⟩ := getS2 X324 hx hZ324 hown324 (host := "") (Or.inl (hw _ (List.mem_of_getElem? (i := 75) rfl))) Via.refl rfl F342 (g := (mkF m 210 #[.val (.int x0), .val (.int x1), .val (.int x2), .val (.int (2 : Int32)), .val (.int (0 : Int32)), .val (.int (0 : Int32)), .val (.int f6), .val (.int f7), .val (.int u0), .val (.int u1), .val (.int v0), .val (.int v1), .val (.ref b313), .val (.ref b316), .val (.ref b317), .val (.ref b322), .unset, .unset, .unset] [])) rfl (hb hby at_210)
                    refine Ends.pre (T' := T343.setTop (mkF m 213 #[.val (.int x0), .val (.int x1), .val (.int x2), .val (.int (2 : Int32)), .val (.int (0 : Int32)), .val (.int (0 : Int32)), .val (.int f6), .val (.int f7), .val (.int u0), .val (.int u1), .val (.int v0), .val (.int v1), .val (.ref b313), .val (.ref b316), .val (.ref b317), .val (.ref b322), .unset, .unset, .unset] [(.ref wWRITE)])) (fun t k => st343 _ k) ?_
                    refine Ends.pre (fun t k => XS.goto X343.here hx rfl (pc0 := 213) (pc' := 219) rfl (hb hby at_213) (by decide) (by decide) k) ?_
                    exact J219_325 T343 X343 e343 wWRITE
                · refine Ends.pre (fun t k => XS.iload X316.here hx rfl (hb hby at_174) rfl k) ?_
                  refine Ends.pre (T' := T316.setTop (mkF m 179 #[.val (.int x0), .val (.int x1), .val (.int x2), .val (.int (2 : Int32)), .val (.int (0 : Int32)), .val (.int (1 : Int32)), .val (.int f6), .val (.int f7), .val (.int u0), .val (.int u1), .val (.int v0), .val (.int v1), .val (.ref b313), .val (.ref b316), .unset, .unset, .unset, .unset, .unset] [])) (fun t k => XS.ifNo X316.here hx rfl (hb hby at_176) rfl (by decide) k) ?_
                  refine Ends.pre (fun t k => XS.aconstNull X316.here hx rfl (hb hby at_179) k) ?_
                  refine Ends.pre (fun t k => XS.goto X316.here hx rfl (pc0 := 180) (pc' := 192) rfl (hb hby at_180) (by decide) (by decide) k) ?_
                  refine Ends.pre (fun t k => XS.astore (g := (mkF m 192 #[.val (.int x0), .val (.int x1), .val (.int x2), .val (.int (2 : Int32)), .val (.int (0 : Int32)), .val (.int (1 : Int32)), .val (.int f6), .val (.int f7), .val (.int u0), .val (.int u1), .val (.int v0), .val (.int v1), .val (.ref b313), .val (.ref b316), .unset, .unset, .unset, .unset, .unset] [.null])) X316.here hx rfl (hb hby at_192) rfl rfl (l' := #[.val (.int x0), .val (.int x1), .val (.int x2), .val (.int (2 : Int32)), .val (.int (0 : Int32)), .val (.int (1 : Int32)), .val (.int f6), .val (.int f7), .val (.int u0), .val (.int u1), .val (.int v0), .val (.int v1), .val (.ref b313), .val (.ref b316), .val .null, .unset, .unset, .unset, .unset]) rfl k) ?_
                  obtain ⟨T344, h344, X344, e344, E344, A344, D344, -, st344⟩ := newO X316 hx hZ hown (hw _ (List.mem_of_getElem? (i := 1) rfl)) (hw _ (List.mem_of_getElem? (i := 2) rfl)) (hw _ (List.mem_of_getElem? (i := 3) rfl)) e316 (g := (mkF m 194 #[.val (.int x0), .val (.int x1), .val (.int x2), .val (.int (2 : Int32)), .val (.int (0 : Int32)), .val (.int (1 : Int32)), .val (.int f6), .val (.int f7), .val (.int u0), .val (.int u1), .val (.int v0), .val (.int v1), .val (.ref b313), .val (.ref b316), .val .null, .unset, .unset, .unset, .unset] [])) rfl (hb hby at_194) (by decide) (by decide)
                  obtain ⟨b344, g344⟩ : ∃ z, z = h316.size := ⟨_, rfl⟩
                  rw [← g344] at A344 D344 st344
                  have ge_b344 : n0 ≤ b344 := Nat.le_trans (Nat.le_trans (Nat.le_trans (Nat.le_trans (Nat.le_trans Z0 E313.1) (Keep.of_wr W314).1) (Keep.of_wr W315).1) E316.1) (Nat.le_of_eq g344.symm)
                  have sz_b344 : h0.size ≤ b344 := Nat.le_trans K316.1 (Nat.le_of_eq g344.symm)
                  have CR344 := CHr.trans CR316 (CHr.ext E344 CR316.1)
                  have K344 : Keep h0 h344 [] := K316.ext E344
                  have Fd344_coder : Fld Z h344 b344 "java/lang/String" "coder" "B" (.int (0 : Int32)) := D344 (Or.inr (hw _ (List.mem_of_getElem? (i := 27) rfl))) (ty := .byte) (by decide)
                  have Fd344_value : Fld Z h344 b344 "java/lang/String" "value" "[B" .null := D344 (Or.inr (hw _ (List.mem_of_getElem? (i := 29) rfl))) (ty := (.array .byte)) (by decide)
                  refine Ends.pre (T' := T344.setTop (mkF m 197 #[.val (.int x0), .val (.int x1), .val (.int x2), .val (.int (2 : Int32)), .val (.int (0 : Int32)), .val (.int (1 : Int32)), .val (.int f6), .val (.int f7), .val (.int u0), .val (.int u1), .val (.int v0), .val (.int v1), .val (.ref b313), .val (.ref b316), .val .null, .unset, .unset, .unset, .unset] [(.ref b344)])) (fun t k => st344 _ k) ?_
                  refine Ends.pre (fun t k => XS.dup X344.here hx rfl (hb hby at_197) rfl rfl k) ?_
                  refine Ends.pre (fun t k => XS.aload X344.here hx rfl (hb hby at_198) rfl rfl k) ?_
                  have F345 : Arv Z h344 b316 k316 .char (0 : Int32) [] (.int (0 : Int32)) := (Arv.ext V316 E344)
                  obtain ⟨_, _, ⟨T346, L346, k346, n346⟩, -, Xa346, hSa346, ga346, ⟨Lc346, hQ346, l346, y346, z346, CRc346⟩, st346⟩ := X344.specialBackS hx (y := (⟨"java/lang/String", "<init>", "([C)V"⟩ : MethodName)) rfl hown (mvT hZ (hw _ (List.mem_of_getElem? (i := 4) rfl))) (mvT hZ (hw _ (List.mem_of_getElem? (i := 5) rfl))) (mvT hZ (hw _ (List.mem_of_getElem? (i := 6) rfl))) (by decide) (backOfSH (W := 1) (rm_e1 l Z a0 hw [] b344 b316 k316 h344 n0 (Nat.le_trans (Nat.le_trans (Nat.le_trans (Nat.le_trans (Nat.le_trans Z0 E313.1) (Keep.of_wr W314).1) (Keep.of_wr W315).1) E316.1) E344.1) A344 Fd344_value Fd344_coder ge_b344 F345) hZ (hw _ (List.mem_of_getElem? (i := 6) rfl)) (hw _ (List.mem_of_getElem? (i := 3) rfl)) (by decide) (by decide) hEL CR344.1) (g := (mkF m 200 #[.val (.int x0), .val (.int x1), .val (.int x2), .val (.int (2 : Int32)), .val (.int (0 : Int32)), .val (.int (1 : Int32)), .val (.int f6), .val (.int f7), .val (.int u0), .val (.int u1), .val (.int v0), .val (.int v1), .val (.ref b313), .val (.ref b316), .val .null, .unset, .unset, .unset, .unset] [(.ref b316), (.ref b344), (.ref b344)])) rfl (by rw [hml]; rfl) (Steps.refl _) (a := b344) (argsL := [(.ref b316)]) (rest := [(.ref b344)]) (lenOf pd_4 rfl) rfl (by show 2 * 0 + _ ≤ _; exact Nat.le_of_eq rfl) (hb hby at_200) (fun _ _ => ⟨rfl, e344, (by decide : 3 + 4 ≤ _), (by decide : 6 + 8 ≤ _)⟩)
                  dsimp only [Pt.U, Pt.locs, Pt.cells, Pt.slots] at Xa346 hSa346 ga346 l346 y346 z346 st346 hQ346 CRc346
                  subst l346 y346 z346
                  obtain ⟨X346, hS346, hZ346, hown346⟩ := rebS hS0 (n1 := T344.heap.size) (by rw [e344]; exact (Nat.le_trans (Nat.le_trans (Nat.le_trans (Nat.le_trans (Nat.le_trans hk0 E313.1) (Keep.of_wr W314).1) (Keep.of_wr W315).1) E316.1) E344.1)) Xa346 hSa346 ga346 hZ hown
                  obtain ⟨rfl, N346q, Kc346, Es346, Cs346, t346, kb346, Vs346, As346⟩ := hQ346
                  have N346 := Fr.app N315 N346q
                  have K346 : Keep h0 T346.heap [] := K344.trans Kc346 (allS (Or.inr sz_b344) all0)
                  have CR346 := CHr.trans CR344 CRc346
                  have hcd346 : StrChars.Road.CodA ([] : List Int32) 0 (0 : Int32) [] := own_lit rfl rfl own_al0
                  have hbd346 : ∀ c ∈ ([] : List Int32), ¬ c < 0 ∧ ¬ (65535 : Int32) < c := own_al0
                  refine Ends.pre (T' := T346.setTop (mkF m 203 #[.val (.int x0), .val (.int x1), .val (.int x2), .val (.int (2 : Int32)), .val (.int (0 : Int32)), .val (.int (1 : Int32)), .val (.int f6), .val (.int f7), .val (.int u0), .val (.int u1), .val (.int v0), .val (.int v1), .val (.ref b313), .val (.ref b316), .val .null, .unset, .unset, .unset, .unset] [(.ref b344)])) (fun t k => st346.trans k) ?_
                  refine Ends.pre (fun t k => XS.astore (g := (mkF m 203 #[.val (.int x0), .val (.int x1), .val (.int x2), .val (.int (2 : Int32)), .val (.int (0 : Int32)), .val (.int (1 : Int32)), .val (.int f6), .val (.int f7), .val (.int u0), .val (.int u1), .val (.int v0), .val (.int v1), .val (.ref b313), .val (.ref b316), .val .null, .unset, .unset, .unset, .unset] [(.ref b344)])) X346.here hx rfl (hb hby at_203) rfl rfl (l' := #[.val (.int x0), .val (.int x1), .val (.int x2), .val (.int (2 : Int32)), .val (.int (0 : Int32)), .val (.int (1 : Int32)), .val (.int f6), .val (.int f7), .val (.int u0), .val (.int u1), .val (.int v0), .val (.int v1), .val (.ref b313), .val (.ref b316), .val .null, .val (.ref b344), .unset, .unset, .unset]) rfl k) ?_
                  have J219_347 : ∀ (TJ347 : State) (XJ347 : SS X346 TJ347) (eJ347 : TJ347.heap = T346.heap) (ac : Addr), Jvm.RoadKit.Ends p e below (EndW s room_1 Z consts_1 (Q_rm0 Z x0 x1 x2 wREAD wWRITE cz fm h0 n0)) (TJ347.setTop (mkF m 219 #[.val (.int x0), .val (.int x1), .val (.int x2), .val (.int (2 : Int32)), .val (.int (0 : Int32)), .val (.int (1 : Int32)), .val (.int f6), .val (.int f7), .val (.int u0), .val (.int u1), .val (.int v0), .val (.int v1), .val (.ref b313), .val (.ref b316), .val .null, .val (.ref b344), .unset, .unset, .unset] [(.ref ac)])) := by
                    intro TJ347 XJ347 eJ347 ac
                    unfold SS at XJ347
                    refine Ends.pre (fun t k => XS.astore (g := (mkF m 219 #[.val (.int x0), .val (.int x1), .val (.int x2), .val (.int (2 : Int32)), .val (.int (0 : Int32)), .val (.int (1 : Int32)), .val (.int f6), .val (.int f7), .val (.int u0), .val (.int u1), .val (.int v0), .val (.int v1), .val (.ref b313), .val (.ref b316), .val .null, .val (.ref b344), .unset, .unset, .unset] [(.ref ac)])) XJ347.here hx rfl (hb hby at_219) rfl rfl (l' := #[.val (.int x0), .val (.int x1), .val (.int x2), .val (.int (2 : Int32)), .val (.int (0 : Int32)), .val (.int (1 : Int32)), .val (.int f6), .val (.int f7), .val (.int u0), .val (.int u1), .val (.int v0), .val (.int v1), .val (.ref b313), .val (.ref b316), .val .null, .val (.ref b344), .val (.ref ac), .unset, .unset]) rfl k) ?_
                    obtain ⟨T348, h348, X348, e348, E348, A348, D348, -, st348⟩ := newO XJ347 hx hZ346 hown346 (hw _ (List.mem_of_getElem? (i := 36) rfl)) (hw _ (List.mem_of_getElem? (i := 37) rfl)) (hw _ (List.mem_of_getElem? (i := 38) rfl)) eJ347 (g := (mkF m 221 #[.val (.int x0), .val (.int x1), .val (.int x2), .val (.int (2 : Int32)), .val (.int (0 : Int32)), .val (.int (1 : Int32)), .val (.int f6), .val (.int f7), .val (.int u0), .val (.int u1), .val (.int v0), .val (.int v1), .val (.ref b313), .val (.ref b316), .val .null, .val (.ref b344), .val (.ref ac), .unset, .unset] [])) rfl (hb hby at_221) (by decide) (by decide)
                    obtain ⟨b348, g348⟩ : ∃ z, z = T346.heap.size := ⟨_, rfl⟩
                    rw [← g348] at A348 D348 st348
                    have ge_b348 : n0 ≤ b348 := Nat.le_trans (Nat.le_trans (Nat.le_trans (Nat.le_trans (Nat.le_trans (Nat.le_trans (Nat.le_trans Z0 E313.1) (Keep.of_wr W314).1) (Keep.of_wr W315).1) E316.1) E344.1) Kc346.1) (Nat.le_of_eq g348.symm)
                    have sz_b348 : h0.size ≤ b348 := Nat.le_trans K346.1 (Nat.le_of_eq g348.symm)
                    have CR348 := CHr.trans CR346 (CHr.ext E348 CR346.1)
                    have K348 : Keep h0 h348 [] := K346.ext E348
                    have Fd348_holder : Fld Z h348 b348 "com/example/static_permission_checker/staticpermissionchecker/core/FlowConstraint" "holder" "Ljava/lang/String;" .null := D348 (Or.inr (hw _ (List.mem_of_getElem? (i := 55) rfl))) (ty := (.object "java/lang/String")) (by decide)
                    have Fd348_access : Fld Z h348 b348 "com/example/static_permission_checker/staticpermissionchecker/core/FlowConstraint" "access" "Lcom/example/static_permission_checker/staticpermissionchecker/core/FlowConstraint$Access;" .null := D348 (Or.inr (hw _ (List.mem_of_getElem? (i := 57) rfl))) (ty := (.object "com/example/static_permission_checker/staticpermissionchecker/core/FlowConstraint$Access")) (by decide)
                    have Fd348_guard : Fld Z h348 b348 "com/example/static_permission_checker/staticpermissionchecker/core/FlowConstraint" "guard" "Ljava/lang/String;" .null := D348 (Or.inr (hw _ (List.mem_of_getElem? (i := 59) rfl))) (ty := (.object "java/lang/String")) (by decide)
                    refine Ends.pre (T' := T348.setTop (mkF m 224 #[.val (.int x0), .val (.int x1), .val (.int x2), .val (.int (2 : Int32)), .val (.int (0 : Int32)), .val (.int (1 : Int32)), .val (.int f6), .val (.int f7), .val (.int u0), .val (.int u1), .val (.int v0), .val (.int v1), .val (.ref b313), .val (.ref b316), .val .null, .val (.ref b344), .val (.ref ac), .unset, .unset] [(.ref b348)])) (fun t k => st348 _ k) ?_
                    refine Ends.pre (fun t k => XS.dup X348.here hx rfl (hb hby at_224) rfl rfl k) ?_
                    refine Ends.pre (fun t k => XS.aload X348.here hx rfl (hb hby at_225) rfl rfl k) ?_
                    refine Ends.pre (fun t k => XS.aload X348.here hx rfl (hb hby at_227) rfl rfl k) ?_
                    refine Ends.pre (fun t k => XS.aload X348.here hx rfl (hb hby at_229) rfl rfl k) ?_
                    obtain ⟨_, _, ⟨T349, L349, k349, n349⟩, -, Xa349, hSa349, ga349, ⟨Lc349, hQ349, l349, y349, z349, CRc349⟩, st349⟩ := X348.specialBackS hx (y := (⟨"com/example/static_permission_checker/staticpermissionchecker/core/FlowConstraint", "<init>", "(Ljava/lang/String;Lcom/example/static_permission_checker/staticpermissionchecker/core/FlowConstraint$Access;Ljava/lang/String;)V"⟩ : MethodName)) rfl hown346 (mvT hZ346 (hw _ (List.mem_of_getElem? (i := 39) rfl))) (mvT hZ346 (hw _ (List.mem_of_getElem? (i := 40) rfl))) (mvT hZ346 (hw _ (List.mem_of_getElem? (i := 41) rfl))) (by decide) (backOfSH (W := 1) (rm7n l Z a0 hw [] b348 ac b344 h348 n0 (Nat.le_trans (Nat.le_trans (Nat.le_trans (Nat.le_trans (Nat.le_trans (Nat.le_trans (Nat.le_trans Z0 E313.1) (Keep.of_wr W314).1) (Keep.of_wr W315).1) E316.1) E344.1) Kc346.1) E348.1) A348 ge_b348 Fd348_holder Fd348_access Fd348_guard) hZ346 (hw _ (List.mem_of_getElem? (i := 41) rfl)) (hw _ (List.mem_of_getElem? (i := 38) rfl)) (by decide) (by decide) hEL CR348.1) (g := (mkF m 231 #[.val (.int x0), .val (.int x1), .val (.int x2), .val (.int (2 : Int32)), .val (.int (0 : Int32)), .val (.int (1 : Int32)), .val (.int f6), .val (.int f7), .val (.int u0), .val (.int u1), .val (.int v0), .val (.int v1), .val (.ref b313), .val (.ref b316), .val .null, .val (.ref b344), .val (.ref ac), .unset, .unset] [(.ref b344), (.ref ac), .null, (.ref b348), (.ref b348)])) rfl (by rw [hml]; rfl) (Steps.refl _) (a := b348) (argsL := [.null, (.ref ac), (.ref b344)]) (rest := [(.ref b348)]) (lenOf pd_5 rfl) rfl (by show 2 * 0 + _ ≤ _; exact Nat.le_of_eq rfl) (hb hby at_231) (fun _ _ => ⟨rfl, e348, (by decide : 8 + 4 ≤ _), (by decide : 17 + 52 ≤ _)⟩)
                    dsimp only [Pt.U, Pt.locs, Pt.cells, Pt.slots] at Xa349 hSa349 ga349 l349 y349 z349 st349 hQ349 CRc349
                    subst l349 y349 z349
                    obtain ⟨X349, hS349, hZ349, hown349⟩ := rebS hS346 (n1 := T348.heap.size) (by rw [e348]; exact (Nat.le_trans (Nat.le_refl _) E348.1)) Xa349 hSa349 ga349 hZ346 hown346
                    obtain ⟨rfl, N349q, Kc349, Ec349, Fh349, Fg349⟩ := hQ349
                    have N349 := Fr.app N346 N349q
                    have K349 : Keep h0 T349.heap [] := K348.trans Kc349 (allS (Or.inr sz_b348) all0)
                    have CR349 := CHr.trans CR348 CRc349
                    refine Ends.pre (T' := T349.setTop (mkF m 234 #[.val (.int x0), .val (.int x1), .val (.int x2), .val (.int (2 : Int32)), .val (.int (0 : Int32)), .val (.int (1 : Int32)), .val (.int f6), .val (.int f7), .val (.int u0), .val (.int u1), .val (.int v0), .val (.int v1), .val (.ref b313), .val (.ref b316), .val .null, .val (.ref b344), .val (.ref ac), .unset, .unset] [(.ref b348)])) (fun t k => st349.trans k) ?_
                    refine Ends.pre (fun t k => XS.astore (g := (mkF m 234 #[.val (.int x0), .val (.int x1), .val (.int x2), .val (.int (2 : Int32)), .val (.int (0 : Int32)), .val (.int (1 : Int32)), .val (.int f6), .val (.int f7), .val (.int u0), .val (.int u1), .val (.int v0), .val (.int v1), .val (.ref b313), .val (.ref b316), .val .null, .val (.ref b344), .val (.ref ac), .unset, .unset] [(.ref b348)])) X349.here hx rfl (hb hby at_234) rfl rfl (l' := #[.val (.int x0), .val (.int x1), .val (.int x2), .val (.int (2 : Int32)), .val (.int (0 : Int32)), .val (.int (1 : Int32)), .val (.int f6), .val (.int f7), .val (.int u0), .val (.int u1), .val (.int v0), .val (.int v1), .val (.ref b313), .val (.ref b316), .val .null, .val (.ref b344), .val (.ref ac), .val (.ref b348), .unset]) rfl k) ?_
                    refine Ends.pre (fun t k => XS.iload X349.here hx rfl (hb hby at_236) rfl k) ?_
                    refine Ends.pre (T' := T349.setTop (mkF m 275 #[.val (.int x0), .val (.int x1), .val (.int x2), .val (.int (2 : Int32)), .val (.int (0 : Int32)), .val (.int (1 : Int32)), .val (.int f6), .val (.int f7), .val (.int u0), .val (.int u1), .val (.int v0), .val (.int v1), .val (.ref b313), .val (.ref b316), .val .null, .val (.ref b344), .val (.ref ac), .val (.ref b348), .unset] [])) (fun t k => XS.ifYes X349.here hx rfl (pc0 := 238) (pc' := 275) rfl (hb hby at_238) rfl (by decide) (by decide) (by decide) k) ?_
                    refine Ends.pre (fun t k => XS.iconst X349.here hx rfl (hb hby at_275) k) ?_
                    refine Ends.pre (fun t k => XS.istore (g := (mkF m 276 #[.val (.int x0), .val (.int x1), .val (.int x2), .val (.int (2 : Int32)), .val (.int (0 : Int32)), .val (.int (1 : Int32)), .val (.int f6), .val (.int f7), .val (.int u0), .val (.int u1), .val (.int v0), .val (.int v1), .val (.ref b313), .val (.ref b316), .val .null, .val (.ref b344), .val (.ref ac), .val (.ref b348), .unset] [(.int (0 : Int32))])) X349.here hx rfl (hb hby at_276) rfl (l' := #[.val (.int x0), .val (.int x1), .val (.int x2), .val (.int (2 : Int32)), .val (.int (0 : Int32)), .val (.int (1 : Int32)), .val (.int f6), .val (.int f7), .val (.int u0), .val (.int u1), .val (.int v0), .val (.int v1), .val (.ref b313), .val (.ref b316), .val .null, .val (.ref b344), .val (.ref ac), .val (.ref b348), .val (.int (0 : Int32))]) rfl k) ?_
                    refine Ends.pre (fun t k => XS.aload X349.here hx rfl (hb hby at_278) rfl rfl k) ?_
                    have F350 : Exa Z T349.heap b344 "java/lang/String" := ((Es346.ext E348).keep Kc349)
                    have F351 : Fld Z T349.heap b344 "java/lang/String" "value" "[B" (.ref t346) := ((Vs346.ext E348).keep Kc349 (ninS (Nat.ne_of_lt (Nat.lt_of_lt_of_le (Nat.lt_of_lt_of_le A344.lt Kc346.1) (Nat.le_of_eq g348.symm))) nin0))
                    have F352 : Fld Z T349.heap b344 "java/lang/String" "coder" "B" (.int 0) := ((Cs346.ext E348).keep Kc349 (ninS (Nat.ne_of_lt (Nat.lt_of_lt_of_le (Nat.lt_of_lt_of_le A344.lt Kc346.1) (Nat.le_of_eq g348.symm))) nin0))
                    have F353 : Arv Z T349.heap t346 kb346 .byte (0 : Int32) [] (.int 0) := ((Arv.ext As346 E348).keep Kc349 (ninS (Nat.ne_of_lt (Nat.lt_of_lt_of_le As346.lt (Nat.le_of_eq g348.symm))) nin0))
                    have F354 : Sta Z T349.heap "java/lang/String" "COMPACT_STRINGS" "Z" (.int cz) := (Sta_keep0 SCS K349)
                    have F355 : Sta Z T349.heap "jdk/internal/util/Preconditions" "SIOOBE_FORMATTER" "Ljava/util/function/BiFunction;" fm := (Sta_keep0 SFM K349)
                    obtain ⟨cq356, kq356, q356a, q356b, q356c⟩ := isOf hZ349 rfl Ec349
                    obtain ⟨_, _, ⟨T356, L356, k356, n356⟩, -, X356, ⟨Lc356, hQ356, l356, y356, z356⟩, st356⟩ := X349.virtualBack hx (y := (⟨"com/example/static_permission_checker/staticpermissionchecker/core/FlowConstraint", "holds", "()Z"⟩ : MethodName)) (z := (⟨"com/example/static_permission_checker/staticpermissionchecker/core/FlowConstraint", "holds", "()Z"⟩ : MethodName)) hown349 (mvT hZ349 (hw _ (List.mem_of_getElem? (i := 60) rfl))) (mvT hZ349 (hw _ (List.mem_of_getElem? (i := 61) rfl))) (notFace_of_selects (args := #[]) (mvT hZ349 (hw _ (List.mem_of_getElem? (i := 63) rfl)))) (mvT hZ349 (hw _ (List.mem_of_getElem? (i := 63) rfl))) (mvT hZ349 (hw _ (List.mem_of_getElem? (i := 62) rfl))) (by decide) (backOf (W := 0) (rm10n l Z a0 hw [] b348 b344 t346 kb346 ([] : List Int32) (0 : Int32) _  cz fm T349.heap n0 (Nat.le_trans (Nat.le_trans (Nat.le_trans (Nat.le_trans (Nat.le_trans (Nat.le_trans (Nat.le_trans (Nat.le_trans Z0 E313.1) (Keep.of_wr W314).1) (Keep.of_wr W315).1) E316.1) E344.1) Kc346.1) E348.1) Kc349.1) F350 F352 F351 F353 hcd346 hbd346 (Nat.le_of_ble_eq_true rfl)  Fh349 Fg349 F354 hcz F355 hfm ) hZ349 (hw _ (List.mem_of_getElem? (i := 64) rfl)) (hw _ (List.mem_of_getElem? (i := 38) rfl)) (by decide) (by decide)) q356a q356c (g := (mkF m 280 #[.val (.int x0), .val (.int x1), .val (.int x2), .val (.int (2 : Int32)), .val (.int (0 : Int32)), .val (.int (1 : Int32)), .val (.int f6), .val (.int f7), .val (.int u0), .val (.int u1), .val (.int v0), .val (.int v1), .val (.ref b313), .val (.ref b316), .val .null, .val (.ref b344), .val (.ref ac), .val (.ref b348), .val (.int (0 : Int32))] [(.ref b348)])) rfl (by rw [hml]; rfl) (Steps.refl _) (argsL := []) (rest := []) (lenOf pd_6 rfl) rfl (by show 2 * 0 + _ ≤ _; exact Nat.le_of_eq rfl) (hb hby at_280) (fun _ _ => ⟨rfl, rfl, (by decide : 12 + 0 ≤ _), (by decide : 69 + 0 ≤ _)⟩)
                    dsimp only [Pt.U, Pt.locs, Pt.cells, Pt.slots] at X356 l356 y356 z356 st356 hQ356
                    subst l356 y356 z356
                    obtain ⟨rfl, N356q, eh356⟩ := hQ356
                    have N356 := Fr.app N349 N356q
                    refine Ends.pre (T' := T356.setTop (mkF m 283 #[.val (.int x0), .val (.int x1), .val (.int x2), .val (.int (2 : Int32)), .val (.int (0 : Int32)), .val (.int (1 : Int32)), .val (.int f6), .val (.int f7), .val (.int u0), .val (.int u1), .val (.int v0), .val (.int v1), .val (.ref b313), .val (.ref b316), .val .null, .val (.ref b344), .val (.ref ac), .val (.ref b348), .val (.int (0 : Int32))] [(.int (0 : Int32))])) (fun t k => st356.trans k) ?_
                    refine Ends.pre (fun t k => XS.iload X356.here hx rfl (hb hby at_283) rfl k) ?_
                    refine Ends.pre (T' := T356.setTop (mkF m 288 #[.val (.int x0), .val (.int x1), .val (.int x2), .val (.int (2 : Int32)), .val (.int (0 : Int32)), .val (.int (1 : Int32)), .val (.int f6), .val (.int f7), .val (.int u0), .val (.int u1), .val (.int v0), .val (.int v1), .val (.ref b313), .val (.ref b316), .val .null, .val (.ref b344), .val (.ref ac), .val (.ref b348), .val (.int (0 : Int32))] [])) (fun t k => XS.icmpNo X356.here hx rfl (hb hby at_285) rfl (by decide) k) ?_
                    refine Ends.pre (fun t k => XS.iconst X356.here hx rfl (hb hby at_288) k) ?_
                    refine Ends.pre (fun t k => XS.goto X356.here hx rfl (pc0 := 289) (pc' := 293) rfl (hb hby at_289) (by decide) (by decide) k) ?_
                    exact Ends.retW (w := (.int (1 : Int32))) X356 hx Bd.notSynchronized Bd.returns rfl (Or.inl ⟨rfl, Or.inr (Or.inl rfl), _, rfl⟩) (hb hby at_293) eh356 hZ349 hEL hS349 (Nat.le_refl _) hh CR349 ⟨rfl, N356⟩ (by decide) (by decide)
                  refine Ends.pre (fun t k => XS.iload X346.here hx rfl (hb hby at_205) rfl k) ?_
                  by_cases hc207_357 : f7 = 0
                  · refine Ends.pre (T' := T346.setTop (mkF m 216 #[.val (.int x0), .val (.int x1), .val (.int x2), .val (.int (2 : Int32)), .val (.int (0 : Int32)), .val (.int (1 : Int32)), .val (.int f6), .val (.int f7), .val (.int u0), .val (.int u1), .val (.int v0), .val (.int v1), .val (.ref b313), .val (.ref b316), .val .null, .val (.ref b344), .unset, .unset, .unset] [])) (fun t k => XS.ifYes X346.here hx rfl (pc0 := 207) (pc' := 216) rfl (hb hby at_207) rfl (Jvm.Free.XT.i0_eq_t hc207_357) (by decide) (by decide) k) ?_
                    have F358 : Sta Z T346.heap "com/example/static_permission_checker/staticpermissionchecker/core/FlowConstraint$Access" "READ" "Lcom/example/static_permission_checker/staticpermissionchecker/core/FlowConstraint$Access;" (.ref wREAD) := (Sta_keep0 S_READ K346)
                    obtain ⟨T359, X359, e359, st359⟩ := getS2 X346 hx hZ346 hown346 (host := "") (Or.inl (hw _ (List.mem_of_getElem? (i := 33) rfl))) Via.refl rfl F358 (g := (mkF m 216 #[.val (.int x0), .val (.int x1), .val (.int x2), .val (.int (2 : Int32)), .val (.int (0 : Int32)), .val (.int (1 : Int32)), .val (.int f6), .val (.int f7), .val (.int u0), .val (.int u1), .val (.int v0), .val (.int v1), .val (.ref b313), .val (.ref b316), .val .null, .val (.ref b344), .unset, .unset, .unset] [])) rfl (hb hby at_216)
                    refine Ends.pre (T' := T359.setTop (mkF m 219 #[.val (.int x0), .val (.int x1), .val (.int x2), .val (.int (2 : Int32)), .val (.int (0 : Int32)), .val (.int (1 : Int32)), .val (.int f6), .val (.int f7), .val (.int u0), .val (.int u1), .val (.int v0), .val (.int v1), .val (.ref b313), .val (.ref b316), .val .null, .val (.ref b344), .unset, .unset, .unset] [(.ref wREAD)])) (fun t k => st359 _ k) ?_
                    exact J219_347 T359 X359 e359 wREAD
                  · refine Ends.pre (T' := T346.setTop (mkF m 210 #[.val (.int x0), .val (.int x1), .val (.int x2), .val (.int (2 : Int32)), .val (.int (0 : Int32)), .val (.int (1 : Int32)), .val (.int f6), .val (.int f7), .val (.int u0), .val (.int u1), .val (.int v0), .val (.int v1), .val (.ref b313), .val (.ref b316), .val .null, .val (.ref b344), .unset, .unset, .unset] [])) (fun t k => XS.ifNo X346.here hx rfl (hb hby at_207) rfl (Jvm.Free.XT.i0_eq_f hc207_357) k) ?_
                    have F360 : Sta Z T346.heap "com/example/static_permission_checker/staticpermissionchecker/core/FlowConstraint$Access" "WRITE" "Lcom/example/static_permission_checker/staticpermissionchecker/core/FlowConstraint$Access;" (.ref wWRITE) := (Sta_keep0 S_WRITE K346)
                    obtain ⟨T361, X361, e361, st361⟩ := getS2 X346 hx hZ346 hown346 (host := "") (Or.inl (hw _ (List.mem_of_getElem? (i := 75) rfl))) Via.refl rfl F360 (g := (mkF m 210 #[.val (.int x0), .val (.int x1), .val (.int x2), .val (.int (2 : Int32)), .val (.int (0 : Int32)), .val (.int (1 : Int32)), .val (.int f6), .val (.int f7), .val (.int u0), .val (.int u1), .val (.int v0), .val (.int v1), .val (.ref b313), .val (.ref b316), .val .null, .val (.ref b344), .unset, .unset, .unset] [])) rfl (hb hby at_210)
                    refine Ends.pre (T' := T361.setTop (mkF m 213 #[.val (.int x0), .val (.int x1), .val (.int x2), .val (.int (2 : Int32)), .val (.int (0 : Int32)), .val (.int (1 : Int32)), .val (.int f6), .val (.int f7), .val (.int u0), .val (.int u1), .val (.int v0), .val (.int v1), .val (.ref b313), .val (.ref b316), .val .null, .val (.ref b344), .unset, .unset, .unset] [(.ref wWRITE)])) (fun t k => st361 _ k) ?_
                    refine Ends.pre (fun t k => XS.goto X361.here hx rfl (pc0 := 213) (pc' := 219) rfl (hb hby at_213) (by decide) (by decide) k) ?_
                    exact J219_347 T361 X361 e361 wWRITE
              · refine Ends.pre (fun t k => XS.iload X315.here hx rfl (hb hby at_145) rfl k) ?_
                obtain ⟨T362, h362, k362, X362, e362, E362, A362, st362⟩ := newP X315 hx hZ (hw _ (List.mem_of_getElem? (i := 0) rfl)) e315 (g := (mkF m 147 #[.val (.int x0), .val (.int x1), .val (.int x2), .val (.int (2 : Int32)), .val (.int (1 : Int32)), .val (.int f5), .val (.int f6), .val (.int f7), .val (.int u0), .val (.int u1), .val (.int v0), .val (.int v1), .val (.ref b313), .unset, .unset, .unset, .unset, .unset, .unset] [(.int (1 : Int32))])) rfl (hb hby at_147) rfl (by decide) (cap := 1) (by decide) (by decide) (by decide) (by decide)
                obtain ⟨b362, g362⟩ : ∃ z, z = h315.size := ⟨_, rfl⟩
                rw [← g362] at A362 st362
                have ge_b362 : n0 ≤ b362 := Nat.le_trans (Nat.le_trans (Nat.le_trans (Nat.le_trans Z0 E313.1) (Keep.of_wr W314).1) (Keep.of_wr W315).1) (Nat.le_of_eq g362.symm)
                have sz_b362 : h0.size ≤ b362 := Nat.le_trans K315.1 (Nat.le_of_eq g362.symm)
                have CR362 := CHr.trans CR315 (CHr.ext E362 CR315.1)
                have K362 : Keep h0 h362 [] := K315.ext E362
                have V362 : Arv Z h362 b362 k362 .char (1 : Int32) [(.int (0 : Int32))] (.int (0 : Int32)) := (Arv.new A362 (by decide)).pad (pad_rep [] (.int (0 : Int32)) 1)
                refine Ends.pre (T' := T362.setTop (mkF m 149 #[.val (.int x0), .val (.int x1), .val (.int x2), .val (.int (2 : Int32)), .val (.int (1 : Int32)), .val (.int f5), .val (.int f6), .val (.int f7), .val (.int u0), .val (.int u1), .val (.int v0), .val (.int v1), .val (.ref b313), .unset, .unset, .unset, .unset, .unset, .unset] [(.ref b362)])) (fun t k => st362 _ k) ?_
                refine Ends.pre (fun t k => XS.astore (g := (mkF m 149 #[.val (.int x0), .val (.int x1), .val (.int x2), .val (.int (2 : Int32)), .val (.int (1 : Int32)), .val (.int f5), .val (.int f6), .val (.int f7), .val (.int u0), .val (.int u1), .val (.int v0), .val (.int v1), .val (.ref b313), .unset, .unset, .unset, .unset, .unset, .unset] [(.ref b362)])) X362.here hx rfl (hb hby at_149) rfl rfl (l' := #[.val (.int x0), .val (.int x1), .val (.int x2), .val (.int (2 : Int32)), .val (.int (1 : Int32)), .val (.int f5), .val (.int f6), .val (.int f7), .val (.int u0), .val (.int u1), .val (.int v0), .val (.int v1), .val (.ref b313), .val (.ref b362), .unset, .unset, .unset, .unset, .unset]) rfl k) ?_
                refine Ends.pre (fun t k => XS.iload X362.here hx rfl (hb hby at_151) rfl k) ?_
                refine Ends.pre (T' := T362.setTop (mkF m 156 #[.val (.int x0), .val (.int x1), .val (.int x2), .val (.int (2 : Int32)), .val (.int (1 : Int32)), .val (.int f5), .val (.int f6), .val (.int f7), .val (.int u0), .val (.int u1), .val (.int v0), .val (.int v1), .val (.ref b313), .val (.ref b362), .unset, .unset, .unset, .unset, .unset] [])) (fun t k => XS.ifNo X362.here hx rfl (hb hby at_153) rfl (by decide) k) ?_
                refine Ends.pre (fun t k => XS.aload X362.here hx rfl (hb hby at_156) rfl rfl k) ?_
                refine Ends.pre (fun t k => XS.iconst X362.here hx rfl (hb hby at_158) k) ?_
                refine Ends.pre (fun t k => XS.iload X362.here hx rfl (hb hby at_159) rfl k) ?_
                obtain ⟨cl363, Ar363, q363, S363, N363', H363, G363⟩ := id V362
                have hin363 : ¬ ((0 : Int32) < 0 ∨ cl363.slots.size ≤ ((0 : Int32)).toNatClampNeg) := inb_of S363 ⟨by decide, by decide⟩
                obtain ⟨T363, h363, X363, e363, W363, st363⟩ := stC X362 hx hZ e362 Ar363 (j := (0 : Int32)) hin363 (g := (mkF m 161 #[.val (.int x0), .val (.int x1), .val (.int x2), .val (.int (2 : Int32)), .val (.int (1 : Int32)), .val (.int f5), .val (.int f6), .val (.int f7), .val (.int u0), .val (.int u1), .val (.int v0), .val (.int v1), .val (.ref b313), .val (.ref b362), .unset, .unset, .unset, .unset, .unset] [(.int v0), (.int (0 : Int32)), (.ref b362)])) rfl rfl (hb hby at_161)
                have CR363 := CHr.trans CR362 (CHr.wr W363 (Safe.arv hZo.alike V362 (by decide)) CR362.1)
                have V363 : Arv Z h363 b362 k362 .char (1 : Int32) [(.int v0)] (.int (0 : Int32)) := (by have q := Arv.set Ar363 q363 S363 N363' H363 G363 (fits_nar_char _) W363 0 rfl (Nat.le_of_ble_eq_true rfl); rw [own_char cv0] at q; exact q)
                have N363 := Fr.snoc X363 N315 ge_b362
                refine Ends.pre (T' := T363.setTop (mkF m 162 #[.val (.int x0), .val (.int x1), .val (.int x2), .val (.int (2 : Int32)), .val (.int (1 : Int32)), .val (.int f5), .val (.int f6), .val (.int f7), .val (.int u0), .val (.int u1), .val (.int v0), .val (.int v1), .val (.ref b313), .val (.ref b362), .unset, .unset, .unset, .unset, .unset] [])) (fun t k => st363 _ k) ?_
                have K363 : Keep h0 h363 [] := K362.wr W363 (Or.inr sz_b362)
                refine Ends.pre (fun t k => XS.iload X363.here hx rfl (hb hby at_162) rfl k) ?_
                refine Ends.pre (fun t k => XS.iconst X363.here hx rfl (hb hby at_164) k) ?_
                refine Ends.pre (T' := T363.setTop (mkF m 174 #[.val (.int x0), .val (.int x1), .val (.int x2), .val (.int (2 : Int32)), .val (.int (1 : Int32)), .val (.int f5), .val (.int f6), .val (.int f7), .val (.int u0), .val (.int u1), .val (.int v0), .val (.int v1), .val (.ref b313), .val (.ref b362), .unset, .unset, .unset, .unset, .unset] [])) (fun t k => XS.icmpYes X363.here hx rfl (pc0 := 165) (pc' := 174) rfl (hb hby at_165) rfl (by decide) (by decide) (by decide) k) ?_
                rcases qf5 with rfl | rfl
                · refine Ends.pre (fun t k => XS.iload X363.here hx rfl (hb hby at_174) rfl k) ?_
                  refine Ends.pre (T' := T363.setTop (mkF m 183 #[.val (.int x0), .val (.int x1), .val (.int x2), .val (.int (2 : Int32)), .val (.int (1 : Int32)), .val (.int (0 : Int32)), .val (.int f6), .val (.int f7), .val (.int u0), .val (.int u1), .val (.int v0), .val (.int v1), .val (.ref b313), .val (.ref b362), .unset, .unset, .unset, .unset, .unset] [])) (fun t k => XS.ifYes X363.here hx rfl (pc0 := 176) (pc' := 183) rfl (hb hby at_176) rfl (by decide) (by decide) (by decide) k) ?_
                  obtain ⟨T364, h364, X364, e364, E364, A364, D364, -, st364⟩ := newO X363 hx hZ hown (hw _ (List.mem_of_getElem? (i := 1) rfl)) (hw _ (List.mem_of_getElem? (i := 2) rfl)) (hw _ (List.mem_of_getElem? (i := 3) rfl)) e363 (g := (mkF m 183 #[.val (.int x0), .val (.int x1), .val (.int x2), .val (.int (2 : Int32)), .val (.int (1 : Int32)), .val (.int (0 : Int32)), .val (.int f6), .val (.int f7), .val (.int u0), .val (.int u1), .val (.int v0), .val (.int v1), .val (.ref b313), .val (.ref b362), .unset, .unset, .unset, .unset, .unset] [])) rfl (hb hby at_183) (by decide) (by decide)
                  obtain ⟨b364, g364⟩ : ∃ z, z = h363.size := ⟨_, rfl⟩
                  rw [← g364] at A364 D364 st364
                  have ge_b364 : n0 ≤ b364 := Nat.le_trans (Nat.le_trans (Nat.le_trans (Nat.le_trans (Nat.le_trans (Nat.le_trans Z0 E313.1) (Keep.of_wr W314).1) (Keep.of_wr W315).1) E362.1) (Keep.of_wr W363).1) (Nat.le_of_eq g364.symm)
                  have sz_b364 : h0.size ≤ b364 := Nat.le_trans K363.1 (Nat.le_of_eq g364.symm)
                  have CR364 := CHr.trans CR363 (CHr.ext E364 CR363.1)
                  have K364 : Keep h0 h364 [] := K363.ext E364
                  have Fd364_coder : Fld Z h364 b364 "java/lang/String" "coder" "B" (.int (0 : Int32)) := D364 (Or.inr (hw _ (List.mem_of_getElem? (i := 27) rfl))) (ty := .byte) (by decide)
                  have Fd364_value : Fld Z h364 b364 "java/lang/String" "value" "[B" .null := D364 (Or.inr (hw _ (List.mem_of_getElem? (i := 29) rfl))) (ty := (.array .byte)) (by decide)
                  refine Ends.pre (T' := T364.setTop (mkF m 186 #[.val (.int x0), .val (.int x1), .val (.int x2), .val (.int (2 : Int32)), .val (.int (1 : Int32)), .val (.int (0 : Int32)), .val (.int f6), .val (.int f7), .val (.int u0), .val (.int u1), .val (.int v0), .val (.int v1), .val (.ref b313), .val (.ref b362), .unset, .unset, .unset, .unset, .unset] [(.ref b364)])) (fun t k => st364 _ k) ?_
                  refine Ends.pre (fun t k => XS.dup X364.here hx rfl (hb hby at_186) rfl rfl k) ?_
                  refine Ends.pre (fun t k => XS.aload X364.here hx rfl (hb hby at_187) rfl rfl k) ?_
                  have hp365 : ∀ c ∈ ([u0, u1] : List Int32), ¬ c < 0 ∧ ¬ (255 : Int32) < c := (own_alS cu0 (own_alS cu1 own_al0))
                  have hbd365 := own_up _ hp365
                  have F366 : Arv Z h364 b313 k313 .char (2 : Int32) [(.int u0), (.int u1)] (.int (0 : Int32)) := (Arv.ext ((Arv.ext V315 E362).other W363 (Nat.ne_of_lt (Nat.lt_of_lt_of_le (Nat.lt_of_lt_of_le (Nat.lt_of_lt_of_le V313.lt (Keep.of_wr W314).1) (Keep.of_wr W315).1) (Nat.le_of_eq g362.symm)))) E364)
                  have F367 : Sta Z h364 "java/lang/String" "COMPACT_STRINGS" "Z" (.int cz) := (Sta_keep0 SCS K364)
                  obtain ⟨_, _, ⟨T368, L368, k368, n368⟩, -, X368, ⟨Lc368, hQ368, l368, y368, z368⟩, st368⟩ := X364.specialBack hx (y := (⟨"java/lang/String", "<init>", "([C)V"⟩ : MethodName)) rfl hown (mvT hZ (hw _ (List.mem_of_getElem? (i := 4) rfl))) (mvT hZ (hw _ (List.mem_of_getElem? (i := 5) rfl))) (mvT hZ (hw _ (List.mem_of_getElem? (i := 6) rfl))) (by decide) (StrChars.Road.backV (W := 1) hZ (own_hws hw) (kI := 4) (hw _ (List.mem_of_getElem? (i := 2) rfl)) (cs := ([u0, u1] : List Int32)) (bs := (([u0, u1] : List Int32).map (fun c => c.toInt8.toInt32))) (n := 2) ge_b364 (Nat.le_trans (Nat.le_trans (Nat.le_trans (Nat.le_trans (Nat.le_trans (Nat.le_trans Z0 E313.1) (Keep.of_wr W314).1) (Keep.of_wr W315).1) E362.1) (Keep.of_wr W363).1) E364.1) A364 Fd364_value Fd364_coder F366 F367 hcz rfl rfl (by decide) (by decide) hp365 rfl (by decide) (by decide)) (g := (mkF m 189 #[.val (.int x0), .val (.int x1), .val (.int x2), .val (.int (2 : Int32)), .val (.int (1 : Int32)), .val (.int (0 : Int32)), .val (.int f6), .val (.int f7), .val (.int u0), .val (.int u1), .val (.int v0), .val (.int v1), .val (.ref b313), .val (.ref b362), .unset, .unset, .unset, .unset, .unset] [(.ref b313), (.ref b364), (.ref b364)])) rfl (by rw [hml]; rfl) (Steps.refl _) (a := b364) (argsL := [(.ref b313)]) (rest := [(.ref b364)]) (lenOf pd_4 rfl) rfl (by show 2 * 0 + _ ≤ _; exact Nat.le_of_eq rfl) (hb hby at_189) (fun _ _ => ⟨rfl, e364, (by decide : 3 + 1 ≤ _), (by decide : 7 + 2 ≤ _)⟩)
                  dsimp only [Pt.U, Pt.locs, Pt.cells, Pt.slots] at X368 l368 y368 z368 st368 hQ368
                  subst l368 y368 z368
                  obtain ⟨rfl, N368q, Kc368, Es368, Cs368, t368, kb368, gt368, ft368, nt368, Vs368, As368⟩ := hQ368
                  have N368 := Fr.app N363 N368q
                  have K368 : Keep h0 T368.heap [] := K364.trans Kc368 (allS (Or.inr sz_b364) all0)
                  have CR368 := CHr.trans CR364 (CHr.keep Kc368 (sfS (Safe.ext E364 CR363.1 (Safe.new (Nat.le_of_eq g364.symm))) sf0) CR364.1)
                  have hcd368 : StrChars.Road.CodA ([u0, u1] : List Int32) 0 (2 : Int32) ((([u0, u1] : List Int32).map (fun c => c.toInt8.toInt32)).map Value.int) := StrChars.Road.codOf (n := 2) rfl (fun c hc => (hp365 c hc).2)
                  refine Ends.pre (T' := T368.setTop (mkF m 192 #[.val (.int x0), .val (.int x1), .val (.int x2), .val (.int (2 : Int32)), .val (.int (1 : Int32)), .val (.int (0 : Int32)), .val (.int f6), .val (.int f7), .val (.int u0), .val (.int u1), .val (.int v0), .val (.int v1), .val (.ref b313), .val (.ref b362), .unset, .unset, .unset, .unset, .unset] [(.ref b364)])) (fun t k => st368.trans k) ?_
                  refine Ends.pre (fun t k => XS.astore (g := (mkF m 192 #[.val (.int x0), .val (.int x1), .val (.int x2), .val (.int (2 : Int32)), .val (.int (1 : Int32)), .val (.int (0 : Int32)), .val (.int f6), .val (.int f7), .val (.int u0), .val (.int u1), .val (.int v0), .val (.int v1), .val (.ref b313), .val (.ref b362), .unset, .unset, .unset, .unset, .unset] [(.ref b364)])) X368.here hx rfl (hb hby at_192) rfl rfl (l' := #[.val (.int x0), .val (.int x1), .val (.int x2), .val (.int (2 : Int32)), .val (.int (1 : Int32)), .val (.int (0 : Int32)), .val (.int f6), .val (.int f7), .val (.int u0), .val (.int u1), .val (.int v0), .val (.int v1), .val (.ref b313), .val (.ref b362), .val (.ref b364), .unset, .unset, .unset, .unset]) rfl k) ?_
                  obtain ⟨T369, h369, X369, e369, E369, A369, D369, -, st369⟩ := newO X368 hx hZ hown (hw _ (List.mem_of_getElem? (i := 1) rfl)) (hw _ (List.mem_of_getElem? (i := 2) rfl)) (hw _ (List.mem_of_getElem? (i := 3) rfl)) rfl (g := (mkF m 194 #[.val (.int x0), .val (.int x1), .val (.int x2), .val (.int (2 : Int32)), .val (.int (1 : Int32)), .val (.int (0 : Int32)), .val (.int f6), .val (.int f7), .val (.int u0), .val (.int u1), .val (.int v0), .val (.int v1), .val (.ref b313), .val (.ref b362), .val (.ref b364), .unset, .unset, .unset, .unset] [])) rfl (hb hby at_194) (by decide) (by decide)
                  obtain ⟨b369, g369⟩ : ∃ z, z = T368.heap.size := ⟨_, rfl⟩
                  rw [← g369] at A369 D369 st369
                  have ge_b369 : n0 ≤ b369 := Nat.le_trans (Nat.le_trans (Nat.le_trans (Nat.le_trans (Nat.le_trans (Nat.le_trans (Nat.le_trans (Nat.le_trans Z0 E313.1) (Keep.of_wr W314).1) (Keep.of_wr W315).1) E362.1) (Keep.of_wr W363).1) E364.1) Kc368.1) (Nat.le_of_eq g369.symm)
                  have sz_b369 : h0.size ≤ b369 := Nat.le_trans K368.1 (Nat.le_of_eq g369.symm)
                  have CR369 := CHr.trans CR368 (CHr.ext E369 CR368.1)
                  have K369 : Keep h0 h369 [] := K368.ext E369
                  have Fd369_coder : Fld Z h369 b369 "java/lang/String" "coder" "B" (.int (0 : Int32)) := D369 (Or.inr (hw _ (List.mem_of_getElem? (i := 27) rfl))) (ty := .byte) (by decide)
                  have Fd369_value : Fld Z h369 b369 "java/lang/String" "value" "[B" .null := D369 (Or.inr (hw _ (List.mem_of_getElem? (i := 29) rfl))) (ty := (.array .byte)) (by decide)
                  refine Ends.pre (T' := T369.setTop (mkF m 197 #[.val (.int x0), .val (.int x1), .val (.int x2), .val (.int (2 : Int32)), .val (.int (1 : Int32)), .val (.int (0 : Int32)), .val (.int f6), .val (.int f7), .val (.int u0), .val (.int u1), .val (.int v0), .val (.int v1), .val (.ref b313), .val (.ref b362), .val (.ref b364), .unset, .unset, .unset, .unset] [(.ref b369)])) (fun t k => st369 _ k) ?_
                  refine Ends.pre (fun t k => XS.dup X369.here hx rfl (hb hby at_197) rfl rfl k) ?_
                  refine Ends.pre (fun t k => XS.aload X369.here hx rfl (hb hby at_198) rfl rfl k) ?_
                  have hp370 : ∀ c ∈ ([v0] : List Int32), ¬ c < 0 ∧ ¬ (255 : Int32) < c := (own_alS cv0 own_al0)
                  have hbd370 := own_up _ hp370
                  have F371 : Arv Z h369 b362 k362 .char (1 : Int32) [(.int v0)] (.int (0 : Int32)) := (Arv.ext ((Arv.ext V363 E364).keep Kc368 (ninS (Nat.ne_of_lt (Nat.lt_of_lt_of_le (Nat.lt_of_lt_of_le V362.lt (Keep.of_wr W363).1) (Nat.le_of_eq g364.symm))) nin0)) E369)
                  have F372 : Sta Z h369 "java/lang/String" "COMPACT_STRINGS" "Z" (.int cz) := (Sta_keep0 SCS K369)
                  obtain ⟨_, _, ⟨T373, L373, k373, n373⟩, -, X373, ⟨Lc373, hQ373, l373, y373, z373⟩, st373⟩ := X369.specialBack hx (y := (⟨"java/lang/String", "<init>", "([C)V"⟩ : MethodName)) rfl hown (mvT hZ (hw _ (List.mem_of_getElem? (i := 4) rfl))) (mvT hZ (hw _ (List.mem_of_getElem? (i := 5) rfl))) (mvT hZ (hw _ (List.mem_of_getElem? (i := 6) rfl))) (by decide) (StrChars.Road.backV (W := 1) hZ (own_hws hw) (kI := 4) (hw _ (List.mem_of_getElem? (i := 2) rfl)) (cs := ([v0] : List Int32)) (bs := (([v0] : List Int32).map (fun c => c.toInt8.toInt32))) (n := 1) ge_b369 (Nat.le_trans (Nat.le_trans (Nat.le_trans (Nat.le_trans (Nat.le_trans (Nat.le_trans (Nat.le_trans (Nat.le_trans Z0 E313.1) (Keep.of_wr W314).1) (Keep.of_wr W315).1) E362.1) (Keep.of_wr W363).1) E364.1) Kc368.1) E369.1) A369 Fd369_value Fd369_coder F371 F372 hcz rfl rfl (by decide) (by decide) hp370 rfl (by decide) (by decide)) (g := (mkF m 200 #[.val (.int x0), .val (.int x1), .val (.int x2), .val (.int (2 : Int32)), .val (.int (1 : Int32)), .val (.int (0 : Int32)), .val (.int f6), .val (.int f7), .val (.int u0), .val (.int u1), .val (.int v0), .val (.int v1), .val (.ref b313), .val (.ref b362), .val (.ref b364), .unset, .unset, .unset, .unset] [(.ref b362), (.ref b369), (.ref b369)])) rfl (by rw [hml]; rfl) (Steps.refl _) (a := b369) (argsL := [(.ref b362)]) (rest := [(.ref b369)]) (lenOf pd_4 rfl) rfl (by show 2 * 0 + _ ≤ _; exact Nat.le_of_eq rfl) (hb hby at_200) (fun _ _ => ⟨rfl, e369, (by decide : 5 + 1 ≤ _), (by decide : 13 + 1 ≤ _)⟩)
                  dsimp only [Pt.U, Pt.locs, Pt.cells, Pt.slots] at X373 l373 y373 z373 st373 hQ373
                  subst l373 y373 z373
                  obtain ⟨rfl, N373q, Kc373, Es373, Cs373, t373, kb373, gt373, ft373, nt373, Vs373, As373⟩ := hQ373
                  have N373 := Fr.app N368 N373q
                  have K373 : Keep h0 T373.heap [] := K369.trans Kc373 (allS (Or.inr sz_b369) all0)
                  have CR373 := CHr.trans CR369 (CHr.keep Kc373 (sfS (Safe.ext E369 CR368.1 (Safe.new (Nat.le_of_eq g369.symm))) sf0) CR369.1)
                  have hcd373 : StrChars.Road.CodA ([v0] : List Int32) 0 (1 : Int32) ((([v0] : List Int32).map (fun c => c.toInt8.toInt32)).map Value.int) := StrChars.Road.codOf (n := 1) rfl (fun c hc => (hp370 c hc).2)
                  refine Ends.pre (T' := T373.setTop (mkF m 203 #[.val (.int x0), .val (.int x1), .val (.int x2), .val (.int (2 : Int32)), .val (.int (1 : Int32)), .val (.int (0 : Int32)), .val (.int f6), .val (.int f7), .val (.int u0), .val (.int u1), .val (.int v0), .val (.int v1), .val (.ref b313), .val (.ref b362), .val (.ref b364), .unset, .unset, .unset, .unset] [(.ref b369)])) (fun t k => st373.trans k) ?_
                  refine Ends.pre (fun t k => XS.astore (g := (mkF m 203 #[.val (.int x0), .val (.int x1), .val (.int x2), .val (.int (2 : Int32)), .val (.int (1 : Int32)), .val (.int (0 : Int32)), .val (.int f6), .val (.int f7), .val (.int u0), .val (.int u1), .val (.int v0), .val (.int v1), .val (.ref b313), .val (.ref b362), .val (.ref b364), .unset, .unset, .unset, .unset] [(.ref b369)])) X373.here hx rfl (hb hby at_203) rfl rfl (l' := #[.val (.int x0), .val (.int x1), .val (.int x2), .val (.int (2 : Int32)), .val (.int (1 : Int32)), .val (.int (0 : Int32)), .val (.int f6), .val (.int f7), .val (.int u0), .val (.int u1), .val (.int v0), .val (.int v1), .val (.ref b313), .val (.ref b362), .val (.ref b364), .val (.ref b369), .unset, .unset, .unset]) rfl k) ?_
                  have J219_374 : ∀ (TJ374 : State) (XJ374 : SS X373 TJ374) (eJ374 : TJ374.heap = T373.heap) (ac : Addr), Jvm.RoadKit.Ends p e below (EndW s room_1 Z consts_1 (Q_rm0 Z x0 x1 x2 wREAD wWRITE cz fm h0 n0)) (TJ374.setTop (mkF m 219 #[.val (.int x0), .val (.int x1), .val (.int x2), .val (.int (2 : Int32)), .val (.int (1 : Int32)), .val (.int (0 : Int32)), .val (.int f6), .val (.int f7), .val (.int u0), .val (.int u1), .val (.int v0), .val (.int v1), .val (.ref b313), .val (.ref b362), .val (.ref b364), .val (.ref b369), .unset, .unset, .unset] [(.ref ac)])) := by
                    intro TJ374 XJ374 eJ374 ac
                    unfold SS at XJ374
                    refine Ends.pre (fun t k => XS.astore (g := (mkF m 219 #[.val (.int x0), .val (.int x1), .val (.int x2), .val (.int (2 : Int32)), .val (.int (1 : Int32)), .val (.int (0 : Int32)), .val (.int f6), .val (.int f7), .val (.int u0), .val (.int u1), .val (.int v0), .val (.int v1), .val (.ref b313), .val (.ref b362), .val (.ref b364), .val (.ref b369), .unset, .unset, .unset] [(.ref ac)])) XJ374.here hx rfl (hb hby at_219) rfl rfl (l' := #[.val (.int x0), .val (.int x1), .val (.int x2), .val (.int (2 : Int32)), .val (.int (1 : Int32)), .val (.int (0 : Int32)), .val (.int f6), .val (.int f7), .val (.int u0), .val (.int u1), .val (.int v0), .val (.int v1), .val (.ref b313), .val (.ref b362), .val (.ref b364), .val (.ref b369), .val (.ref ac), .unset, .unset]) rfl k) ?_
                    obtain ⟨T375, h375, X375, e375, E375, A375, D375, -, st375⟩ := newO XJ374 hx hZ hown (hw _ (List.mem_of_getElem? (i := 36) rfl)) (hw _ (List.mem_of_getElem? (i := 37) rfl)) (hw _ (List.mem_of_getElem? (i := 38) rfl)) eJ374 (g := (mkF m 221 #[.val (.int x0), .val (.int x1), .val (.int x2), .val (.int (2 : Int32)), .val (.int (1 : Int32)), .val (.int (0 : Int32)), .val (.int f6), .val (.int f7), .val (.int u0), .val (.int u1), .val (.int v0), .val (.int v1), .val (.ref b313), .val (.ref b362), .val (.ref b364), .val (.ref b369), .val (.ref ac), .unset, .unset] [])) rfl (hb hby at_221) (by decide) (by decide)
                    obtain ⟨b375, g375⟩ : ∃ z, z = T373.heap.size := ⟨_, rfl⟩
                    rw [← g375] at A375 D375 st375
                    have ge_b375 : n0 ≤ b375 := Nat.le_trans (Nat.le_trans (Nat.le_trans (Nat.le_trans (Nat.le_trans (Nat.le_trans (Nat.le_trans (Nat.le_trans (Nat.le_trans (Nat.le_trans Z0 E313.1) (Keep.of_wr W314).1) (Keep.of_wr W315).1) E362.1) (Keep.of_wr W363).1) E364.1) Kc368.1) E369.1) Kc373.1) (Nat.le_of_eq g375.symm)
                    have sz_b375 : h0.size ≤ b375 := Nat.le_trans K373.1 (Nat.le_of_eq g375.symm)
                    have CR375 := CHr.trans CR373 (CHr.ext E375 CR373.1)
                    have K375 : Keep h0 h375 [] := K373.ext E375
                    have Fd375_holder : Fld Z h375 b375 "com/example/static_permission_checker/staticpermissionchecker/core/FlowConstraint" "holder" "Ljava/lang/String;" .null := D375 (Or.inr (hw _ (List.mem_of_getElem? (i := 55) rfl))) (ty := (.object "java/lang/String")) (by decide)
                    have Fd375_access : Fld Z h375 b375 "com/example/static_permission_checker/staticpermissionchecker/core/FlowConstraint" "access" "Lcom/example/static_permission_checker/staticpermissionchecker/core/FlowConstraint$Access;" .null := D375 (Or.inr (hw _ (List.mem_of_getElem? (i := 57) rfl))) (ty := (.object "com/example/static_permission_checker/staticpermissionchecker/core/FlowConstraint$Access")) (by decide)
                    have Fd375_guard : Fld Z h375 b375 "com/example/static_permission_checker/staticpermissionchecker/core/FlowConstraint" "guard" "Ljava/lang/String;" .null := D375 (Or.inr (hw _ (List.mem_of_getElem? (i := 59) rfl))) (ty := (.object "java/lang/String")) (by decide)
                    refine Ends.pre (T' := T375.setTop (mkF m 224 #[.val (.int x0), .val (.int x1), .val (.int x2), .val (.int (2 : Int32)), .val (.int (1 : Int32)), .val (.int (0 : Int32)), .val (.int f6), .val (.int f7), .val (.int u0), .val (.int u1), .val (.int v0), .val (.int v1), .val (.ref b313), .val (.ref b362), .val (.ref b364), .val (.ref b369), .val (.ref ac), .unset, .unset] [(.ref b375)])) (fun t k => st375 _ k) ?_
                    refine Ends.pre (fun t k => XS.dup X375.here hx rfl (hb hby at_224) rfl rfl k) ?_
                    refine Ends.pre (fun t k => XS.aload X375.here hx rfl (hb hby at_225) rfl rfl k) ?_
                    refine Ends.pre (fun t k => XS.aload X375.here hx rfl (hb hby at_227) rfl rfl k) ?_
                    refine Ends.pre (fun t k => XS.aload X375.here hx rfl (hb hby at_229) rfl rfl k) ?_
                    obtain ⟨_, _, ⟨T376, L376, k376, n376⟩, -, Xa376, hSa376, ga376, ⟨Lc376, hQ376, l376, y376, z376, CRc376⟩, st376⟩ := X375.specialBackS hx (y := (⟨"com/example/static_permission_checker/staticpermissionchecker/core/FlowConstraint", "<init>", "(Ljava/lang/String;Lcom/example/static_permission_checker/staticpermissionchecker/core/FlowConstraint$Access;Ljava/lang/String;)V"⟩ : MethodName)) rfl hown (mvT hZ (hw _ (List.mem_of_getElem? (i := 39) rfl))) (mvT hZ (hw _ (List.mem_of_getElem? (i := 40) rfl))) (mvT hZ (hw _ (List.mem_of_getElem? (i := 41) rfl))) (by decide) (backOfSH (W := 1) (rm7r l Z a0 hw [] b375 b364 ac b369 h375 n0 (Nat.le_trans (Nat.le_trans (Nat.le_trans (Nat.le_trans (Nat.le_trans (Nat.le_trans (Nat.le_trans (Nat.le_trans (Nat.le_trans (Nat.le_trans Z0 E313.1) (Keep.of_wr W314).1) (Keep.of_wr W315).1) E362.1) (Keep.of_wr W363).1) E364.1) Kc368.1) E369.1) Kc373.1) E375.1) A375 ge_b375 Fd375_holder Fd375_access Fd375_guard) hZ (hw _ (List.mem_of_getElem? (i := 41) rfl)) (hw _ (List.mem_of_getElem? (i := 38) rfl)) (by decide) (by decide) hEL CR375.1) (g := (mkF m 231 #[.val (.int x0), .val (.int x1), .val (.int x2), .val (.int (2 : Int32)), .val (.int (1 : Int32)), .val (.int (0 : Int32)), .val (.int f6), .val (.int f7), .val (.int u0), .val (.int u1), .val (.int v0), .val (.int v1), .val (.ref b313), .val (.ref b362), .val (.ref b364), .val (.ref b369), .val (.ref ac), .unset, .unset] [(.ref b369), (.ref ac), (.ref b364), (.ref b375), (.ref b375)])) rfl (by rw [hml]; rfl) (Steps.refl _) (a := b375) (argsL := [(.ref b364), (.ref ac), (.ref b369)]) (rest := [(.ref b375)]) (lenOf pd_5 rfl) rfl (by show 2 * 0 + _ ≤ _; exact Nat.le_of_eq rfl) (hb hby at_231) (fun _ _ => ⟨rfl, e375, (by decide : 7 + 4 ≤ _), (by decide : 17 + 52 ≤ _)⟩)
                    dsimp only [Pt.U, Pt.locs, Pt.cells, Pt.slots] at Xa376 hSa376 ga376 l376 y376 z376 st376 hQ376 CRc376
                    subst l376 y376 z376
                    obtain ⟨X376, hS376, hZ376, hown376⟩ := rebS hS0 (n1 := T375.heap.size) (by rw [e375]; exact (Nat.le_trans (Nat.le_trans (Nat.le_trans (Nat.le_trans (Nat.le_trans (Nat.le_trans (Nat.le_trans (Nat.le_trans (Nat.le_trans (Nat.le_trans hk0 E313.1) (Keep.of_wr W314).1) (Keep.of_wr W315).1) E362.1) (Keep.of_wr W363).1) E364.1) Kc368.1) E369.1) Kc373.1) E375.1)) Xa376 hSa376 ga376 hZ hown
                    obtain ⟨rfl, N376q, Kc376, Ec376, Fh376, Fg376⟩ := hQ376
                    have N376 := Fr.app N373 N376q
                    have K376 : Keep h0 T376.heap [] := K375.trans Kc376 (allS (Or.inr sz_b375) all0)
                    have CR376 := CHr.trans CR375 CRc376
                    refine Ends.pre (T' := T376.setTop (mkF m 234 #[.val (.int x0), .val (.int x1), .val (.int x2), .val (.int (2 : Int32)), .val (.int (1 : Int32)), .val (.int (0 : Int32)), .val (.int f6), .val (.int f7), .val (.int u0), .val (.int u1), .val (.int v0), .val (.int v1), .val (.ref b313), .val (.ref b362), .val (.ref b364), .val (.ref b369), .val (.ref ac), .unset, .unset] [(.ref b375)])) (fun t k => st376.trans k) ?_
                    refine Ends.pre (fun t k => XS.astore (g := (mkF m 234 #[.val (.int x0), .val (.int x1), .val (.int x2), .val (.int (2 : Int32)), .val (.int (1 : Int32)), .val (.int (0 : Int32)), .val (.int f6), .val (.int f7), .val (.int u0), .val (.int u1), .val (.int v0), .val (.int v1), .val (.ref b313), .val (.ref b362), .val (.ref b364), .val (.ref b369), .val (.ref ac), .unset, .unset] [(.ref b375)])) X376.here hx rfl (hb hby at_234) rfl rfl (l' := #[.val (.int x0), .val (.int x1), .val (.int x2), .val (.int (2 : Int32)), .val (.int (1 : Int32)), .val (.int (0 : Int32)), .val (.int f6), .val (.int f7), .val (.int u0), .val (.int u1), .val (.int v0), .val (.int v1), .val (.ref b313), .val (.ref b362), .val (.ref b364), .val (.ref b369), .val (.ref ac), .val (.ref b375), .unset]) rfl k) ?_
                    refine Ends.pre (fun t k => XS.iload X376.here hx rfl (hb hby at_236) rfl k) ?_
                    refine Ends.pre (T' := T376.setTop (mkF m 241 #[.val (.int x0), .val (.int x1), .val (.int x2), .val (.int (2 : Int32)), .val (.int (1 : Int32)), .val (.int (0 : Int32)), .val (.int f6), .val (.int f7), .val (.int u0), .val (.int u1), .val (.int v0), .val (.int v1), .val (.ref b313), .val (.ref b362), .val (.ref b364), .val (.ref b369), .val (.ref ac), .val (.ref b375), .unset] [])) (fun t k => XS.ifNo X376.here hx rfl (hb hby at_238) rfl (by decide) k) ?_
                    refine Ends.pre (fun t k => XS.iloadN X376.here hx rfl (hb hby at_241) rfl k) ?_
                    refine Ends.pre (fun t k => XS.iload X376.here hx rfl (hb hby at_242) rfl k) ?_
                    refine Ends.pre (T' := T376.setTop (mkF m 275 #[.val (.int x0), .val (.int x1), .val (.int x2), .val (.int (2 : Int32)), .val (.int (1 : Int32)), .val (.int (0 : Int32)), .val (.int f6), .val (.int f7), .val (.int u0), .val (.int u1), .val (.int v0), .val (.int v1), .val (.ref b313), .val (.ref b362), .val (.ref b364), .val (.ref b369), .val (.ref ac), .val (.ref b375), .unset] [])) (fun t k => XS.icmpYes X376.here hx rfl (pc0 := 244) (pc' := 275) rfl (hb hby at_244) rfl (by decide) (by decide) (by decide) k) ?_
                    refine Ends.pre (fun t k => XS.iconst X376.here hx rfl (hb hby at_275) k) ?_
                    refine Ends.pre (fun t k => XS.istore (g := (mkF m 276 #[.val (.int x0), .val (.int x1), .val (.int x2), .val (.int (2 : Int32)), .val (.int (1 : Int32)), .val (.int (0 : Int32)), .val (.int f6), .val (.int f7), .val (.int u0), .val (.int u1), .val (.int v0), .val (.int v1), .val (.ref b313), .val (.ref b362), .val (.ref b364), .val (.ref b369), .val (.ref ac), .val (.ref b375), .unset] [(.int (0 : Int32))])) X376.here hx rfl (hb hby at_276) rfl (l' := #[.val (.int x0), .val (.int x1), .val (.int x2), .val (.int (2 : Int32)), .val (.int (1 : Int32)), .val (.int (0 : Int32)), .val (.int f6), .val (.int f7), .val (.int u0), .val (.int u1), .val (.int v0), .val (.int v1), .val (.ref b313), .val (.ref b362), .val (.ref b364), .val (.ref b369), .val (.ref ac), .val (.ref b375), .val (.int (0 : Int32))]) rfl k) ?_
                    refine Ends.pre (fun t k => XS.aload X376.here hx rfl (hb hby at_278) rfl rfl k) ?_
                    have F377 : Exa Z T376.heap b369 "java/lang/String" := ((Es373.ext E375).keep Kc376)
                    have F378 : Fld Z T376.heap b369 "java/lang/String" "value" "[B" (.ref t373) := ((Vs373.ext E375).keep Kc376 (ninS (Nat.ne_of_lt (Nat.lt_of_lt_of_le (Nat.lt_of_lt_of_le A369.lt Kc373.1) (Nat.le_of_eq g375.symm))) nin0))
                    have F379 : Fld Z T376.heap b369 "java/lang/String" "coder" "B" (.int 0) := ((Cs373.ext E375).keep Kc376 (ninS (Nat.ne_of_lt (Nat.lt_of_lt_of_le (Nat.lt_of_lt_of_le A369.lt Kc373.1) (Nat.le_of_eq g375.symm))) nin0))
                    have F380 : Arv Z T376.heap t373 kb373 .byte (1 : Int32) ((([v0] : List Int32).map (fun c => c.toInt8.toInt32)).map Value.int) (.int 0) := ((Arv.ext As373 E375).keep Kc376 (ninS (Nat.ne_of_lt (Nat.lt_of_lt_of_le As373.lt (Nat.le_of_eq g375.symm))) nin0))
                    have F381 : Exa Z T376.heap b364 "java/lang/String" := ((((Es368.ext E369).keep Kc373).ext E375).keep Kc376)
                    have F382 : Fld Z T376.heap b364 "java/lang/String" "value" "[B" (.ref t368) := ((((Vs368.ext E369).keep Kc373 (ninS (Nat.ne_of_lt (Nat.lt_of_lt_of_le (Nat.lt_of_lt_of_le A364.lt Kc368.1) (Nat.le_of_eq g369.symm))) nin0)).ext E375).keep Kc376 (ninS (Nat.ne_of_lt (Nat.lt_of_lt_of_le (Nat.lt_of_lt_of_le (Nat.lt_of_lt_of_le (Nat.lt_of_lt_of_le A364.lt Kc368.1) E369.1) Kc373.1) (Nat.le_of_eq g375.symm))) nin0))
                    have F383 : Fld Z T376.heap b364 "java/lang/String" "coder" "B" (.int 0) := ((((Cs368.ext E369).keep Kc373 (ninS (Nat.ne_of_lt (Nat.lt_of_lt_of_le (Nat.lt_of_lt_of_le A364.lt Kc368.1) (Nat.le_of_eq g369.symm))) nin0)).ext E375).keep Kc376 (ninS (Nat.ne_of_lt (Nat.lt_of_lt_of_le (Nat.lt_of_lt_of_le (Nat.lt_of_lt_of_le (Nat.lt_of_lt_of_le A364.lt Kc368.1) E369.1) Kc373.1) (Nat.le_of_eq g375.symm))) nin0))
                    have F384 : Arv Z T376.heap t368 kb368 .byte (2 : Int32) ((([u0, u1] : List Int32).map (fun c => c.toInt8.toInt32)).map Value.int) (.int 0) := ((Arv.ext ((Arv.ext As368 E369).keep Kc373 (ninS (Nat.ne_of_lt (Nat.lt_of_lt_of_le As368.lt (Nat.le_of_eq g369.symm))) nin0)) E375).keep Kc376 (ninS (Nat.ne_of_lt (Nat.lt_of_lt_of_le (Nat.lt_of_lt_of_le (Nat.lt_of_lt_of_le As368.lt E369.1) Kc373.1) (Nat.le_of_eq g375.symm))) nin0))
                    have F385 : Sta Z T376.heap "java/lang/String" "COMPACT_STRINGS" "Z" (.int cz) := (Sta_keep0 SCS K376)
                    have F386 : Sta Z T376.heap "jdk/internal/util/Preconditions" "SIOOBE_FORMATTER" "Ljava/util/function/BiFunction;" fm := (Sta_keep0 SFM K376)
                    obtain ⟨cq387, kq387, q387a, q387b, q387c⟩ := isOf hZ376 rfl Ec376
                    obtain ⟨_, _, ⟨T387, L387, k387, n387⟩, -, X387, ⟨Lc387, hQ387, l387, y387, z387⟩, st387⟩ := X376.virtualBack hx (y := (⟨"com/example/static_permission_checker/staticpermissionchecker/core/FlowConstraint", "holds", "()Z"⟩ : MethodName)) (z := (⟨"com/example/static_permission_checker/staticpermissionchecker/core/FlowConstraint", "holds", "()Z"⟩ : MethodName)) hown376 (mvT hZ376 (hw _ (List.mem_of_getElem? (i := 60) rfl))) (mvT hZ376 (hw _ (List.mem_of_getElem? (i := 61) rfl))) (notFace_of_selects (args := #[]) (mvT hZ376 (hw _ (List.mem_of_getElem? (i := 63) rfl)))) (mvT hZ376 (hw _ (List.mem_of_getElem? (i := 63) rfl))) (mvT hZ376 (hw _ (List.mem_of_getElem? (i := 62) rfl))) (by decide) (backOf (W := 0) (rm10d l Z a0 hw [] b375 b369 t373 kb373 ([v0] : List Int32) (1 : Int32) _ b364 t368 kb368 ([u0, u1] : List Int32) (2 : Int32) _ cz fm T376.heap n0 (Nat.le_trans (Nat.le_trans (Nat.le_trans (Nat.le_trans (Nat.le_trans (Nat.le_trans (Nat.le_trans (Nat.le_trans (Nat.le_trans (Nat.le_trans (Nat.le_trans Z0 E313.1) (Keep.of_wr W314).1) (Keep.of_wr W315).1) E362.1) (Keep.of_wr W363).1) E364.1) Kc368.1) E369.1) Kc373.1) E375.1) Kc376.1) F377 F379 F378 F380 hcd373 hbd370 (Nat.le_of_ble_eq_true rfl) F381 F383 F382 F384 hcd368 hbd365 (Nat.le_of_ble_eq_true rfl) Fh376 Fg376 F385 hcz F386 hfm (by simp)) hZ376 (hw _ (List.mem_of_getElem? (i := 64) rfl)) (hw _ (List.mem_of_getElem? (i := 38) rfl)) (by decide) (by decide)) q387a q387c (g := (mkF m 280 #[.val (.int x0), .val (.int x1), .val (.int x2), .val (.int (2 : Int32)), .val (.int (1 : Int32)), .val (.int (0 : Int32)), .val (.int f6), .val (.int f7), .val (.int u0), .val (.int u1), .val (.int v0), .val (.int v1), .val (.ref b313), .val (.ref b362), .val (.ref b364), .val (.ref b369), .val (.ref ac), .val (.ref b375), .val (.int (0 : Int32))] [(.ref b375)])) rfl (by rw [hml]; rfl) (Steps.refl _) (argsL := []) (rest := []) (lenOf pd_6 rfl) rfl (by show 2 * 0 + _ ≤ _; exact Nat.le_of_eq rfl) (hb hby at_280) (fun _ _ => ⟨rfl, rfl, (by decide : 11 + 0 ≤ _), (by decide : 69 + 0 ≤ _)⟩)
                    dsimp only [Pt.U, Pt.locs, Pt.cells, Pt.slots] at X387 l387 y387 z387 st387 hQ387
                    subst l387 y387 z387
                    obtain ⟨rfl, N387q, eh387⟩ := hQ387
                    have N387 := Fr.app N376 N387q
                    refine Ends.pre (T' := T387.setTop (mkF m 283 #[.val (.int x0), .val (.int x1), .val (.int x2), .val (.int (2 : Int32)), .val (.int (1 : Int32)), .val (.int (0 : Int32)), .val (.int f6), .val (.int f7), .val (.int u0), .val (.int u1), .val (.int v0), .val (.int v1), .val (.ref b313), .val (.ref b362), .val (.ref b364), .val (.ref b369), .val (.ref ac), .val (.ref b375), .val (.int (0 : Int32))] [(.int (0 : Int32))])) (fun t k => st387.trans k) ?_
                    refine Ends.pre (fun t k => XS.iload X387.here hx rfl (hb hby at_283) rfl k) ?_
                    refine Ends.pre (T' := T387.setTop (mkF m 288 #[.val (.int x0), .val (.int x1), .val (.int x2), .val (.int (2 : Int32)), .val (.int (1 : Int32)), .val (.int (0 : Int32)), .val (.int f6), .val (.int f7), .val (.int u0), .val (.int u1), .val (.int v0), .val (.int v1), .val (.ref b313), .val (.ref b362), .val (.ref b364), .val (.ref b369), .val (.ref ac), .val (.ref b375), .val (.int (0 : Int32))] [])) (fun t k => XS.icmpNo X387.here hx rfl (hb hby at_285) rfl (by decide) k) ?_
                    refine Ends.pre (fun t k => XS.iconst X387.here hx rfl (hb hby at_288) k) ?_
                    refine Ends.pre (fun t k => XS.goto X387.here hx rfl (pc0 := 289) (pc' := 293) rfl (hb hby at_289) (by decide) (by decide) k) ?_
                    exact Ends.retW (w := (.int (1 : Int32))) X387 hx Bd.notSynchronized Bd.returns rfl (Or.inl ⟨rfl, Or.inr (Or.inl rfl), _, rfl⟩) (hb hby at_293) eh387 hZ376 hEL hS376 (Nat.le_refl _) hh CR376 ⟨rfl, N387⟩ (by decide) (by decide)
                  refine Ends.pre (fun t k => XS.iload X373.here hx rfl (hb hby at_205) rfl k) ?_
                  by_cases hc207_388 : f7 = 0
                  · refine Ends.pre (T' := T373.setTop (mkF m 216 #[.val (.int x0), .val (.int x1), .val (.int x2), .val (.int (2 : Int32)), .val (.int (1 : Int32)), .val (.int (0 : Int32)), .val (.int f6), .val (.int f7), .val (.int u0), .val (.int u1), .val (.int v0), .val (.int v1), .val (.ref b313), .val (.ref b362), .val (.ref b364), .val (.ref b369), .unset, .unset, .unset] [])) (fun t k => XS.ifYes X373.here hx rfl (pc0 := 207) (pc' := 216) rfl (hb hby at_207) rfl (Jvm.Free.XT.i0_eq_t hc207_388) (by decide) (by decide) k) ?_
                    have F389 : Sta Z T373.heap "com/example/static_permission_checker/staticpermissionchecker/core/FlowConstraint$Access" "READ" "Lcom/example/static_permission_checker/staticpermissionchecker/core/FlowConstraint$Access;" (.ref wREAD) := (Sta_keep0 S_READ K373)
                    obtain ⟨T390, X390, e390, st390⟩ := getS2 X373 hx hZ hown (host := "") (Or.inl (hw _ (List.mem_of_getElem? (i := 33) rfl))) Via.refl rfl F389 (g := (mkF m 216 #[.val (.int x0), .val (.int x1), .val (.int x2), .val (.int (2 : Int32)), .val (.int (1 : Int32)), .val (.int (0 : Int32)), .val (.int f6), .val (.int f7), .val (.int u0), .val (.int u1), .val (.int v0), .val (.int v1), .val (.ref b313), .val (.ref b362), .val (.ref b364), .val (.ref b369), .unset, .unset, .unset] [])) rfl (hb hby at_216)
                    refine Ends.pre (T' := T390.setTop (mkF m 219 #[.val (.int x0), .val (.int x1), .val (.int x2), .val (.int (2 : Int32)), .val (.int (1 : Int32)), .val (.int (0 : Int32)), .val (.int f6), .val (.int f7), .val (.int u0), .val (.int u1), .val (.int v0), .val (.int v1), .val (.ref b313), .val (.ref b362), .val (.ref b364), .val (.ref b369), .unset, .unset, .unset] [(.ref wREAD)])) (fun t k => st390 _ k) ?_
                    exact J219_374 T390 X390 e390 wREAD
                  · refine Ends.pre (T' := T373.setTop (mkF m 210 #[.val (.int x0), .val (.int x1), .val (.int x2), .val (.int (2 : Int32)), .val (.int (1 : Int32)), .val (.int (0 : Int32)), .val (.int f6), .val (.int f7), .val (.int u0), .val (.int u1), .val (.int v0), .val (.int v1), .val (.ref b313), .val (.ref b362), .val (.ref b364), .val (.ref b369), .unset, .unset, .unset] [])) (fun t k => XS.ifNo X373.here hx rfl (hb hby at_207) rfl (Jvm.Free.XT.i0_eq_f hc207_388) k) ?_
                    have F391 : Sta Z T373.heap "com/example/static_permission_checker/staticpermissionchecker/core/FlowConstraint$Access" "WRITE" "Lcom/example/static_permission_checker/staticpermissionchecker/core/FlowConstraint$Access;" (.ref wWRITE) := (Sta_keep0 S_WRITE K373)
                    obtain ⟨T392, X392, e392, st392⟩ := getS2 X373 hx hZ hown (host := "") (Or.inl (hw _ (List.mem_of_getElem? (i := 75) rfl))) Via.refl rfl F391 (g := (mkF m 210 #[.val (.int x0), .val (.int x1), .val (.int x2), .val (.int (2 : Int32)), .val (.int (1 : Int32)), .val (.int (0 : Int32)), .val (.int f6), .val (.int f7), .val (.int u0), .val (.int u1), .val (.int v0), .val (.int v1), .val (.ref b313), .val (.ref b362), .val (.ref b364), .val (.ref b369), .unset, .unset, .unset] [])) rfl (hb hby at_210)
                    refine Ends.pre (T' := T392.setTop (mkF m 213 #[.val (.int x0), .val (.int x1), .val (.int x2), .val (.int (2 : Int32)), .val (.int (1 : Int32)), .val (.int (0 : Int32)), .val (.int f6), .val (.int f7), .val (.int u0), .val (.int u1), .val (.int v0), .val (.int v1), .val (.ref b313), .val (.ref b362), .val (.ref b364), .val (.ref b369), .unset, .unset, .unset] [(.ref wWRITE)])) (fun t k => st392 _ k) ?_
                    refine Ends.pre (fun t k => XS.goto X392.here hx rfl (pc0 := 213) (pc' := 219) rfl (hb hby at_213) (by decide) (by decide) k) ?_
                    exact J219_374 T392 X392 e392 wWRITE
                · refine Ends.pre (fun t k => XS.iload X363.here hx rfl (hb hby at_174) rfl k) ?_
                  refine Ends.pre (T' := T363.setTop (mkF m 179 #[.val (.int x0), .val (.int x1), .val (.int x2), .val (.int (2 : Int32)), .val (.int (1 : Int32)), .val (.int (1 : Int32)), .val (.int f6), .val (.int f7), .val (.int u0), .val (.int u1), .val (.int v0), .val (.int v1), .val (.ref b313), .val (.ref b362), .unset, .unset, .unset, .unset, .unset] [])) (fun t k => XS.ifNo X363.here hx rfl (hb hby at_176) rfl (by decide) k) ?_
                  refine Ends.pre (fun t k => XS.aconstNull X363.here hx rfl (hb hby at_179) k) ?_
                  refine Ends.pre (fun t k => XS.goto X363.here hx rfl (pc0 := 180) (pc' := 192) rfl (hb hby at_180) (by decide) (by decide) k) ?_
                  refine Ends.pre (fun t k => XS.astore (g := (mkF m 192 #[.val (.int x0), .val (.int x1), .val (.int x2), .val (.int (2 : Int32)), .val (.int (1 : Int32)), .val (.int (1 : Int32)), .val (.int f6), .val (.int f7), .val (.int u0), .val (.int u1), .val (.int v0), .val (.int v1), .val (.ref b313), .val (.ref b362), .unset, .unset, .unset, .unset, .unset] [.null])) X363.here hx rfl (hb hby at_192) rfl rfl (l' := #[.val (.int x0), .val (.int x1), .val (.int x2), .val (.int (2 : Int32)), .val (.int (1 : Int32)), .val (.int (1 : Int32)), .val (.int f6), .val (.int f7), .val (.int u0), .val (.int u1), .val (.int v0), .val (.int v1), .val (.ref b313), .val (.ref b362), .val .null, .unset, .unset, .unset, .unset]) rfl k) ?_
                  obtain ⟨T393, h393, X393, e393, E393, A393, D393, -, st393⟩ := newO X363 hx hZ hown (hw _ (List.mem_of_getElem? (i := 1) rfl)) (hw _ (List.mem_of_getElem? (i := 2) rfl)) (hw _ (List.mem_of_getElem? (i := 3) rfl)) e363 (g := (mkF m 194 #[.val (.int x0), .val (.int x1), .val (.int x2), .val (.int (2 : Int32)), .val (.int (1 : Int32)), .val (.int (1 : Int32)), .val (.int f6), .val (.int f7), .val (.int u0), .val (.int u1), .val (.int v0), .val (.int v1), .val (.ref b313), .val (.ref b362), .val .null, .unset, .unset, .unset, .unset] [])) rfl (hb hby at_194) (by decide) (by decide)
                  obtain ⟨b393, g393⟩ : ∃ z, z = h363.size := ⟨_, rfl⟩
                  rw [← g393] at A393 D393 st393
                  have ge_b393 : n0 ≤ b393 := Nat.le_trans (Nat.le_trans (Nat.le_trans (Nat.le_trans (Nat.le_trans (Nat.le_trans Z0 E313.1) (Keep.of_wr W314).1) (Keep.of_wr W315).1) E362.1) (Keep.of_wr W363).1) (Nat.le_of_eq g393.symm)
                  have sz_b393 : h0.size ≤ b393 := Nat.le_trans K363.1 (Nat.le_of_eq g393.symm)
                  have CR393 := CHr.trans CR363 (CHr.ext E393 CR363.1)
                  have K393 : Keep h0 h393 [] := K363.ext E393
                  have Fd393_coder : Fld Z h393 b393 "java/lang/String" "coder" "B" (.int (0 : Int32)) := D393 (Or.inr (hw _ (List.mem_of_getElem? (i := 27) rfl))) (ty := .byte) (by decide)
                  have Fd393_value : Fld Z h393 b393 "java/lang/String" "value" "[B" .null := D393 (Or.inr (hw _ (List.mem_of_getElem? (i := 29) rfl))) (ty := (.array .byte)) (by decide)
                  refine Ends.pre (T' := T393.setTop (mkF m 197 #[.val (.int x0), .val (.int x1), .val (.int x2), .val (.int (2 : Int32)), .val (.int (1 : Int32)), .val (.int (1 : Int32)), .val (.int f6), .val (.int f7), .val (.int u0), .val (.int u1), .val (.int v0), .val (.int v1), .val (.ref b313), .val (.ref b362), .val .null, .unset, .unset, .unset, .unset] [(.ref b393)])) (fun t k => st393 _ k) ?_
                  refine Ends.pre (fun t k => XS.dup X393.here hx rfl (hb hby at_197) rfl rfl k) ?_
                  refine Ends.pre (fun t k => XS.aload X393.here hx rfl (hb hby at_198) rfl rfl k) ?_
                  have hp394 : ∀ c ∈ ([v0] : List Int32), ¬ c < 0 ∧ ¬ (255 : Int32) < c := (own_alS cv0 own_al0)
                  have hbd394 := own_up _ hp394
                  have F395 : Arv Z h393 b362 k362 .char (1 : Int32) [(.int v0)] (.int (0 : Int32)) := (Arv.ext V363 E393)
                  have F396 : Sta Z h393 "java/lang/String" "COMPACT_STRINGS" "Z" (.int cz) := (Sta_keep0 SCS K393)
                  obtain ⟨_, _, ⟨T397, L397, k397, n397⟩, -, X397, ⟨Lc397, hQ397, l397, y397, z397⟩, st397⟩ := X393.specialBack hx (y := (⟨"java/lang/String", "<init>", "([C)V"⟩ : MethodName)) rfl hown (mvT hZ (hw _ (List.mem_of_getElem? (i := 4) rfl))) (mvT hZ (hw _ (List.mem_of_getElem? (i := 5) rfl))) (mvT hZ (hw _ (List.mem_of_getElem? (i := 6) rfl))) (by decide) (StrChars.Road.backV (W := 1) hZ (own_hws hw) (kI := 4) (hw _ (List.mem_of_getElem? (i := 2) rfl)) (cs := ([v0] : List Int32)) (bs := (([v0] : List Int32).map (fun c => c.toInt8.toInt32))) (n := 1) ge_b393 (Nat.le_trans (Nat.le_trans (Nat.le_trans (Nat.le_trans (Nat.le_trans (Nat.le_trans Z0 E313.1) (Keep.of_wr W314).1) (Keep.of_wr W315).1) E362.1) (Keep.of_wr W363).1) E393.1) A393 Fd393_value Fd393_coder F395 F396 hcz rfl rfl (by decide) (by decide) hp394 rfl (by decide) (by decide)) (g := (mkF m 200 #[.val (.int x0), .val (.int x1), .val (.int x2), .val (.int (2 : Int32)), .val (.int (1 : Int32)), .val (.int (1 : Int32)), .val (.int f6), .val (.int f7), .val (.int u0), .val (.int u1), .val (.int v0), .val (.int v1), .val (.ref b313), .val (.ref b362), .val .null, .unset, .unset, .unset, .unset] [(.ref b362), (.ref b393), (.ref b393)])) rfl (by rw [hml]; rfl) (Steps.refl _) (a := b393) (argsL := [(.ref b362)]) (rest := [(.ref b393)]) (lenOf pd_4 rfl) rfl (by show 2 * 0 + _ ≤ _; exact Nat.le_of_eq rfl) (hb hby at_200) (fun _ _ => ⟨rfl, e393, (by decide : 3 + 1 ≤ _), (by decide : 7 + 1 ≤ _)⟩)
                  dsimp only [Pt.U, Pt.locs, Pt.cells, Pt.slots] at X397 l397 y397 z397 st397 hQ397
                  subst l397 y397 z397
                  obtain ⟨rfl, N397q, Kc397, Es397, Cs397, t397, kb397, gt397, ft397, nt397, Vs397, As397⟩ := hQ397
                  have N397 := Fr.app N363 N397q
                  have K397 : Keep h0 T397.heap [] := K393.trans Kc397 (allS (Or.inr sz_b393) all0)
                  have CR397 := CHr.trans CR393 (CHr.keep Kc397 (sfS (Safe.ext E393 CR363.1 (Safe.new (Nat.le_of_eq g393.symm))) sf0) CR393.1)
                  have hcd397 : StrChars.Road.CodA ([v0] : List Int32) 0 (1 : Int32) ((([v0] : List Int32).map (fun c => c.toInt8.toInt32)).map Value.int) := StrChars.Road.codOf (n := 1) rfl (fun c hc => (hp394 c hc).2)
                  refine Ends.pre (T' := T397.setTop (mkF m 203 #[.val (.int x0), .val (.int x1), .val (.int x2), .val (.int (2 : Int32)), .val (.int (1 : Int32)), .val (.int (1 : Int32)), .val (.int f6), .val (.int f7), .val (.int u0), .val (.int u1), .val (.int v0), .val (.int v1), .val (.ref b313), .val (.ref b362), .val .null, .unset, .unset, .unset, .unset] [(.ref b393)])) (fun t k => st397.trans k) ?_
                  refine Ends.pre (fun t k => XS.astore (g := (mkF m 203 #[.val (.int x0), .val (.int x1), .val (.int x2), .val (.int (2 : Int32)), .val (.int (1 : Int32)), .val (.int (1 : Int32)), .val (.int f6), .val (.int f7), .val (.int u0), .val (.int u1), .val (.int v0), .val (.int v1), .val (.ref b313), .val (.ref b362), .val .null, .unset, .unset, .unset, .unset] [(.ref b393)])) X397.here hx rfl (hb hby at_203) rfl rfl (l' := #[.val (.int x0), .val (.int x1), .val (.int x2), .val (.int (2 : Int32)), .val (.int (1 : Int32)), .val (.int (1 : Int32)), .val (.int f6), .val (.int f7), .val (.int u0), .val (.int u1), .val (.int v0), .val (.int v1), .val (.ref b313), .val (.ref b362), .val .null, .val (.ref b393), .unset, .unset, .unset]) rfl k) ?_
                  have J219_398 : ∀ (TJ398 : State) (XJ398 : SS X397 TJ398) (eJ398 : TJ398.heap = T397.heap) (ac : Addr), Jvm.RoadKit.Ends p e below (EndW s room_1 Z consts_1 (Q_rm0 Z x0 x1 x2 wREAD wWRITE cz fm h0 n0)) (TJ398.setTop (mkF m 219 #[.val (.int x0), .val (.int x1), .val (.int x2), .val (.int (2 : Int32)), .val (.int (1 : Int32)), .val (.int (1 : Int32)), .val (.int f6), .val (.int f7), .val (.int u0), .val (.int u1), .val (.int v0), .val (.int v1), .val (.ref b313), .val (.ref b362), .val .null, .val (.ref b393), .unset, .unset, .unset] [(.ref ac)])) := by
                    intro TJ398 XJ398 eJ398 ac
                    unfold SS at XJ398
                    refine Ends.pre (fun t k => XS.astore (g := (mkF m 219 #[.val (.int x0), .val (.int x1), .val (.int x2), .val (.int (2 : Int32)), .val (.int (1 : Int32)), .val (.int (1 : Int32)), .val (.int f6), .val (.int f7), .val (.int u0), .val (.int u1), .val (.int v0), .val (.int v1), .val (.ref b313), .val (.ref b362), .val .null, .val (.ref b393), .unset, .unset, .unset] [(.ref ac)])) XJ398.here hx rfl (hb hby at_219) rfl rfl (l' := #[.val (.int x0), .val (.int x1), .val (.int x2), .val (.int (2 : Int32)), .val (.int (1 : Int32)), .val (.int (1 : Int32)), .val (.int f6), .val (.int f7), .val (.int u0), .val (.int u1), .val (.int v0), .val (.int v1), .val (.ref b313), .val (.ref b362), .val .null, .val (.ref b393), .val (.ref ac), .unset, .unset]) rfl k) ?_
                    obtain ⟨T399, h399, X399, e399, E399, A399, D399, -, st399⟩ := newO XJ398 hx hZ hown (hw _ (List.mem_of_getElem? (i := 36) rfl)) (hw _ (List.mem_of_getElem? (i := 37) rfl)) (hw _ (List.mem_of_getElem? (i := 38) rfl)) eJ398 (g := (mkF m 221 #[.val (.int x0), .val (.int x1), .val (.int x2), .val (.int (2 : Int32)), .val (.int (1 : Int32)), .val (.int (1 : Int32)), .val (.int f6), .val (.int f7), .val (.int u0), .val (.int u1), .val (.int v0), .val (.int v1), .val (.ref b313), .val (.ref b362), .val .null, .val (.ref b393), .val (.ref ac), .unset, .unset] [])) rfl (hb hby at_221) (by decide) (by decide)
                    obtain ⟨b399, g399⟩ : ∃ z, z = T397.heap.size := ⟨_, rfl⟩
                    rw [← g399] at A399 D399 st399
                    have ge_b399 : n0 ≤ b399 := Nat.le_trans (Nat.le_trans (Nat.le_trans (Nat.le_trans (Nat.le_trans (Nat.le_trans (Nat.le_trans (Nat.le_trans Z0 E313.1) (Keep.of_wr W314).1) (Keep.of_wr W315).1) E362.1) (Keep.of_wr W363).1) E393.1) Kc397.1) (Nat.le_of_eq g399.symm)
                    have sz_b399 : h0.size ≤ b399 := Nat.le_trans K397.1 (Nat.le_of_eq g399.symm)
                    have CR399 := CHr.trans CR397 (CHr.ext E399 CR397.1)
                    have K399 : Keep h0 h399 [] := K397.ext E399
                    have Fd399_holder : Fld Z h399 b399 "com/example/static_permission_checker/staticpermissionchecker/core/FlowConstraint" "holder" "Ljava/lang/String;" .null := D399 (Or.inr (hw _ (List.mem_of_getElem? (i := 55) rfl))) (ty := (.object "java/lang/String")) (by decide)
                    have Fd399_access : Fld Z h399 b399 "com/example/static_permission_checker/staticpermissionchecker/core/FlowConstraint" "access" "Lcom/example/static_permission_checker/staticpermissionchecker/core/FlowConstraint$Access;" .null := D399 (Or.inr (hw _ (List.mem_of_getElem? (i := 57) rfl))) (ty := (.object "com/example/static_permission_checker/staticpermissionchecker/core/FlowConstraint$Access")) (by decide)
                    have Fd399_guard : Fld Z h399 b399 "com/example/static_permission_checker/staticpermissionchecker/core/FlowConstraint" "guard" "Ljava/lang/String;" .null := D399 (Or.inr (hw _ (List.mem_of_getElem? (i := 59) rfl))) (ty := (.object "java/lang/String")) (by decide)
                    refine Ends.pre (T' := T399.setTop (mkF m 224 #[.val (.int x0), .val (.int x1), .val (.int x2), .val (.int (2 : Int32)), .val (.int (1 : Int32)), .val (.int (1 : Int32)), .val (.int f6), .val (.int f7), .val (.int u0), .val (.int u1), .val (.int v0), .val (.int v1), .val (.ref b313), .val (.ref b362), .val .null, .val (.ref b393), .val (.ref ac), .unset, .unset] [(.ref b399)])) (fun t k => st399 _ k) ?_
                    refine Ends.pre (fun t k => XS.dup X399.here hx rfl (hb hby at_224) rfl rfl k) ?_
                    refine Ends.pre (fun t k => XS.aload X399.here hx rfl (hb hby at_225) rfl rfl k) ?_
                    refine Ends.pre (fun t k => XS.aload X399.here hx rfl (hb hby at_227) rfl rfl k) ?_
                    refine Ends.pre (fun t k => XS.aload X399.here hx rfl (hb hby at_229) rfl rfl k) ?_
                    obtain ⟨_, _, ⟨T400, L400, k400, n400⟩, -, Xa400, hSa400, ga400, ⟨Lc400, hQ400, l400, y400, z400, CRc400⟩, st400⟩ := X399.specialBackS hx (y := (⟨"com/example/static_permission_checker/staticpermissionchecker/core/FlowConstraint", "<init>", "(Ljava/lang/String;Lcom/example/static_permission_checker/staticpermissionchecker/core/FlowConstraint$Access;Ljava/lang/String;)V"⟩ : MethodName)) rfl hown (mvT hZ (hw _ (List.mem_of_getElem? (i := 39) rfl))) (mvT hZ (hw _ (List.mem_of_getElem? (i := 40) rfl))) (mvT hZ (hw _ (List.mem_of_getElem? (i := 41) rfl))) (by decide) (backOfSH (W := 1) (rm7n l Z a0 hw [] b399 ac b393 h399 n0 (Nat.le_trans (Nat.le_trans (Nat.le_trans (Nat.le_trans (Nat.le_trans (Nat.le_trans (Nat.le_trans (Nat.le_trans Z0 E313.1) (Keep.of_wr W314).1) (Keep.of_wr W315).1) E362.1) (Keep.of_wr W363).1) E393.1) Kc397.1) E399.1) A399 ge_b399 Fd399_holder Fd399_access Fd399_guard) hZ (hw _ (List.mem_of_getElem? (i := 41) rfl)) (hw _ (List.mem_of_getElem? (i := 38) rfl)) (by decide) (by decide) hEL CR399.1) (g := (mkF m 231 #[.val (.int x0), .val (.int x1), .val (.int x2), .val (.int (2 : Int32)), .val (.int (1 : Int32)), .val (.int (1 : Int32)), .val (.int f6), .val (.int f7), .val (.int u0), .val (.int u1), .val (.int v0), .val (.int v1), .val (.ref b313), .val (.ref b362), .val .null, .val (.ref b393), .val (.ref ac), .unset, .unset] [(.ref b393), (.ref ac), .null, (.ref b399), (.ref b399)])) rfl (by rw [hml]; rfl) (Steps.refl _) (a := b399) (argsL := [.null, (.ref ac), (.ref b393)]) (rest := [(.ref b399)]) (lenOf pd_5 rfl) rfl (by show 2 * 0 + _ ≤ _; exact Nat.le_of_eq rfl) (hb hby at_231) (fun _ _ => ⟨rfl, e399, (by decide : 5 + 4 ≤ _), (by decide : 11 + 52 ≤ _)⟩)
                    dsimp only [Pt.U, Pt.locs, Pt.cells, Pt.slots] at Xa400 hSa400 ga400 l400 y400 z400 st400 hQ400 CRc400
                    subst l400 y400 z400
                    obtain ⟨X400, hS400, hZ400, hown400⟩ := rebS hS0 (n1 := T399.heap.size) (by rw [e399]; exact (Nat.le_trans (Nat.le_trans (Nat.le_trans (Nat.le_trans (Nat.le_trans (Nat.le_trans (Nat.le_trans (Nat.le_trans hk0 E313.1) (Keep.of_wr W314).1) (Keep.of_wr W315).1) E362.1) (Keep.of_wr W363).1) E393.1) Kc397.1) E399.1)) Xa400 hSa400 ga400 hZ hown
                    obtain ⟨rfl, N400q, Kc400, Ec400, Fh400, Fg400⟩ := hQ400
                    have N400 := Fr.app N397 N400q
                    have K400 : Keep h0 T400.heap [] := K399.trans Kc400 (allS (Or.inr sz_b399) all0)
                    have CR400 := CHr.trans CR399 CRc400
                    refine Ends.pre (T' := T400.setTop (mkF m 234 #[.val (.int x0), .val (.int x1), .val (.int x2), .val (.int (2 : Int32)), .val (.int (1 : Int32)), .val (.int (1 : Int32)), .val (.int f6), .val (.int f7), .val (.int u0), .val (.int u1), .val (.int v0), .val (.int v1), .val (.ref b313), .val (.ref b362), .val .null, .val (.ref b393), .val (.ref ac), .unset, .unset] [(.ref b399)])) (fun t k => st400.trans k) ?_
                    refine Ends.pre (fun t k => XS.astore (g := (mkF m 234 #[.val (.int x0), .val (.int x1), .val (.int x2), .val (.int (2 : Int32)), .val (.int (1 : Int32)), .val (.int (1 : Int32)), .val (.int f6), .val (.int f7), .val (.int u0), .val (.int u1), .val (.int v0), .val (.int v1), .val (.ref b313), .val (.ref b362), .val .null, .val (.ref b393), .val (.ref ac), .unset, .unset] [(.ref b399)])) X400.here hx rfl (hb hby at_234) rfl rfl (l' := #[.val (.int x0), .val (.int x1), .val (.int x2), .val (.int (2 : Int32)), .val (.int (1 : Int32)), .val (.int (1 : Int32)), .val (.int f6), .val (.int f7), .val (.int u0), .val (.int u1), .val (.int v0), .val (.int v1), .val (.ref b313), .val (.ref b362), .val .null, .val (.ref b393), .val (.ref ac), .val (.ref b399), .unset]) rfl k) ?_
                    refine Ends.pre (fun t k => XS.iload X400.here hx rfl (hb hby at_236) rfl k) ?_
                    refine Ends.pre (T' := T400.setTop (mkF m 275 #[.val (.int x0), .val (.int x1), .val (.int x2), .val (.int (2 : Int32)), .val (.int (1 : Int32)), .val (.int (1 : Int32)), .val (.int f6), .val (.int f7), .val (.int u0), .val (.int u1), .val (.int v0), .val (.int v1), .val (.ref b313), .val (.ref b362), .val .null, .val (.ref b393), .val (.ref ac), .val (.ref b399), .unset] [])) (fun t k => XS.ifYes X400.here hx rfl (pc0 := 238) (pc' := 275) rfl (hb hby at_238) rfl (by decide) (by decide) (by decide) k) ?_
                    refine Ends.pre (fun t k => XS.iconst X400.here hx rfl (hb hby at_275) k) ?_
                    refine Ends.pre (fun t k => XS.istore (g := (mkF m 276 #[.val (.int x0), .val (.int x1), .val (.int x2), .val (.int (2 : Int32)), .val (.int (1 : Int32)), .val (.int (1 : Int32)), .val (.int f6), .val (.int f7), .val (.int u0), .val (.int u1), .val (.int v0), .val (.int v1), .val (.ref b313), .val (.ref b362), .val .null, .val (.ref b393), .val (.ref ac), .val (.ref b399), .unset] [(.int (0 : Int32))])) X400.here hx rfl (hb hby at_276) rfl (l' := #[.val (.int x0), .val (.int x1), .val (.int x2), .val (.int (2 : Int32)), .val (.int (1 : Int32)), .val (.int (1 : Int32)), .val (.int f6), .val (.int f7), .val (.int u0), .val (.int u1), .val (.int v0), .val (.int v1), .val (.ref b313), .val (.ref b362), .val .null, .val (.ref b393), .val (.ref ac), .val (.ref b399), .val (.int (0 : Int32))]) rfl k) ?_
                    refine Ends.pre (fun t k => XS.aload X400.here hx rfl (hb hby at_278) rfl rfl k) ?_
                    have F401 : Exa Z T400.heap b393 "java/lang/String" := ((Es397.ext E399).keep Kc400)
                    have F402 : Fld Z T400.heap b393 "java/lang/String" "value" "[B" (.ref t397) := ((Vs397.ext E399).keep Kc400 (ninS (Nat.ne_of_lt (Nat.lt_of_lt_of_le (Nat.lt_of_lt_of_le A393.lt Kc397.1) (Nat.le_of_eq g399.symm))) nin0))
                    have F403 : Fld Z T400.heap b393 "java/lang/String" "coder" "B" (.int 0) := ((Cs397.ext E399).keep Kc400 (ninS (Nat.ne_of_lt (Nat.lt_of_lt_of_le (Nat.lt_of_lt_of_le A393.lt Kc397.1) (Nat.le_of_eq g399.symm))) nin0))
                    have F404 : Arv Z T400.heap t397 kb397 .byte (1 : Int32) ((([v0] : List Int32).map (fun c => c.toInt8.toInt32)).map Value.int) (.int 0) := ((Arv.ext As397 E399).keep Kc400 (ninS (Nat.ne_of_lt (Nat.lt_of_lt_of_le As397.lt (Nat.le_of_eq g399.symm))) nin0))
                    have F405 : Sta Z T400.heap "java/lang/String" "COMPACT_STRINGS" "Z" (.int cz) := (Sta_keep0 SCS K400)
                    have F406 : Sta Z T400.heap "jdk/internal/util/Preconditions" "SIOOBE_FORMATTER" "Ljava/util/function/BiFunction;" fm := (Sta_keep0 SFM K400)
                    obtain ⟨cq407, kq407, q407a, q407b, q407c⟩ := isOf hZ400 rfl Ec400
                    obtain ⟨_, _, ⟨T407, L407, k407, n407⟩, -, X407, ⟨Lc407, hQ407, l407, y407, z407⟩, st407⟩ := X400.virtualBack hx (y := (⟨"com/example/static_permission_checker/staticpermissionchecker/core/FlowConstraint", "holds", "()Z"⟩ : MethodName)) (z := (⟨"com/example/static_permission_checker/staticpermissionchecker/core/FlowConstraint", "holds", "()Z"⟩ : MethodName)) hown400 (mvT hZ400 (hw _ (List.mem_of_getElem? (i := 60) rfl))) (mvT hZ400 (hw _ (List.mem_of_getElem? (i := 61) rfl))) (notFace_of_selects (args := #[]) (mvT hZ400 (hw _ (List.mem_of_getElem? (i := 63) rfl)))) (mvT hZ400 (hw _ (List.mem_of_getElem? (i := 63) rfl))) (mvT hZ400 (hw _ (List.mem_of_getElem? (i := 62) rfl))) (by decide) (backOf (W := 0) (rm10n l Z a0 hw [] b399 b393 t397 kb397 ([v0] : List Int32) (1 : Int32) _  cz fm T400.heap n0 (Nat.le_trans (Nat.le_trans (Nat.le_trans (Nat.le_trans (Nat.le_trans (Nat.le_trans (Nat.le_trans (Nat.le_trans (Nat.le_trans Z0 E313.1) (Keep.of_wr W314).1) (Keep.of_wr W315).1) E362.1) (Keep.of_wr W363).1) E393.1) Kc397.1) E399.1) Kc400.1) F401 F403 F402 F404 hcd397 hbd394 (Nat.le_of_ble_eq_true rfl)  Fh400 Fg400 F405 hcz F406 hfm ) hZ400 (hw _ (List.mem_of_getElem? (i := 64) rfl)) (hw _ (List.mem_of_getElem? (i := 38) rfl)) (by decide) (by decide)) q407a q407c (g := (mkF m 280 #[.val (.int x0), .val (.int x1), .val (.int x2), .val (.int (2 : Int32)), .val (.int (1 : Int32)), .val (.int (1 : Int32)), .val (.int f6), .val (.int f7), .val (.int u0), .val (.int u1), .val (.int v0), .val (.int v1), .val (.ref b313), .val (.ref b362), .val .null, .val (.ref b393), .val (.ref ac), .val (.ref b399), .val (.int (0 : Int32))] [(.ref b399)])) rfl (by rw [hml]; rfl) (Steps.refl _) (argsL := []) (rest := []) (lenOf pd_6 rfl) rfl (by show 2 * 0 + _ ≤ _; exact Nat.le_of_eq rfl) (hb hby at_280) (fun _ _ => ⟨rfl, rfl, (by decide : 9 + 0 ≤ _), (by decide : 63 + 0 ≤ _)⟩)
                    dsimp only [Pt.U, Pt.locs, Pt.cells, Pt.slots] at X407 l407 y407 z407 st407 hQ407
                    subst l407 y407 z407
                    obtain ⟨rfl, N407q, eh407⟩ := hQ407
                    have N407 := Fr.app N400 N407q
                    refine Ends.pre (T' := T407.setTop (mkF m 283 #[.val (.int x0), .val (.int x1), .val (.int x2), .val (.int (2 : Int32)), .val (.int (1 : Int32)), .val (.int (1 : Int32)), .val (.int f6), .val (.int f7), .val (.int u0), .val (.int u1), .val (.int v0), .val (.int v1), .val (.ref b313), .val (.ref b362), .val .null, .val (.ref b393), .val (.ref ac), .val (.ref b399), .val (.int (0 : Int32))] [(.int (0 : Int32))])) (fun t k => st407.trans k) ?_
                    refine Ends.pre (fun t k => XS.iload X407.here hx rfl (hb hby at_283) rfl k) ?_
                    refine Ends.pre (T' := T407.setTop (mkF m 288 #[.val (.int x0), .val (.int x1), .val (.int x2), .val (.int (2 : Int32)), .val (.int (1 : Int32)), .val (.int (1 : Int32)), .val (.int f6), .val (.int f7), .val (.int u0), .val (.int u1), .val (.int v0), .val (.int v1), .val (.ref b313), .val (.ref b362), .val .null, .val (.ref b393), .val (.ref ac), .val (.ref b399), .val (.int (0 : Int32))] [])) (fun t k => XS.icmpNo X407.here hx rfl (hb hby at_285) rfl (by decide) k) ?_
                    refine Ends.pre (fun t k => XS.iconst X407.here hx rfl (hb hby at_288) k) ?_
                    refine Ends.pre (fun t k => XS.goto X407.here hx rfl (pc0 := 289) (pc' := 293) rfl (hb hby at_289) (by decide) (by decide) k) ?_
                    exact Ends.retW (w := (.int (1 : Int32))) X407 hx Bd.notSynchronized Bd.returns rfl (Or.inl ⟨rfl, Or.inr (Or.inl rfl), _, rfl⟩) (hb hby at_293) eh407 hZ400 hEL hS400 (Nat.le_refl _) hh CR400 ⟨rfl, N407⟩ (by decide) (by decide)
                  refine Ends.pre (fun t k => XS.iload X397.here hx rfl (hb hby at_205) rfl k) ?_
                  by_cases hc207_408 : f7 = 0
                  · refine Ends.pre (T' := T397.setTop (mkF m 216 #[.val (.int x0), .val (.int x1), .val (.int x2), .val (.int (2 : Int32)), .val (.int (1 : Int32)), .val (.int (1 : Int32)), .val (.int f6), .val (.int f7), .val (.int u0), .val (.int u1), .val (.int v0), .val (.int v1), .val (.ref b313), .val (.ref b362), .val .null, .val (.ref b393), .unset, .unset, .unset] [])) (fun t k => XS.ifYes X397.here hx rfl (pc0 := 207) (pc' := 216) rfl (hb hby at_207) rfl (Jvm.Free.XT.i0_eq_t hc207_408) (by decide) (by decide) k) ?_
                    have F409 : Sta Z T397.heap "com/example/static_permission_checker/staticpermissionchecker/core/FlowConstraint$Access" "READ" "Lcom/example/static_permission_checker/staticpermissionchecker/core/FlowConstraint$Access;" (.ref wREAD) := (Sta_keep0 S_READ K397)
                    obtain ⟨T410, X410, e410, st410⟩ := getS2 X397 hx hZ hown (host := "") (Or.inl (hw _ (List.mem_of_getElem? (i := 33) rfl))) Via.refl rfl F409 (g := (mkF m 216 #[.val (.int x0), .val (.int x1), .val (.int x2), .val (.int (2 : Int32)), .val (.int (1 : Int32)), .val (.int (1 : Int32)), .val (.int f6), .val (.int f7), .val (.int u0), .val (.int u1), .val (.int v0), .val (.int v1), .val (.ref b313), .val (.ref b362), .val .null, .val (.ref b393), .unset, .unset, .unset] [])) rfl (hb hby at_216)
                    refine Ends.pre (T' := T410.setTop (mkF m 219 #[.val (.int x0), .val (.int x1), .val (.int x2), .val (.int (2 : Int32)), .val (.int (1 : Int32)), .val (.int (1 : Int32)), .val (.int f6), .val (.int f7), .val (.int u0), .val (.int u1), .val (.int v0), .val (.int v1), .val (.ref b313), .val (.ref b362), .val .null, .val (.ref b393), .unset, .unset, .unset] [(.ref wREAD)])) (fun t k => st410 _ k) ?_
                    exact J219_398 T410 X410 e410 wREAD
                  · refine Ends.pre (T' := T397.setTop (mkF m 210 #[.val (.int x0), .val (.int x1), .val (.int x2), .val (.int (2 : Int32)), .val (.int (1 : Int32)), .val (.int (1 : Int32)), .val (.int f6), .val (.int f7), .val (.int u0), .val (.int u1), .val (.int v0), .val (.int v1), .val (.ref b313), .val (.ref b362), .val .null, .val (.ref b393), .unset, .unset, .unset] [])) (fun t k => XS.ifNo X397.here hx rfl (hb hby at_207) rfl (Jvm.Free.XT.i0_eq_f hc207_408) k) ?_
                    have F411 : Sta Z T397.heap "com/example/static_permission_checker/staticpermissionchecker/core/FlowConstraint$Access" "WRITE" "Lcom/example/static_permission_checker/staticpermissionchecker/core/FlowConstraint$Access;" (.ref wWRITE) := (Sta_keep0 S_WRITE K397)
                    obtain ⟨T412, X412, e412, st412⟩ := getS2 X397 hx hZ hown (host := "") (Or.inl (hw _ (List.mem_of_getElem? (i := 75) rfl))) Via.refl rfl F411 (g := (mkF m 210 #[.val (.int x0), .val (.int x1), .val (.int x2), .val (.int (2 : Int32)), .val (.int (1 : Int32)), .val (.int (1 : Int32)), .val (.int f6), .val (.int f7), .val (.int u0), .val (.int u1), .val (.int v0), .val (.int v1), .val (.ref b313), .val (.ref b362), .val .null, .val (.ref b393), .unset, .unset, .unset] [])) rfl (hb hby at_210)
                    refine Ends.pre (T' := T412.setTop (mkF m 213 #[.val (.int x0), .val (.int x1), .val (.int x2), .val (.int (2 : Int32)), .val (.int (1 : Int32)), .val (.int (1 : Int32)), .val (.int f6), .val (.int f7), .val (.int u0), .val (.int u1), .val (.int v0), .val (.int v1), .val (.ref b313), .val (.ref b362), .val .null, .val (.ref b393), .unset, .unset, .unset] [(.ref wWRITE)])) (fun t k => st412 _ k) ?_
                    refine Ends.pre (fun t k => XS.goto X412.here hx rfl (pc0 := 213) (pc' := 219) rfl (hb hby at_213) (by decide) (by decide) k) ?_
                    exact J219_398 T412 X412 e412 wWRITE
              · refine Ends.pre (fun t k => XS.iload X315.here hx rfl (hb hby at_145) rfl k) ?_
                obtain ⟨T413, h413, k413, X413, e413, E413, A413, st413⟩ := newP X315 hx hZ (hw _ (List.mem_of_getElem? (i := 0) rfl)) e315 (g := (mkF m 147 #[.val (.int x0), .val (.int x1), .val (.int x2), .val (.int (2 : Int32)), .val (.int (2 : Int32)), .val (.int f5), .val (.int f6), .val (.int f7), .val (.int u0), .val (.int u1), .val (.int v0), .val (.int v1), .val (.ref b313), .unset, .unset, .unset, .unset, .unset, .unset] [(.int (2 : Int32))])) rfl (hb hby at_147) rfl (by decide) (cap := 2) (by decide) (by decide) (by decide) (by decide)
                obtain ⟨b413, g413⟩ : ∃ z, z = h315.size := ⟨_, rfl⟩
                rw [← g413] at A413 st413
                have ge_b413 : n0 ≤ b413 := Nat.le_trans (Nat.le_trans (Nat.le_trans (Nat.le_trans Z0 E313.1) (Keep.of_wr W314).1) (Keep.of_wr W315).1) (Nat.le_of_eq g413.symm)
                have sz_b413 : h0.size ≤ b413 := Nat.le_trans K315.1 (Nat.le_of_eq g413.symm)
                have CR413 := CHr.trans CR315 (CHr.ext E413 CR315.1)
                have K413 : Keep h0 h413 [] := K315.ext E413
                have V413 : Arv Z h413 b413 k413 .char (2 : Int32) [(.int (0 : Int32)), (.int (0 : Int32))] (.int (0 : Int32)) := (Arv.new A413 (by decide)).pad (pad_rep [] (.int (0 : Int32)) 2)
                refine Ends.pre (T' := T413.setTop (mkF m 149 #[.val (.int x0), .val (.int x1), .val (.int x2), .val (.int (2 : Int32)), .val (.int (2 : Int32)), .val (.int f5), .val (.int f6), .val (.int f7), .val (.int u0), .val (.int u1), .val (.int v0), .val (.int v1), .val (.ref b313), .unset, .unset, .unset, .unset, .unset, .unset] [(.ref b413)])) (fun t k => st413 _ k) ?_
                refine Ends.pre (fun t k => XS.astore (g := (mkF m 149 #[.val (.int x0), .val (.int x1), .val (.int x2), .val (.int (2 : Int32)), .val (.int (2 : Int32)), .val (.int f5), .val (.int f6), .val (.int f7), .val (.int u0), .val (.int u1), .val (.int v0), .val (.int v1), .val (.ref b313), .unset, .unset, .unset, .unset, .unset, .unset] [(.ref b413)])) X413.here hx rfl (hb hby at_149) rfl rfl (l' := #[.val (.int x0), .val (.int x1), .val (.int x2), .val (.int (2 : Int32)), .val (.int (2 : Int32)), .val (.int f5), .val (.int f6), .val (.int f7), .val (.int u0), .val (.int u1), .val (.int v0), .val (.int v1), .val (.ref b313), .val (.ref b413), .unset, .unset, .unset, .unset, .unset]) rfl k) ?_
                refine Ends.pre (fun t k => XS.iload X413.here hx rfl (hb hby at_151) rfl k) ?_
                refine Ends.pre (T' := T413.setTop (mkF m 156 #[.val (.int x0), .val (.int x1), .val (.int x2), .val (.int (2 : Int32)), .val (.int (2 : Int32)), .val (.int f5), .val (.int f6), .val (.int f7), .val (.int u0), .val (.int u1), .val (.int v0), .val (.int v1), .val (.ref b313), .val (.ref b413), .unset, .unset, .unset, .unset, .unset] [])) (fun t k => XS.ifNo X413.here hx rfl (hb hby at_153) rfl (by decide) k) ?_
                refine Ends.pre (fun t k => XS.aload X413.here hx rfl (hb hby at_156) rfl rfl k) ?_
                refine Ends.pre (fun t k => XS.iconst X413.here hx rfl (hb hby at_158) k) ?_
                refine Ends.pre (fun t k => XS.iload X413.here hx rfl (hb hby at_159) rfl k) ?_
                obtain ⟨cl414, Ar414, q414, S414, N414', H414, G414⟩ := id V413
                have hin414 : ¬ ((0 : Int32) < 0 ∨ cl414.slots.size ≤ ((0 : Int32)).toNatClampNeg) := inb_of S414 ⟨by decide, by decide⟩
                obtain ⟨T414, h414, X414, e414, W414, st414⟩ := stC X413 hx hZ e413 Ar414 (j := (0 : Int32)) hin414 (g := (mkF m 161 #[.val (.int x0), .val (.int x1), .val (.int x2), .val (.int (2 : Int32)), .val (.int (2 : Int32)), .val (.int f5), .val (.int f6), .val (.int f7), .val (.int u0), .val (.int u1), .val (.int v0), .val (.int v1), .val (.ref b313), .val (.ref b413), .unset, .unset, .unset, .unset, .unset] [(.int v0), (.int (0 : Int32)), (.ref b413)])) rfl rfl (hb hby at_161)
                have CR414 := CHr.trans CR413 (CHr.wr W414 (Safe.arv hZo.alike V413 (by decide)) CR413.1)
                have V414 : Arv Z h414 b413 k413 .char (2 : Int32) [(.int v0), (.int (0 : Int32))] (.int (0 : Int32)) := (by have q := Arv.set Ar414 q414 S414 N414' H414 G414 (fits_nar_char _) W414 0 rfl (Nat.le_of_ble_eq_true rfl); rw [own_char cv0] at q; exact q)
                have N414 := Fr.snoc X414 N315 ge_b413
                refine Ends.pre (T' := T414.setTop (mkF m 162 #[.val (.int x0), .val (.int x1), .val (.int x2), .val (.int (2 : Int32)), .val (.int (2 : Int32)), .val (.int f5), .val (.int f6), .val (.int f7), .val (.int u0), .val (.int u1), .val (.int v0), .val (.int v1), .val (.ref b313), .val (.ref b413), .unset, .unset, .unset, .unset, .unset] [])) (fun t k => st414 _ k) ?_
                have K414 : Keep h0 h414 [] := K413.wr W414 (Or.inr sz_b413)
                refine Ends.pre (fun t k => XS.iload X414.here hx rfl (hb hby at_162) rfl k) ?_
                refine Ends.pre (fun t k => XS.iconst X414.here hx rfl (hb hby at_164) k) ?_
                refine Ends.pre (T' := T414.setTop (mkF m 168 #[.val (.int x0), .val (.int x1), .val (.int x2), .val (.int (2 : Int32)), .val (.int (2 : Int32)), .val (.int f5), .val (.int f6), .val (.int f7), .val (.int u0), .val (.int u1), .val (.int v0), .val (.int v1), .val (.ref b313), .val (.ref b413), .unset, .unset, .unset, .unset, .unset] [])) (fun t k => XS.icmpNo X414.here hx rfl (hb hby at_165) rfl (by decide) k) ?_
                refine Ends.pre (fun t k => XS.aload X414.here hx rfl (hb hby at_168) rfl rfl k) ?_
                refine Ends.pre (fun t k => XS.iconst X414.here hx rfl (hb hby at_170) k) ?_
                refine Ends.pre (fun t k => XS.iload X414.here hx rfl (hb hby at_171) rfl k) ?_
                obtain ⟨cl415, Ar415, q415, S415, N415', H415, G415⟩ := id V414
                have hin415 : ¬ ((1 : Int32) < 0 ∨ cl415.slots.size ≤ ((1 : Int32)).toNatClampNeg) := inb_of S415 ⟨by decide, by decide⟩
                obtain ⟨T415, h415, X415, e415, W415, st415⟩ := stC X414 hx hZ e414 Ar415 (j := (1 : Int32)) hin415 (g := (mkF m 173 #[.val (.int x0), .val (.int x1), .val (.int x2), .val (.int (2 : Int32)), .val (.int (2 : Int32)), .val (.int f5), .val (.int f6), .val (.int f7), .val (.int u0), .val (.int u1), .val (.int v0), .val (.int v1), .val (.ref b313), .val (.ref b413), .unset, .unset, .unset, .unset, .unset] [(.int v1), (.int (1 : Int32)), (.ref b413)])) rfl rfl (hb hby at_173)
                have CR415 := CHr.trans CR414 (CHr.wr W415 (Safe.arv hZo.alike V414 (by decide)) CR414.1)
                have V415 : Arv Z h415 b413 k413 .char (2 : Int32) [(.int v0), (.int v1)] (.int (0 : Int32)) := (by have q := Arv.set Ar415 q415 S415 N415' H415 G415 (fits_nar_char _) W415 1 rfl (Nat.le_of_ble_eq_true rfl); rw [own_char cv1] at q; exact q)
                have N415 := Fr.snoc X415 N414 ge_b413
                refine Ends.pre (T' := T415.setTop (mkF m 174 #[.val (.int x0), .val (.int x1), .val (.int x2), .val (.int (2 : Int32)), .val (.int (2 : Int32)), .val (.int f5), .val (.int f6), .val (.int f7), .val (.int u0), .val (.int u1), .val (.int v0), .val (.int v1), .val (.ref b313), .val (.ref b413), .unset, .unset, .unset, .unset, .unset] [])) (fun t k => st415 _ k) ?_
                have K415 : Keep h0 h415 [] := K414.wr W415 (Or.inr sz_b413)
                rcases qf5 with rfl | rfl
                · refine Ends.pre (fun t k => XS.iload X415.here hx rfl (hb hby at_174) rfl k) ?_
                  refine Ends.pre (T' := T415.setTop (mkF m 183 #[.val (.int x0), .val (.int x1), .val (.int x2), .val (.int (2 : Int32)), .val (.int (2 : Int32)), .val (.int (0 : Int32)), .val (.int f6), .val (.int f7), .val (.int u0), .val (.int u1), .val (.int v0), .val (.int v1), .val (.ref b313), .val (.ref b413), .unset, .unset, .unset, .unset, .unset] [])) (fun t k => XS.ifYes X415.here hx rfl (pc0 := 176) (pc' := 183) rfl (hb hby at_176) rfl (by decide) (by decide) (by decide) k) ?_
                  obtain ⟨T416, h416, X416, e416, E416, A416, D416, -, st416⟩ := newO X415 hx hZ hown (hw _ (List.mem_of_getElem? (i := 1) rfl)) (hw _ (List.mem_of_getElem? (i := 2) rfl)) (hw _ (List.mem_of_getElem? (i := 3) rfl)) e415 (g := (mkF m 183 #[.val (.int x0), .val (.int x1), .val (.int x2), .val (.int (2 : Int32)), .val (.int (2 : Int32)), .val (.int (0 : Int32)), .val (.int f6), .val (.int f7), .val (.int u0), .val (.int u1), .val (.int v0), .val (.int v1), .val (.ref b313), .val (.ref b413), .unset, .unset, .unset, .unset, .unset] [])) rfl (hb hby at_183) (by decide) (by decide)
                  obtain ⟨b416, g416⟩ : ∃ z, z = h415.size := ⟨_, rfl⟩
                  rw [← g416] at A416 D416 st416
                  have ge_b416 : n0 ≤ b416 := Nat.le_trans (Nat.le_trans (Nat.le_trans (Nat.le_trans (Nat.le_trans (Nat.le_trans (Nat.le_trans Z0 E313.1) (Keep.of_wr W314).1) (Keep.of_wr W315).1) E413.1) (Keep.of_wr W414).1) (Keep.of_wr W415).1) (Nat.le_of_eq g416.symm)
                  have sz_b416 : h0.size ≤ b416 := Nat.le_trans K415.1 (Nat.le_of_eq g416.symm)
                  have CR416 := CHr.trans CR415 (CHr.ext E416 CR415.1)
                  have K416 : Keep h0 h416 [] := K415.ext E416
                  have Fd416_coder : Fld Z h416 b416 "java/lang/String" "coder" "B" (.int (0 : Int32)) := D416 (Or.inr (hw _ (List.mem_of_getElem? (i := 27) rfl))) (ty := .byte) (by decide)
                  have Fd416_value : Fld Z h416 b416 "java/lang/String" "value" "[B" .null := D416 (Or.inr (hw _ (List.mem_of_getElem? (i := 29) rfl))) (ty := (.array .byte)) (by decide)
                  refine Ends.pre (T' := T416.setTop (mkF m 186 #[.val (.int x0), .val (.int x1), .val (.int x2), .val (.int (2 : Int32)), .val (.int (2 : Int32)), .val (.int (0 : Int32)), .val (.int f6), .val (.int f7), .val (.int u0), .val (.int u1), .val (.int v0), .val (.int v1), .val (.ref b313), .val (.ref b413), .unset, .unset, .unset, .unset, .unset] [(.ref b416)])) (fun t k => st416 _ k) ?_
                  refine Ends.pre (fun t k => XS.dup X416.here hx rfl (hb hby at_186) rfl rfl k) ?_
                  refine Ends.pre (fun t k => XS.aload X416.here hx rfl (hb hby at_187) rfl rfl k) ?_
                  have hp417 : ∀ c ∈ ([u0, u1] : List Int32), ¬ c < 0 ∧ ¬ (255 : Int32) < c := (own_alS cu0 (own_alS cu1 own_al0))
                  have hbd417 := own_up _ hp417
                  have F418 : Arv Z h416 b313 k313 .char (2 : Int32) [(.int u0), (.int u1)] (.int (0 : Int32)) := (Arv.ext (((Arv.ext V315 E413).other W414 (Nat.ne_of_lt (Nat.lt_of_lt_of_le (Nat.lt_of_lt_of_le (Nat.lt_of_lt_of_le V313.lt (Keep.of_wr W314).1) (Keep.of_wr W315).1) (Nat.le_of_eq g413.symm)))).other W415 (Nat.ne_of_lt (Nat.lt_of_lt_of_le (Nat.lt_of_lt_of_le (Nat.lt_of_lt_of_le V313.lt (Keep.of_wr W314).1) (Keep.of_wr W315).1) (Nat.le_of_eq g413.symm)))) E416)
                  have F419 : Sta Z h416 "java/lang/String" "COMPACT_STRINGS" "Z" (.int cz) := (Sta_keep0 SCS K416)
                  obtain ⟨_, _, ⟨T420, L420, k420, n420⟩, -, X420, ⟨Lc420, hQ420, l420, y420, z420⟩, st420⟩ := X416.specialBack hx (y := (⟨"java/lang/String", "<init>", "([C)V"⟩ : MethodName)) rfl hown (mvT hZ (hw _ (List.mem_of_getElem? (i := 4) rfl))) (mvT hZ (hw _ (List.mem_of_getElem? (i := 5) rfl))) (mvT hZ (hw _ (List.mem_of_getElem? (i := 6) rfl))) (by decide) (StrChars.Road.backV (W := 1) hZ (own_hws hw) (kI := 4) (hw _ (List.mem_of_getElem? (i := 2) rfl)) (cs := ([u0, u1] : List Int32)) (bs := (([u0, u1] : List Int32).map (fun c => c.toInt8.toInt32))) (n := 2) ge_b416 (Nat.le_trans (Nat.le_trans (Nat.le_trans (Nat.le_trans (Nat.le_trans (Nat.le_trans (Nat.le_trans Z0 E313.1) (Keep.of_wr W314).1) (Keep.of_wr W315).1) E413.1) (Keep.of_wr W414).1) (Keep.of_wr W415).1) E416.1) A416 Fd416_value Fd416_coder F418 F419 hcz rfl rfl (by decide) (by decide) hp417 rfl (by decide) (by decide)) (g := (mkF m 189 #[.val (.int x0), .val (.int x1), .val (.int x2), .val (.int (2 : Int32)), .val (.int (2 : Int32)), .val (.int (0 : Int32)), .val (.int f6), .val (.int f7), .val (.int u0), .val (.int u1), .val (.int v0), .val (.int v1), .val (.ref b313), .val (.ref b413), .unset, .unset, .unset, .unset, .unset] [(.ref b313), (.ref b416), (.ref b416)])) rfl (by rw [hml]; rfl) (Steps.refl _) (a := b416) (argsL := [(.ref b313)]) (rest := [(.ref b416)]) (lenOf pd_4 rfl) rfl (by show 2 * 0 + _ ≤ _; exact Nat.le_of_eq rfl) (hb hby at_189) (fun _ _ => ⟨rfl, e416, (by decide : 3 + 1 ≤ _), (by decide : 8 + 2 ≤ _)⟩)
                  dsimp only [Pt.U, Pt.locs, Pt.cells, Pt.slots] at X420 l420 y420 z420 st420 hQ420
                  subst l420 y420 z420
                  obtain ⟨rfl, N420q, Kc420, Es420, Cs420, t420, kb420, gt420, ft420, nt420, Vs420, As420⟩ := hQ420
                  have N420 := Fr.app N415 N420q
                  have K420 : Keep h0 T420.heap [] := K416.trans Kc420 (allS (Or.inr sz_b416) all0)
                  have CR420 := CHr.trans CR416 (CHr.keep Kc420 (sfS (Safe.ext E416 CR415.1 (Safe.new (Nat.le_of_eq g416.symm))) sf0) CR416.1)
                  have hcd420 : StrChars.Road.CodA ([u0, u1] : List Int32) 0 (2 : Int32) ((([u0, u1] : List Int32).map (fun c => c.toInt8.toInt32)).map Value.int) := StrChars.Road.codOf (n := 2) rfl (fun c hc => (hp417 c hc).2)
                  refine Ends.pre (T' := T420.setTop (mkF m 192 #[.val (.int x0), .val (.int x1), .val (.int x2), .val (.int (2 : Int32)), .val (.int (2 : Int32)), .val (.int (0 : Int32)), .val (.int f6), .val (.int f7), .val (.int u0), .val (.int u1), .val (.int v0), .val (.int v1), .val (.ref b313), .val (.ref b413), .unset, .unset, .unset, .unset, .unset] [(.ref b416)])) (fun t k => st420.trans k) ?_
                  refine Ends.pre (fun t k => XS.astore (g := (mkF m 192 #[.val (.int x0), .val (.int x1), .val (.int x2), .val (.int (2 : Int32)), .val (.int (2 : Int32)), .val (.int (0 : Int32)), .val (.int f6), .val (.int f7), .val (.int u0), .val (.int u1), .val (.int v0), .val (.int v1), .val (.ref b313), .val (.ref b413), .unset, .unset, .unset, .unset, .unset] [(.ref b416)])) X420.here hx rfl (hb hby at_192) rfl rfl (l' := #[.val (.int x0), .val (.int x1), .val (.int x2), .val (.int (2 : Int32)), .val (.int (2 : Int32)), .val (.int (0 : Int32)), .val (.int f6), .val (.int f7), .val (.int u0), .val (.int u1), .val (.int v0), .val (.int v1), .val (.ref b313), .val (.ref b413), .val (.ref b416), .unset, .unset, .unset, .unset]) rfl k) ?_
                  obtain ⟨T421, h421, X421, e421, E421, A421, D421, -, st421⟩ := newO X420 hx hZ hown (hw _ (List.mem_of_getElem? (i := 1) rfl)) (hw _ (List.mem_of_getElem? (i := 2) rfl)) (hw _ (List.mem_of_getElem? (i := 3) rfl)) rfl (g := (mkF m 194 #[.val (.int x0), .val (.int x1), .val (.int x2), .val (.int (2 : Int32)), .val (.int (2 : Int32)), .val (.int (0 : Int32)), .val (.int f6), .val (.int f7), .val (.int u0), .val (.int u1), .val (.int v0), .val (.int v1), .val (.ref b313), .val (.ref b413), .val (.ref b416), .unset, .unset, .unset, .unset] [])) rfl (hb hby at_194) (by decide) (by decide)
                  obtain ⟨b421, g421⟩ : ∃ z, z = T420.heap.size := ⟨_, rfl⟩
                  rw [← g421] at A421 D421 st421
                  have ge_b421 : n0 ≤ b421 := Nat.le_trans (Nat.le_trans (Nat.le_trans (Nat.le_trans (Nat.le_trans (Nat.le_trans (Nat.le_trans (Nat.le_trans (Nat.le_trans Z0 E313.1) (Keep.of_wr W314).1) (Keep.of_wr W315).1) E413.1) (Keep.of_wr W414).1) (Keep.of_wr W415).1) E416.1) Kc420.1) (Nat.le_of_eq g421.symm)
                  have sz_b421 : h0.size ≤ b421 := Nat.le_trans K420.1 (Nat.le_of_eq g421.symm)
                  have CR421 := CHr.trans CR420 (CHr.ext E421 CR420.1)
                  have K421 : Keep h0 h421 [] := K420.ext E421
                  have Fd421_coder : Fld Z h421 b421 "java/lang/String" "coder" "B" (.int (0 : Int32)) := D421 (Or.inr (hw _ (List.mem_of_getElem? (i := 27) rfl))) (ty := .byte) (by decide)
                  have Fd421_value : Fld Z h421 b421 "java/lang/String" "value" "[B" .null := D421 (Or.inr (hw _ (List.mem_of_getElem? (i := 29) rfl))) (ty := (.array .byte)) (by decide)
                  refine Ends.pre (T' := T421.setTop (mkF m 197 #[.val (.int x0), .val (.int x1), .val (.int x2), .val (.int (2 : Int32)), .val (.int (2 : Int32)), .val (.int (0 : Int32)), .val (.int f6), .val (.int f7), .val (.int u0), .val (.int u1), .val (.int v0), .val (.int v1), .val (.ref b313), .val (.ref b413), .val (.ref b416), .unset, .unset, .unset, .unset] [(.ref b421)])) (fun t k => st421 _ k) ?_
                  refine Ends.pre (fun t k => XS.dup X421.here hx rfl (hb hby at_197) rfl rfl k) ?_
                  refine Ends.pre (fun t k => XS.aload X421.here hx rfl (hb hby at_198) rfl rfl k) ?_
                  have hp422 : ∀ c ∈ ([v0, v1] : List Int32), ¬ c < 0 ∧ ¬ (255 : Int32) < c := (own_alS cv0 (own_alS cv1 own_al0))
                  have hbd422 := own_up _ hp422
                  have F423 : Arv Z h421 b413 k413 .char (2 : Int32) [(.int v0), (.int v1)] (.int (0 : Int32)) := (Arv.ext ((Arv.ext V415 E416).keep Kc420 (ninS (Nat.ne_of_lt (Nat.lt_of_lt_of_le (Nat.lt_of_lt_of_le (Nat.lt_of_lt_of_le V413.lt (Keep.of_wr W414).1) (Keep.of_wr W415).1) (Nat.le_of_eq g416.symm))) nin0)) E421)
                  have F424 : Sta Z h421 "java/lang/String" "COMPACT_STRINGS" "Z" (.int cz) := (Sta_keep0 SCS K421)
                  obtain ⟨_, _, ⟨T425, L425, k425, n425⟩, -, X425, ⟨Lc425, hQ425, l425, y425, z425⟩, st425⟩ := X421.specialBack hx (y := (⟨"java/lang/String", "<init>", "([C)V"⟩ : MethodName)) rfl hown (mvT hZ (hw _ (List.mem_of_getElem? (i := 4) rfl))) (mvT hZ (hw _ (List.mem_of_getElem? (i := 5) rfl))) (mvT hZ (hw _ (List.mem_of_getElem? (i := 6) rfl))) (by decide) (StrChars.Road.backV (W := 1) hZ (own_hws hw) (kI := 4) (hw _ (List.mem_of_getElem? (i := 2) rfl)) (cs := ([v0, v1] : List Int32)) (bs := (([v0, v1] : List Int32).map (fun c => c.toInt8.toInt32))) (n := 2) ge_b421 (Nat.le_trans (Nat.le_trans (Nat.le_trans (Nat.le_trans (Nat.le_trans (Nat.le_trans (Nat.le_trans (Nat.le_trans (Nat.le_trans Z0 E313.1) (Keep.of_wr W314).1) (Keep.of_wr W315).1) E413.1) (Keep.of_wr W414).1) (Keep.of_wr W415).1) E416.1) Kc420.1) E421.1) A421 Fd421_value Fd421_coder F423 F424 hcz rfl rfl (by decide) (by decide) hp422 rfl (by decide) (by decide)) (g := (mkF m 200 #[.val (.int x0), .val (.int x1), .val (.int x2), .val (.int (2 : Int32)), .val (.int (2 : Int32)), .val (.int (0 : Int32)), .val (.int f6), .val (.int f7), .val (.int u0), .val (.int u1), .val (.int v0), .val (.int v1), .val (.ref b313), .val (.ref b413), .val (.ref b416), .unset, .unset, .unset, .unset] [(.ref b413), (.ref b421), (.ref b421)])) rfl (by rw [hml]; rfl) (Steps.refl _) (a := b421) (argsL := [(.ref b413)]) (rest := [(.ref b421)]) (lenOf pd_4 rfl) rfl (by show 2 * 0 + _ ≤ _; exact Nat.le_of_eq rfl) (hb hby at_200) (fun _ _ => ⟨rfl, e421, (by decide : 5 + 1 ≤ _), (by decide : 14 + 2 ≤ _)⟩)
                  dsimp only [Pt.U, Pt.locs, Pt.cells, Pt.slots] at X425 l425 y425 z425 st425 hQ425
                  subst l425 y425 z425
                  obtain ⟨rfl, N425q, Kc425, Es425, Cs425, t425, kb425, gt425, ft425, nt425, Vs425, As425⟩ := hQ425
                  have N425 := Fr.app N420 N425q
                  have K425 : Keep h0 T425.heap [] := K421.trans Kc425 (allS (Or.inr sz_b421) all0)
                  have CR425 := CHr.trans CR421 (CHr.keep Kc425 (sfS (Safe.ext E421 CR420.1 (Safe.new (Nat.le_of_eq g421.symm))) sf0) CR421.1)
                  have hcd425 : StrChars.Road.CodA ([v0, v1] : List Int32) 0 (2 : Int32) ((([v0, v1] : List Int32).map (fun c => c.toInt8.toInt32)).map Value.int) := StrChars.Road.codOf (n := 2) rfl (fun c hc => (hp422 c hc).2)
                  refine Ends.pre (T' := T425.setTop (mkF m 203 #[.val (.int x0), .val (.int x1), .val (.int x2), .val (.int (2 : Int32)), .val (.int (2 : Int32)), .val (.int (0 : Int32)), .val (.int f6), .val (.int f7), .val (.int u0), .val (.int u1), .val (.int v0), .val (.int v1), .val (.ref b313), .val (.ref b413), .val (.ref b416), .unset, .unset, .unset, .unset] [(.ref b421)])) (fun t k => st425.trans k) ?_
                  refine Ends.pre (fun t k => XS.astore (g := (mkF m 203 #[.val (.int x0), .val (.int x1), .val (.int x2), .val (.int (2 : Int32)), .val (.int (2 : Int32)), .val (.int (0 : Int32)), .val (.int f6), .val (.int f7), .val (.int u0), .val (.int u1), .val (.int v0), .val (.int v1), .val (.ref b313), .val (.ref b413), .val (.ref b416), .unset, .unset, .unset, .unset] [(.ref b421)])) X425.here hx rfl (hb hby at_203) rfl rfl (l' := #[.val (.int x0), .val (.int x1), .val (.int x2), .val (.int (2 : Int32)), .val (.int (2 : Int32)), .val (.int (0 : Int32)), .val (.int f6), .val (.int f7), .val (.int u0), .val (.int u1), .val (.int v0), .val (.int v1), .val (.ref b313), .val (.ref b413), .val (.ref b416), .val (.ref b421), .unset, .unset, .unset]) rfl k) ?_
                  have J219_426 : ∀ (TJ426 : State) (XJ426 : SS X425 TJ426) (eJ426 : TJ426.heap = T425.heap) (ac : Addr), Jvm.RoadKit.Ends p e below (EndW s room_1 Z consts_1 (Q_rm0 Z x0 x1 x2 wREAD wWRITE cz fm h0 n0)) (TJ426.setTop (mkF m 219 #[.val (.int x0), .val (.int x1), .val (.int x2), .val (.int (2 : Int32)), .val (.int (2 : Int32)), .val (.int (0 : Int32)), .val (.int f6), .val (.int f7), .val (.int u0), .val (.int u1), .val (.int v0), .val (.int v1), .val (.ref b313), .val (.ref b413), .val (.ref b416), .val (.ref b421), .unset, .unset, .unset] [(.ref ac)])) := by
                    intro TJ426 XJ426 eJ426 ac
                    unfold SS at XJ426
                    refine Ends.pre (fun t k => XS.astore (g := (mkF m 219 #[.val (.int x0), .val (.int x1), .val (.int x2), .val (.int (2 : Int32)), .val (.int (2 : Int32)), .val (.int (0 : Int32)), .val (.int f6), .val (.int f7), .val (.int u0), .val (.int u1), .val (.int v0), .val (.int v1), .val (.ref b313), .val (.ref b413), .val (.ref b416), .val (.ref b421), .unset, .unset, .unset] [(.ref ac)])) XJ426.here hx rfl (hb hby at_219) rfl rfl (l' := #[.val (.int x0), .val (.int x1), .val (.int x2), .val (.int (2 : Int32)), .val (.int (2 : Int32)), .val (.int (0 : Int32)), .val (.int f6), .val (.int f7), .val (.int u0), .val (.int u1), .val (.int v0), .val (.int v1), .val (.ref b313), .val (.ref b413), .val (.ref b416), .val (.ref b421), .val (.ref ac), .unset, .unset]) rfl k) ?_
                    obtain ⟨T427, h427, X427, e427, E427, A427, D427, -, st427⟩ := newO XJ426 hx hZ hown (hw _ (List.mem_of_getElem? (i := 36) rfl)) (hw _ (List.mem_of_getElem? (i := 37) rfl)) (hw _ (List.mem_of_getElem? (i := 38) rfl)) eJ426 (g := (mkF m 221 #[.val (.int x0), .val (.int x1), .val (.int x2), .val (.int (2 : Int32)), .val (.int (2 : Int32)), .val (.int (0 : Int32)), .val (.int f6), .val (.int f7), .val (.int u0), .val (.int u1), .val (.int v0), .val (.int v1), .val (.ref b313), .val (.ref b413), .val (.ref b416), .val (.ref b421), .val (.ref ac), .unset, .unset] [])) rfl (hb hby at_221) (by decide) (by decide)
                    obtain ⟨b427, g427⟩ : ∃ z, z = T425.heap.size := ⟨_, rfl⟩
                    rw [← g427] at A427 D427 st427
                    have ge_b427 : n0 ≤ b427 := Nat.le_trans (Nat.le_trans (Nat.le_trans (Nat.le_trans (Nat.le_trans (Nat.le_trans (Nat.le_trans (Nat.le_trans (Nat.le_trans (Nat.le_trans (Nat.le_trans Z0 E313.1) (Keep.of_wr W314).1) (Keep.of_wr W315).1) E413.1) (Keep.of_wr W414).1) (Keep.of_wr W415).1) E416.1) Kc420.1) E421.1) Kc425.1) (Nat.le_of_eq g427.symm)
                    have sz_b427 : h0.size ≤ b427 := Nat.le_trans K425.1 (Nat.le_of_eq g427.symm)
                    have CR427 := CHr.trans CR425 (CHr.ext E427 CR425.1)
                    have K427 : Keep h0 h427 [] := K425.ext E427
                    have Fd427_holder : Fld Z h427 b427 "com/example/static_permission_checker/staticpermissionchecker/core/FlowConstraint" "holder" "Ljava/lang/String;" .null := D427 (Or.inr (hw _ (List.mem_of_getElem? (i := 55) rfl))) (ty := (.object "java/lang/String")) (by decide)
                    have Fd427_access : Fld Z h427 b427 "com/example/static_permission_checker/staticpermissionchecker/core/FlowConstraint" "access" "Lcom/example/static_permission_checker/staticpermissionchecker/core/FlowConstraint$Access;" .null := D427 (Or.inr (hw _ (List.mem_of_getElem? (i := 57) rfl))) (ty := (.object "com/example/static_permission_checker/staticpermissionchecker/core/FlowConstraint$Access")) (by decide)
                    have Fd427_guard : Fld Z h427 b427 "com/example/static_permission_checker/staticpermissionchecker/core/FlowConstraint" "guard" "Ljava/lang/String;" .null := D427 (Or.inr (hw _ (List.mem_of_getElem? (i := 59) rfl))) (ty := (.object "java/lang/String")) (by decide)
                    refine Ends.pre (T' := T427.setTop (mkF m 224 #[.val (.int x0), .val (.int x1), .val (.int x2), .val (.int (2 : Int32)), .val (.int (2 : Int32)), .val (.int (0 : Int32)), .val (.int f6), .val (.int f7), .val (.int u0), .val (.int u1), .val (.int v0), .val (.int v1), .val (.ref b313), .val (.ref b413), .val (.ref b416), .val (.ref b421), .val (.ref ac), .unset, .unset] [(.ref b427)])) (fun t k => st427 _ k) ?_
                    refine Ends.pre (fun t k => XS.dup X427.here hx rfl (hb hby at_224) rfl rfl k) ?_
                    refine Ends.pre (fun t k => XS.aload X427.here hx rfl (hb hby at_225) rfl rfl k) ?_
                    refine Ends.pre (fun t k => XS.aload X427.here hx rfl (hb hby at_227) rfl rfl k) ?_
                    refine Ends.pre (fun t k => XS.aload X427.here hx rfl (hb hby at_229) rfl rfl k) ?_
                    obtain ⟨_, _, ⟨T428, L428, k428, n428⟩, -, Xa428, hSa428, ga428, ⟨Lc428, hQ428, l428, y428, z428, CRc428⟩, st428⟩ := X427.specialBackS hx (y := (⟨"com/example/static_permission_checker/staticpermissionchecker/core/FlowConstraint", "<init>", "(Ljava/lang/String;Lcom/example/static_permission_checker/staticpermissionchecker/core/FlowConstraint$Access;Ljava/lang/String;)V"⟩ : MethodName)) rfl hown (mvT hZ (hw _ (List.mem_of_getElem? (i := 39) rfl))) (mvT hZ (hw _ (List.mem_of_getElem? (i := 40) rfl))) (mvT hZ (hw _ (List.mem_of_getElem? (i := 41) rfl))) (by decide) (backOfSH (W := 1) (rm7r l Z a0 hw [] b427 b416 ac b421 h427 n0 (Nat.le_trans (Nat.le_trans (Nat.le_trans (Nat.le_trans (Nat.le_trans (Nat.le_trans (Nat.le_trans (Nat.le_trans (Nat.le_trans (Nat.le_trans (Nat.le_trans Z0 E313.1) (Keep.of_wr W314).1) (Keep.of_wr W315).1) E413.1) (Keep.of_wr W414).1) (Keep.of_wr W415).1) E416.1) Kc420.1) E421.1) Kc425.1) E427.1) A427 ge_b427 Fd427_holder Fd427_access Fd427_guard) hZ (hw _ (List.mem_of_getElem? (i := 41) rfl)) (hw _ (List.mem_of_getElem? (i := 38) rfl)) (by decide) (by decide) hEL CR427.1) (g := (mkF m 231 #[.val (.int x0), .val (.int x1), .val (.int x2), .val (.int (2 : Int32)), .val (.int (2 : Int32)), .val (.int (0 : Int32)), .val (.int f6), .val (.int f7), .val (.int u0), .val (.int u1), .val (.int v0), .val (.int v1), .val (.ref b313), .val (.ref b413), .val (.ref b416), .val (.ref b421), .val (.ref ac), .unset, .unset] [(.ref b421), (.ref ac), (.ref b416), (.ref b427), (.ref b427)])) rfl (by rw [hml]; rfl) (Steps.refl _) (a := b427) (argsL := [(.ref b416), (.ref ac), (.ref b421)]) (rest := [(.ref b427)]) (lenOf pd_5 rfl) rfl (by show 2 * 0 + _ ≤ _; exact Nat.le_of_eq rfl) (hb hby at_231) (fun _ _ => ⟨rfl, e427, (by decide : 7 + 4 ≤ _), (by decide : 19 + 52 ≤ _)⟩)
                    dsimp only [Pt.U, Pt.locs, Pt.cells, Pt.slots] at Xa428 hSa428 ga428 l428 y428 z428 st428 hQ428 CRc428
                    subst l428 y428 z428
                    obtain ⟨X428, hS428, hZ428, hown428⟩ := rebS hS0 (n1 := T427.heap.size) (by rw [e427]; exact (Nat.le_trans (Nat.le_trans (Nat.le_trans (Nat.le_trans (Nat.le_trans (Nat.le_trans (Nat.le_trans (Nat.le_trans (Nat.le_trans (Nat.le_trans (Nat.le_trans hk0 E313.1) (Keep.of_wr W314).1) (Keep.of_wr W315).1) E413.1) (Keep.of_wr W414).1) (Keep.of_wr W415).1) E416.1) Kc420.1) E421.1) Kc425.1) E427.1)) Xa428 hSa428 ga428 hZ hown
                    obtain ⟨rfl, N428q, Kc428, Ec428, Fh428, Fg428⟩ := hQ428
                    have N428 := Fr.app N425 N428q
                    have K428 : Keep h0 T428.heap [] := K427.trans Kc428 (allS (Or.inr sz_b427) all0)
                    have CR428 := CHr.trans CR427 CRc428
                    refine Ends.pre (T' := T428.setTop (mkF m 234 #[.val (.int x0), .val (.int x1), .val (.int x2), .val (.int (2 : Int32)), .val (.int (2 : Int32)), .val (.int (0 : Int32)), .val (.int f6), .val (.int f7), .val (.int u0), .val (.int u1), .val (.int v0), .val (.int v1), .val (.ref b313), .val (.ref b413), .val (.ref b416), .val (.ref b421), .val (.ref ac), .unset, .unset] [(.ref b427)])) (fun t k => st428.trans k) ?_
                    refine Ends.pre (fun t k => XS.astore (g := (mkF m 234 #[.val (.int x0), .val (.int x1), .val (.int x2), .val (.int (2 : Int32)), .val (.int (2 : Int32)), .val (.int (0 : Int32)), .val (.int f6), .val (.int f7), .val (.int u0), .val (.int u1), .val (.int v0), .val (.int v1), .val (.ref b313), .val (.ref b413), .val (.ref b416), .val (.ref b421), .val (.ref ac), .unset, .unset] [(.ref b427)])) X428.here hx rfl (hb hby at_234) rfl rfl (l' := #[.val (.int x0), .val (.int x1), .val (.int x2), .val (.int (2 : Int32)), .val (.int (2 : Int32)), .val (.int (0 : Int32)), .val (.int f6), .val (.int f7), .val (.int u0), .val (.int u1), .val (.int v0), .val (.int v1), .val (.ref b313), .val (.ref b413), .val (.ref b416), .val (.ref b421), .val (.ref ac), .val (.ref b427), .unset]) rfl k) ?_
                    refine Ends.pre (fun t k => XS.iload X428.here hx rfl (hb hby at_236) rfl k) ?_
                    refine Ends.pre (T' := T428.setTop (mkF m 241 #[.val (.int x0), .val (.int x1), .val (.int x2), .val (.int (2 : Int32)), .val (.int (2 : Int32)), .val (.int (0 : Int32)), .val (.int f6), .val (.int f7), .val (.int u0), .val (.int u1), .val (.int v0), .val (.int v1), .val (.ref b313), .val (.ref b413), .val (.ref b416), .val (.ref b421), .val (.ref ac), .val (.ref b427), .unset] [])) (fun t k => XS.ifNo X428.here hx rfl (hb hby at_238) rfl (by decide) k) ?_
                    refine Ends.pre (fun t k => XS.iloadN X428.here hx rfl (hb hby at_241) rfl k) ?_
                    refine Ends.pre (fun t k => XS.iload X428.here hx rfl (hb hby at_242) rfl k) ?_
                    refine Ends.pre (T' := T428.setTop (mkF m 247 #[.val (.int x0), .val (.int x1), .val (.int x2), .val (.int (2 : Int32)), .val (.int (2 : Int32)), .val (.int (0 : Int32)), .val (.int f6), .val (.int f7), .val (.int u0), .val (.int u1), .val (.int v0), .val (.int v1), .val (.ref b313), .val (.ref b413), .val (.ref b416), .val (.ref b421), .val (.ref ac), .val (.ref b427), .unset] [])) (fun t k => XS.icmpNo X428.here hx rfl (hb hby at_244) rfl (by decide) k) ?_
                    refine Ends.pre (fun t k => XS.iloadN X428.here hx rfl (hb hby at_247) rfl k) ?_
                    refine Ends.pre (fun t k => XS.iconst X428.here hx rfl (hb hby at_248) k) ?_
                    refine Ends.pre (T' := T428.setTop (mkF m 252 #[.val (.int x0), .val (.int x1), .val (.int x2), .val (.int (2 : Int32)), .val (.int (2 : Int32)), .val (.int (0 : Int32)), .val (.int f6), .val (.int f7), .val (.int u0), .val (.int u1), .val (.int v0), .val (.int v1), .val (.ref b313), .val (.ref b413), .val (.ref b416), .val (.ref b421), .val (.ref ac), .val (.ref b427), .unset] [])) (fun t k => XS.icmpNo X428.here hx rfl (hb hby at_249) rfl (by decide) k) ?_
                    refine Ends.pre (fun t k => XS.iload X428.here hx rfl (hb hby at_252) rfl k) ?_
                    refine Ends.pre (fun t k => XS.iload X428.here hx rfl (hb hby at_254) rfl k) ?_
                    by_cases hc256_429 : u0 = v0
                    · refine Ends.pre (T' := T428.setTop (mkF m 259 #[.val (.int x0), .val (.int x1), .val (.int x2), .val (.int (2 : Int32)), .val (.int (2 : Int32)), .val (.int (0 : Int32)), .val (.int f6), .val (.int f7), .val (.int u0), .val (.int u1), .val (.int v0), .val (.int v1), .val (.ref b313), .val (.ref b413), .val (.ref b416), .val (.ref b421), .val (.ref ac), .val (.ref b427), .unset] [])) (fun t k => XS.icmpNo X428.here hx rfl (hb hby at_256) rfl (Jvm.Free.XT.ii_ne_f hc256_429) k) ?_
                      refine Ends.pre (fun t k => XS.iloadN X428.here hx rfl (hb hby at_259) rfl k) ?_
                      refine Ends.pre (fun t k => XS.iconst X428.here hx rfl (hb hby at_260) k) ?_
                      refine Ends.pre (T' := T428.setTop (mkF m 264 #[.val (.int x0), .val (.int x1), .val (.int x2), .val (.int (2 : Int32)), .val (.int (2 : Int32)), .val (.int (0 : Int32)), .val (.int f6), .val (.int f7), .val (.int u0), .val (.int u1), .val (.int v0), .val (.int v1), .val (.ref b313), .val (.ref b413), .val (.ref b416), .val (.ref b421), .val (.ref ac), .val (.ref b427), .unset] [])) (fun t k => XS.icmpNo X428.here hx rfl (hb hby at_261) rfl (by decide) k) ?_
                      refine Ends.pre (fun t k => XS.iload X428.here hx rfl (hb hby at_264) rfl k) ?_
                      refine Ends.pre (fun t k => XS.iload X428.here hx rfl (hb hby at_266) rfl k) ?_
                      by_cases hc268_430 : u1 = v1
                      · refine Ends.pre (T' := T428.setTop (mkF m 271 #[.val (.int x0), .val (.int x1), .val (.int x2), .val (.int (2 : Int32)), .val (.int (2 : Int32)), .val (.int (0 : Int32)), .val (.int f6), .val (.int f7), .val (.int u0), .val (.int u1), .val (.int v0), .val (.int v1), .val (.ref b313), .val (.ref b413), .val (.ref b416), .val (.ref b421), .val (.ref ac), .val (.ref b427), .unset] [])) (fun t k => XS.icmpNo X428.here hx rfl (hb hby at_268) rfl (Jvm.Free.XT.ii_ne_f hc268_430) k) ?_
                        refine Ends.pre (fun t k => XS.iconst X428.here hx rfl (hb hby at_271) k) ?_
                        refine Ends.pre (fun t k => XS.goto X428.here hx rfl (pc0 := 272) (pc' := 276) rfl (hb hby at_272) (by decide) (by decide) k) ?_
                        refine Ends.pre (fun t k => XS.istore (g := (mkF m 276 #[.val (.int x0), .val (.int x1), .val (.int x2), .val (.int (2 : Int32)), .val (.int (2 : Int32)), .val (.int (0 : Int32)), .val (.int f6), .val (.int f7), .val (.int u0), .val (.int u1), .val (.int v0), .val (.int v1), .val (.ref b313), .val (.ref b413), .val (.ref b416), .val (.ref b421), .val (.ref ac), .val (.ref b427), .unset] [(.int (1 : Int32))])) X428.here hx rfl (hb hby at_276) rfl (l' := #[.val (.int x0), .val (.int x1), .val (.int x2), .val (.int (2 : Int32)), .val (.int (2 : Int32)), .val (.int (0 : Int32)), .val (.int f6), .val (.int f7), .val (.int u0), .val (.int u1), .val (.int v0), .val (.int v1), .val (.ref b313), .val (.ref b413), .val (.ref b416), .val (.ref b421), .val (.ref ac), .val (.ref b427), .val (.int (1 : Int32))]) rfl k) ?_
                        refine Ends.pre (fun t k => XS.aload X428.here hx rfl (hb hby at_278) rfl rfl k) ?_
                        have F431 : Exa Z T428.heap b421 "java/lang/String" := ((Es425.ext E427).keep Kc428)
                        have F432 : Fld Z T428.heap b421 "java/lang/String" "value" "[B" (.ref t425) := ((Vs425.ext E427).keep Kc428 (ninS (Nat.ne_of_lt (Nat.lt_of_lt_of_le (Nat.lt_of_lt_of_le A421.lt Kc425.1) (Nat.le_of_eq g427.symm))) nin0))
                        have F433 : Fld Z T428.heap b421 "java/lang/String" "coder" "B" (.int 0) := ((Cs425.ext E427).keep Kc428 (ninS (Nat.ne_of_lt (Nat.lt_of_lt_of_le (Nat.lt_of_lt_of_le A421.lt Kc425.1) (Nat.le_of_eq g427.symm))) nin0))
                        have F434 : Arv Z T428.heap t425 kb425 .byte (2 : Int32) ((([v0, v1] : List Int32).map (fun c => c.toInt8.toInt32)).map Value.int) (.int 0) := ((Arv.ext As425 E427).keep Kc428 (ninS (Nat.ne_of_lt (Nat.lt_of_lt_of_le As425.lt (Nat.le_of_eq g427.symm))) nin0))
                        have F435 : Exa Z T428.heap b416 "java/lang/String" := ((((Es420.ext E421).keep Kc425).ext E427).keep Kc428)
                        have F436 : Fld Z T428.heap b416 "java/lang/String" "value" "[B" (.ref t420) := ((((Vs420.ext E421).keep Kc425 (ninS (Nat.ne_of_lt (Nat.lt_of_lt_of_le (Nat.lt_of_lt_of_le A416.lt Kc420.1) (Nat.le_of_eq g421.symm))) nin0)).ext E427).keep Kc428 (ninS (Nat.ne_of_lt (Nat.lt_of_lt_of_le (Nat.lt_of_lt_of_le (Nat.lt_of_lt_of_le (Nat.lt_of_lt_of_le A416.lt Kc420.1) E421.1) Kc425.1) (Nat.le_of_eq g427.symm))) nin0))
                        have F437 : Fld Z T428.heap b416 "java/lang/String" "coder" "B" (.int 0) := ((((Cs420.ext E421).keep Kc425 (ninS (Nat.ne_of_lt (Nat.lt_of_lt_of_le (Nat.lt_of_lt_of_le A416.lt Kc420.1) (Nat.le_of_eq g421.symm))) nin0)).ext E427).keep Kc428 (ninS (Nat.ne_of_lt (Nat.lt_of_lt_of_le (Nat.lt_of_lt_of_le (Nat.lt_of_lt_of_le (Nat.lt_of_lt_of_le A416.lt Kc420.1) E421.1) Kc425.1) (Nat.le_of_eq g427.symm))) nin0))
                        have F438 : Arv Z T428.heap t420 kb420 .byte (2 : Int32) ((([u0, u1] : List Int32).map (fun c => c.toInt8.toInt32)).map Value.int) (.int 0) := ((Arv.ext ((Arv.ext As420 E421).keep Kc425 (ninS (Nat.ne_of_lt (Nat.lt_of_lt_of_le As420.lt (Nat.le_of_eq g421.symm))) nin0)) E427).keep Kc428 (ninS (Nat.ne_of_lt (Nat.lt_of_lt_of_le (Nat.lt_of_lt_of_le (Nat.lt_of_lt_of_le As420.lt E421.1) Kc425.1) (Nat.le_of_eq g427.symm))) nin0))
                        have F439 : Sta Z T428.heap "java/lang/String" "COMPACT_STRINGS" "Z" (.int cz) := (Sta_keep0 SCS K428)
                        have F440 : Sta Z T428.heap "jdk/internal/util/Preconditions" "SIOOBE_FORMATTER" "Ljava/util/function/BiFunction;" fm := (Sta_keep0 SFM K428)
                        obtain ⟨cq441, kq441, q441a, q441b, q441c⟩ := isOf hZ428 rfl Ec428
                        obtain ⟨_, _, ⟨T441, L441, k441, n441⟩, -, X441, ⟨Lc441, hQ441, l441, y441, z441⟩, st441⟩ := X428.virtualBack hx (y := (⟨"com/example/static_permission_checker/staticpermissionchecker/core/FlowConstraint", "holds", "()Z"⟩ : MethodName)) (z := (⟨"com/example/static_permission_checker/staticpermissionchecker/core/FlowConstraint", "holds", "()Z"⟩ : MethodName)) hown428 (mvT hZ428 (hw _ (List.mem_of_getElem? (i := 60) rfl))) (mvT hZ428 (hw _ (List.mem_of_getElem? (i := 61) rfl))) (notFace_of_selects (args := #[]) (mvT hZ428 (hw _ (List.mem_of_getElem? (i := 63) rfl)))) (mvT hZ428 (hw _ (List.mem_of_getElem? (i := 63) rfl))) (mvT hZ428 (hw _ (List.mem_of_getElem? (i := 62) rfl))) (by decide) (backOf (W := 0) (rm10y l Z a0 hw [] b427 b421 t425 kb425 ([v0, v1] : List Int32) (2 : Int32) _ b416 t420 kb420 ([u0, u1] : List Int32) (2 : Int32) _ cz fm T428.heap n0 (Nat.le_trans (Nat.le_trans (Nat.le_trans (Nat.le_trans (Nat.le_trans (Nat.le_trans (Nat.le_trans (Nat.le_trans (Nat.le_trans (Nat.le_trans (Nat.le_trans (Nat.le_trans Z0 E313.1) (Keep.of_wr W314).1) (Keep.of_wr W315).1) E413.1) (Keep.of_wr W414).1) (Keep.of_wr W415).1) E416.1) Kc420.1) E421.1) Kc425.1) E427.1) Kc428.1) F431 F433 F432 F434 hcd425 hbd422 (Nat.le_of_ble_eq_true rfl) F435 F437 F436 F438 hcd420 hbd417 (Nat.le_of_ble_eq_true rfl) Fh428 Fg428 F439 hcz F440 hfm (by rw [hc256_429, hc268_430])) hZ428 (hw _ (List.mem_of_getElem? (i := 64) rfl)) (hw _ (List.mem_of_getElem? (i := 38) rfl)) (by decide) (by decide)) q441a q441c (g := (mkF m 280 #[.val (.int x0), .val (.int x1), .val (.int x2), .val (.int (2 : Int32)), .val (.int (2 : Int32)), .val (.int (0 : Int32)), .val (.int f6), .val (.int f7), .val (.int u0), .val (.int u1), .val (.int v0), .val (.int v1), .val (.ref b313), .val (.ref b413), .val (.ref b416), .val (.ref b421), .val (.ref ac), .val (.ref b427), .val (.int (1 : Int32))] [(.ref b427)])) rfl (by rw [hml]; rfl) (Steps.refl _) (argsL := []) (rest := []) (lenOf pd_6 rfl) rfl (by show 2 * 0 + _ ≤ _; exact Nat.le_of_eq rfl) (hb hby at_280) (fun _ _ => ⟨rfl, rfl, (by decide : 11 + 0 ≤ _), (by decide : 71 + 0 ≤ _)⟩)
                        dsimp only [Pt.U, Pt.locs, Pt.cells, Pt.slots] at X441 l441 y441 z441 st441 hQ441
                        subst l441 y441 z441
                        obtain ⟨rfl, N441q, eh441⟩ := hQ441
                        have N441 := Fr.app N428 N441q
                        refine Ends.pre (T' := T441.setTop (mkF m 283 #[.val (.int x0), .val (.int x1), .val (.int x2), .val (.int (2 : Int32)), .val (.int (2 : Int32)), .val (.int (0 : Int32)), .val (.int f6), .val (.int f7), .val (.int u0), .val (.int u1), .val (.int v0), .val (.int v1), .val (.ref b313), .val (.ref b413), .val (.ref b416), .val (.ref b421), .val (.ref ac), .val (.ref b427), .val (.int (1 : Int32))] [(.int (1 : Int32))])) (fun t k => st441.trans k) ?_
                        refine Ends.pre (fun t k => XS.iload X441.here hx rfl (hb hby at_283) rfl k) ?_
                        refine Ends.pre (T' := T441.setTop (mkF m 288 #[.val (.int x0), .val (.int x1), .val (.int x2), .val (.int (2 : Int32)), .val (.int (2 : Int32)), .val (.int (0 : Int32)), .val (.int f6), .val (.int f7), .val (.int u0), .val (.int u1), .val (.int v0), .val (.int v1), .val (.ref b313), .val (.ref b413), .val (.ref b416), .val (.ref b421), .val (.ref ac), .val (.ref b427), .val (.int (1 : Int32))] [])) (fun t k => XS.icmpNo X441.here hx rfl (hb hby at_285) rfl (by decide) k) ?_
                        refine Ends.pre (fun t k => XS.iconst X441.here hx rfl (hb hby at_288) k) ?_
                        refine Ends.pre (fun t k => XS.goto X441.here hx rfl (pc0 := 289) (pc' := 293) rfl (hb hby at_289) (by decide) (by decide) k) ?_
                        exact Ends.retW (w := (.int (1 : Int32))) X441 hx Bd.notSynchronized Bd.returns rfl (Or.inl ⟨rfl, Or.inr (Or.inl rfl), _, rfl⟩) (hb hby at_293) eh441 hZ428 hEL hS428 (Nat.le_refl _) hh CR428 ⟨rfl, N441⟩ (by decide) (by decide)
                      · refine Ends.pre (T' := T428.setTop (mkF m 275 #[.val (.int x0), .val (.int x1), .val (.int x2), .val (.int (2 : Int32)), .val (.int (2 : Int32)), .val (.int (0 : Int32)), .val (.int f6), .val (.int f7), .val (.int u0), .val (.int u1), .val (.int v0), .val (.int v1), .val (.ref b313), .val (.ref b413), .val (.ref b416), .val (.ref b421), .val (.ref ac), .val (.ref b427), .unset] [])) (fun t k => XS.icmpYes X428.here hx rfl (pc0 := 268) (pc' := 275) rfl (hb hby at_268) rfl (Jvm.Free.XT.ii_ne_t hc268_430) (by decide) (by decide) k) ?_
                        refine Ends.pre (fun t k => XS.iconst X428.here hx rfl (hb hby at_275) k) ?_
                        refine Ends.pre (fun t k => XS.istore (g := (mkF m 276 #[.val (.int x0), .val (.int x1), .val (.int x2), .val (.int (2 : Int32)), .val (.int (2 : Int32)), .val (.int (0 : Int32)), .val (.int f6), .val (.int f7), .val (.int u0), .val (.int u1), .val (.int v0), .val (.int v1), .val (.ref b313), .val (.ref b413), .val (.ref b416), .val (.ref b421), .val (.ref ac), .val (.ref b427), .unset] [(.int (0 : Int32))])) X428.here hx rfl (hb hby at_276) rfl (l' := #[.val (.int x0), .val (.int x1), .val (.int x2), .val (.int (2 : Int32)), .val (.int (2 : Int32)), .val (.int (0 : Int32)), .val (.int f6), .val (.int f7), .val (.int u0), .val (.int u1), .val (.int v0), .val (.int v1), .val (.ref b313), .val (.ref b413), .val (.ref b416), .val (.ref b421), .val (.ref ac), .val (.ref b427), .val (.int (0 : Int32))]) rfl k) ?_
                        refine Ends.pre (fun t k => XS.aload X428.here hx rfl (hb hby at_278) rfl rfl k) ?_
                        have F442 : Exa Z T428.heap b421 "java/lang/String" := ((Es425.ext E427).keep Kc428)
                        have F443 : Fld Z T428.heap b421 "java/lang/String" "value" "[B" (.ref t425) := ((Vs425.ext E427).keep Kc428 (ninS (Nat.ne_of_lt (Nat.lt_of_lt_of_le (Nat.lt_of_lt_of_le A421.lt Kc425.1) (Nat.le_of_eq g427.symm))) nin0))
                        have F444 : Fld Z T428.heap b421 "java/lang/String" "coder" "B" (.int 0) := ((Cs425.ext E427).keep Kc428 (ninS (Nat.ne_of_lt (Nat.lt_of_lt_of_le (Nat.lt_of_lt_of_le A421.lt Kc425.1) (Nat.le_of_eq g427.symm))) nin0))
                        have F445 : Arv Z T428.heap t425 kb425 .byte (2 : Int32) ((([v0, v1] : List Int32).map (fun c => c.toInt8.toInt32)).map Value.int) (.int 0) := ((Arv.ext As425 E427).keep Kc428 (ninS (Nat.ne_of_lt (Nat.lt_of_lt_of_le As425.lt (Nat.le_of_eq g427.symm))) nin0))
                        have F446 : Exa Z T428.heap b416 "java/lang/String" := ((((Es420.ext E421).keep Kc425).ext E427).keep Kc428)
                        have F447 : Fld Z T428.heap b416 "java/lang/String" "value" "[B" (.ref t420) := ((((Vs420.ext E421).keep Kc425 (ninS (Nat.ne_of_lt (Nat.lt_of_lt_of_le (Nat.lt_of_lt_of_le A416.lt Kc420.1) (Nat.le_of_eq g421.symm))) nin0)).ext E427).keep Kc428 (ninS (Nat.ne_of_lt (Nat.lt_of_lt_of_le (Nat.lt_of_lt_of_le (Nat.lt_of_lt_of_le (Nat.lt_of_lt_of_le A416.lt Kc420.1) E421.1) Kc425.1) (Nat.le_of_eq g427.symm))) nin0))
                        have F448 : Fld Z T428.heap b416 "java/lang/String" "coder" "B" (.int 0) := ((((Cs420.ext E421).keep Kc425 (ninS (Nat.ne_of_lt (Nat.lt_of_lt_of_le (Nat.lt_of_lt_of_le A416.lt Kc420.1) (Nat.le_of_eq g421.symm))) nin0)).ext E427).keep Kc428 (ninS (Nat.ne_of_lt (Nat.lt_of_lt_of_le (Nat.lt_of_lt_of_le (Nat.lt_of_lt_of_le (Nat.lt_of_lt_of_le A416.lt Kc420.1) E421.1) Kc425.1) (Nat.le_of_eq g427.symm))) nin0))
                        have F449 : Arv Z T428.heap t420 kb420 .byte (2 : Int32) ((([u0, u1] : List Int32).map (fun c => c.toInt8.toInt32)).map Value.int) (.int 0) := ((Arv.ext ((Arv.ext As420 E421).keep Kc425 (ninS (Nat.ne_of_lt (Nat.lt_of_lt_of_le As420.lt (Nat.le_of_eq g421.symm))) nin0)) E427).keep Kc428 (ninS (Nat.ne_of_lt (Nat.lt_of_lt_of_le (Nat.lt_of_lt_of_le (Nat.lt_of_lt_of_le As420.lt E421.1) Kc425.1) (Nat.le_of_eq g427.symm))) nin0))
                        have F450 : Sta Z T428.heap "java/lang/String" "COMPACT_STRINGS" "Z" (.int cz) := (Sta_keep0 SCS K428)
                        have F451 : Sta Z T428.heap "jdk/internal/util/Preconditions" "SIOOBE_FORMATTER" "Ljava/util/function/BiFunction;" fm := (Sta_keep0 SFM K428)
                        obtain ⟨cq452, kq452, q452a, q452b, q452c⟩ := isOf hZ428 rfl Ec428
                        obtain ⟨_, _, ⟨T452, L452, k452, n452⟩, -, X452, ⟨Lc452, hQ452, l452, y452, z452⟩, st452⟩ := X428.virtualBack hx (y := (⟨"com/example/static_permission_checker/staticpermissionchecker/core/FlowConstraint", "holds", "()Z"⟩ : MethodName)) (z := (⟨"com/example/static_permission_checker/staticpermissionchecker/core/FlowConstraint", "holds", "()Z"⟩ : MethodName)) hown428 (mvT hZ428 (hw _ (List.mem_of_getElem? (i := 60) rfl))) (mvT hZ428 (hw _ (List.mem_of_getElem? (i := 61) rfl))) (notFace_of_selects (args := #[]) (mvT hZ428 (hw _ (List.mem_of_getElem? (i := 63) rfl)))) (mvT hZ428 (hw _ (List.mem_of_getElem? (i := 63) rfl))) (mvT hZ428 (hw _ (List.mem_of_getElem? (i := 62) rfl))) (by decide) (backOf (W := 0) (rm10d l Z a0 hw [] b427 b421 t425 kb425 ([v0, v1] : List Int32) (2 : Int32) _ b416 t420 kb420 ([u0, u1] : List Int32) (2 : Int32) _ cz fm T428.heap n0 (Nat.le_trans (Nat.le_trans (Nat.le_trans (Nat.le_trans (Nat.le_trans (Nat.le_trans (Nat.le_trans (Nat.le_trans (Nat.le_trans (Nat.le_trans (Nat.le_trans (Nat.le_trans Z0 E313.1) (Keep.of_wr W314).1) (Keep.of_wr W315).1) E413.1) (Keep.of_wr W414).1) (Keep.of_wr W415).1) E416.1) Kc420.1) E421.1) Kc425.1) E427.1) Kc428.1) F442 F444 F443 F445 hcd425 hbd422 (Nat.le_of_ble_eq_true rfl) F446 F448 F447 F449 hcd420 hbd417 (Nat.le_of_ble_eq_true rfl) Fh428 Fg428 F450 hcz F451 hfm (fun q => hc268_430 (List.cons.inj (List.cons.inj q).2).1.symm)) hZ428 (hw _ (List.mem_of_getElem? (i := 64) rfl)) (hw _ (List.mem_of_getElem? (i := 38) rfl)) (by decide) (by decide)) q452a q452c (g := (mkF m 280 #[.val (.int x0), .val (.int x1), .val (.int x2), .val (.int (2 : Int32)), .val (.int (2 : Int32)), .val (.int (0 : Int32)), .val (.int f6), .val (.int f7), .val (.int u0), .val (.int u1), .val (.int v0), .val (.int v1), .val (.ref b313), .val (.ref b413), .val (.ref b416), .val (.ref b421), .val (.ref ac), .val (.ref b427), .val (.int (0 : Int32))] [(.ref b427)])) rfl (by rw [hml]; rfl) (Steps.refl _) (argsL := []) (rest := []) (lenOf pd_6 rfl) rfl (by show 2 * 0 + _ ≤ _; exact Nat.le_of_eq rfl) (hb hby at_280) (fun _ _ => ⟨rfl, rfl, (by decide : 11 + 0 ≤ _), (by decide : 71 + 0 ≤ _)⟩)
                        dsimp only [Pt.U, Pt.locs, Pt.cells, Pt.slots] at X452 l452 y452 z452 st452 hQ452
                        subst l452 y452 z452
                        obtain ⟨rfl, N452q, eh452⟩ := hQ452
                        have N452 := Fr.app N428 N452q
                        refine Ends.pre (T' := T452.setTop (mkF m 283 #[.val (.int x0), .val (.int x1), .val (.int x2), .val (.int (2 : Int32)), .val (.int (2 : Int32)), .val (.int (0 : Int32)), .val (.int f6), .val (.int f7), .val (.int u0), .val (.int u1), .val (.int v0), .val (.int v1), .val (.ref b313), .val (.ref b413), .val (.ref b416), .val (.ref b421), .val (.ref ac), .val (.ref b427), .val (.int (0 : Int32))] [(.int (0 : Int32))])) (fun t k => st452.trans k) ?_
                        refine Ends.pre (fun t k => XS.iload X452.here hx rfl (hb hby at_283) rfl k) ?_
                        refine Ends.pre (T' := T452.setTop (mkF m 288 #[.val (.int x0), .val (.int x1), .val (.int x2), .val (.int (2 : Int32)), .val (.int (2 : Int32)), .val (.int (0 : Int32)), .val (.int f6), .val (.int f7), .val (.int u0), .val (.int u1), .val (.int v0), .val (.int v1), .val (.ref b313), .val (.ref b413), .val (.ref b416), .val (.ref b421), .val (.ref ac), .val (.ref b427), .val (.int (0 : Int32))] [])) (fun t k => XS.icmpNo X452.here hx rfl (hb hby at_285) rfl (by decide) k) ?_
                        refine Ends.pre (fun t k => XS.iconst X452.here hx rfl (hb hby at_288) k) ?_
                        refine Ends.pre (fun t k => XS.goto X452.here hx rfl (pc0 := 289) (pc' := 293) rfl (hb hby at_289) (by decide) (by decide) k) ?_
                        exact Ends.retW (w := (.int (1 : Int32))) X452 hx Bd.notSynchronized Bd.returns rfl (Or.inl ⟨rfl, Or.inr (Or.inl rfl), _, rfl⟩) (hb hby at_293) eh452 hZ428 hEL hS428 (Nat.le_refl _) hh CR428 ⟨rfl, N452⟩ (by decide) (by decide)
                    · refine Ends.pre (T' := T428.setTop (mkF m 275 #[.val (.int x0), .val (.int x1), .val (.int x2), .val (.int (2 : Int32)), .val (.int (2 : Int32)), .val (.int (0 : Int32)), .val (.int f6), .val (.int f7), .val (.int u0), .val (.int u1), .val (.int v0), .val (.int v1), .val (.ref b313), .val (.ref b413), .val (.ref b416), .val (.ref b421), .val (.ref ac), .val (.ref b427), .unset] [])) (fun t k => XS.icmpYes X428.here hx rfl (pc0 := 256) (pc' := 275) rfl (hb hby at_256) rfl (Jvm.Free.XT.ii_ne_t hc256_429) (by decide) (by decide) k) ?_
                      refine Ends.pre (fun t k => XS.iconst X428.here hx rfl (hb hby at_275) k) ?_
                      refine Ends.pre (fun t k => XS.istore (g := (mkF m 276 #[.val (.int x0), .val (.int x1), .val (.int x2), .val (.int (2 : Int32)), .val (.int (2 : Int32)), .val (.int (0 : Int32)), .val (.int f6), .val (.int f7), .val (.int u0), .val (.int u1), .val (.int v0), .val (.int v1), .val (.ref b313), .val (.ref b413), .val (.ref b416), .val (.ref b421), .val (.ref ac), .val (.ref b427), .unset] [(.int (0 : Int32))])) X428.here hx rfl (hb hby at_276) rfl (l' := #[.val (.int x0), .val (.int x1), .val (.int x2), .val (.int (2 : Int32)), .val (.int (2 : Int32)), .val (.int (0 : Int32)), .val (.int f6), .val (.int f7), .val (.int u0), .val (.int u1), .val (.int v0), .val (.int v1), .val (.ref b313), .val (.ref b413), .val (.ref b416), .val (.ref b421), .val (.ref ac), .val (.ref b427), .val (.int (0 : Int32))]) rfl k) ?_
                      refine Ends.pre (fun t k => XS.aload X428.here hx rfl (hb hby at_278) rfl rfl k) ?_
                      have F453 : Exa Z T428.heap b421 "java/lang/String" := ((Es425.ext E427).keep Kc428)
                      have F454 : Fld Z T428.heap b421 "java/lang/String" "value" "[B" (.ref t425) := ((Vs425.ext E427).keep Kc428 (ninS (Nat.ne_of_lt (Nat.lt_of_lt_of_le (Nat.lt_of_lt_of_le A421.lt Kc425.1) (Nat.le_of_eq g427.symm))) nin0))
                      have F455 : Fld Z T428.heap b421 "java/lang/String" "coder" "B" (.int 0) := ((Cs425.ext E427).keep Kc428 (ninS (Nat.ne_of_lt (Nat.lt_of_lt_of_le (Nat.lt_of_lt_of_le A421.lt Kc425.1) (Nat.le_of_eq g427.symm))) nin0))
                      have F456 : Arv Z T428.heap t425 kb425 .byte (2 : Int32) ((([v0, v1] : List Int32).map (fun c => c.toInt8.toInt32)).map Value.int) (.int 0) := ((Arv.ext As425 E427).keep Kc428 (ninS (Nat.ne_of_lt (Nat.lt_of_lt_of_le As425.lt (Nat.le_of_eq g427.symm))) nin0))
                      have F457 : Exa Z T428.heap b416 "java/lang/String" := ((((Es420.ext E421).keep Kc425).ext E427).keep Kc428)
                      have F458 : Fld Z T428.heap b416 "java/lang/String" "value" "[B" (.ref t420) := ((((Vs420.ext E421).keep Kc425 (ninS (Nat.ne_of_lt (Nat.lt_of_lt_of_le (Nat.lt_of_lt_of_le A416.lt Kc420.1) (Nat.le_of_eq g421.symm))) nin0)).ext E427).keep Kc428 (ninS (Nat.ne_of_lt (Nat.lt_of_lt_of_le (Nat.lt_of_lt_of_le (Nat.lt_of_lt_of_le (Nat.lt_of_lt_of_le A416.lt Kc420.1) E421.1) Kc425.1) (Nat.le_of_eq g427.symm))) nin0))
                      have F459 : Fld Z T428.heap b416 "java/lang/String" "coder" "B" (.int 0) := ((((Cs420.ext E421).keep Kc425 (ninS (Nat.ne_of_lt (Nat.lt_of_lt_of_le (Nat.lt_of_lt_of_le A416.lt Kc420.1) (Nat.le_of_eq g421.symm))) nin0)).ext E427).keep Kc428 (ninS (Nat.ne_of_lt (Nat.lt_of_lt_of_le (Nat.lt_of_lt_of_le (Nat.lt_of_lt_of_le (Nat.lt_of_lt_of_le A416.lt Kc420.1) E421.1) Kc425.1) (Nat.le_of_eq g427.symm))) nin0))
                      have F460 : Arv Z T428.heap t420 kb420 .byte (2 : Int32) ((([u0, u1] : List Int32).map (fun c => c.toInt8.toInt32)).map Value.int) (.int 0) := ((Arv.ext ((Arv.ext As420 E421).keep Kc425 (ninS (Nat.ne_of_lt (Nat.lt_of_lt_of_le As420.lt (Nat.le_of_eq g421.symm))) nin0)) E427).keep Kc428 (ninS (Nat.ne_of_lt (Nat.lt_of_lt_of_le (Nat.lt_of_lt_of_le (Nat.lt_of_lt_of_le As420.lt E421.1) Kc425.1) (Nat.le_of_eq g427.symm))) nin0))
                      have F461 : Sta Z T428.heap "java/lang/String" "COMPACT_STRINGS" "Z" (.int cz) := (Sta_keep0 SCS K428)
                      have F462 : Sta Z T428.heap "jdk/internal/util/Preconditions" "SIOOBE_FORMATTER" "Ljava/util/function/BiFunction;" fm := (Sta_keep0 SFM K428)
                      obtain ⟨cq463, kq463, q463a, q463b, q463c⟩ := isOf hZ428 rfl Ec428
                      obtain ⟨_, _, ⟨T463, L463, k463, n463⟩, -, X463, ⟨Lc463, hQ463, l463, y463, z463⟩, st463⟩ := X428.virtualBack hx (y := (⟨"com/example/static_permission_checker/staticpermissionchecker/core/FlowConstraint", "holds", "()Z"⟩ : MethodName)) (z := (⟨"com/example/static_permission_checker/staticpermissionchecker/core/FlowConstraint", "holds", "()Z"⟩ : MethodName)) hown428 (mvT hZ428 (hw _ (List.mem_of_getElem? (i := 60) rfl))) (mvT hZ428 (hw _ (List.mem_of_getElem? (i := 61) rfl))) (notFace_of_selects (args := #[]) (mvT hZ428 (hw _ (List.mem_of_getElem? (i := 63) rfl)))) (mvT hZ428 (hw _ (List.mem_of_getElem? (i := 63) rfl))) (mvT hZ428 (hw _ (List.mem_of_getElem? (i := 62) rfl))) (by decide) (backOf (W := 0) (rm10d l Z a0 hw [] b427 b421 t425 kb425 ([v0, v1] : List Int32) (2 : Int32) _ b416 t420 kb420 ([u0, u1] : List Int32) (2 : Int32) _ cz fm T428.heap n0 (Nat.le_trans (Nat.le_trans (Nat.le_trans (Nat.le_trans (Nat.le_trans (Nat.le_trans (Nat.le_trans (Nat.le_trans (Nat.le_trans (Nat.le_trans (Nat.le_trans (Nat.le_trans Z0 E313.1) (Keep.of_wr W314).1) (Keep.of_wr W315).1) E413.1) (Keep.of_wr W414).1) (Keep.of_wr W415).1) E416.1) Kc420.1) E421.1) Kc425.1) E427.1) Kc428.1) F453 F455 F454 F456 hcd425 hbd422 (Nat.le_of_ble_eq_true rfl) F457 F459 F458 F460 hcd420 hbd417 (Nat.le_of_ble_eq_true rfl) Fh428 Fg428 F461 hcz F462 hfm (fun q => hc256_429 (List.cons.inj q).1.symm)) hZ428 (hw _ (List.mem_of_getElem? (i := 64) rfl)) (hw _ (List.mem_of_getElem? (i := 38) rfl)) (by decide) (by decide)) q463a q463c (g := (mkF m 280 #[.val (.int x0), .val (.int x1), .val (.int x2), .val (.int (2 : Int32)), .val (.int (2 : Int32)), .val (.int (0 : Int32)), .val (.int f6), .val (.int f7), .val (.int u0), .val (.int u1), .val (.int v0), .val (.int v1), .val (.ref b313), .val (.ref b413), .val (.ref b416), .val (.ref b421), .val (.ref ac), .val (.ref b427), .val (.int (0 : Int32))] [(.ref b427)])) rfl (by rw [hml]; rfl) (Steps.refl _) (argsL := []) (rest := []) (lenOf pd_6 rfl) rfl (by show 2 * 0 + _ ≤ _; exact Nat.le_of_eq rfl) (hb hby at_280) (fun _ _ => ⟨rfl, rfl, (by decide : 11 + 0 ≤ _), (by decide : 71 + 0 ≤ _)⟩)
                      dsimp only [Pt.U, Pt.locs, Pt.cells, Pt.slots] at X463 l463 y463 z463 st463 hQ463
                      subst l463 y463 z463
                      obtain ⟨rfl, N463q, eh463⟩ := hQ463
                      have N463 := Fr.app N428 N463q
                      refine Ends.pre (T' := T463.setTop (mkF m 283 #[.val (.int x0), .val (.int x1), .val (.int x2), .val (.int (2 : Int32)), .val (.int (2 : Int32)), .val (.int (0 : Int32)), .val (.int f6), .val (.int f7), .val (.int u0), .val (.int u1), .val (.int v0), .val (.int v1), .val (.ref b313), .val (.ref b413), .val (.ref b416), .val (.ref b421), .val (.ref ac), .val (.ref b427), .val (.int (0 : Int32))] [(.int (0 : Int32))])) (fun t k => st463.trans k) ?_
                      refine Ends.pre (fun t k => XS.iload X463.here hx rfl (hb hby at_283) rfl k) ?_
                      refine Ends.pre (T' := T463.setTop (mkF m 288 #[.val (.int x0), .val (.int x1), .val (.int x2), .val (.int (2 : Int32)), .val (.int (2 : Int32)), .val (.int (0 : Int32)), .val (.int f6), .val (.int f7), .val (.int u0), .val (.int u1), .val (.int v0), .val (.int v1), .val (.ref b313), .val (.ref b413), .val (.ref b416), .val (.ref b421), .val (.ref ac), .val (.ref b427), .val (.int (0 : Int32))] [])) (fun t k => XS.icmpNo X463.here hx rfl (hb hby at_285) rfl (by decide) k) ?_
                      refine Ends.pre (fun t k => XS.iconst X463.here hx rfl (hb hby at_288) k) ?_
                      refine Ends.pre (fun t k => XS.goto X463.here hx rfl (pc0 := 289) (pc' := 293) rfl (hb hby at_289) (by decide) (by decide) k) ?_
                      exact Ends.retW (w := (.int (1 : Int32))) X463 hx Bd.notSynchronized Bd.returns rfl (Or.inl ⟨rfl, Or.inr (Or.inl rfl), _, rfl⟩) (hb hby at_293) eh463 hZ428 hEL hS428 (Nat.le_refl _) hh CR428 ⟨rfl, N463⟩ (by decide) (by decide)
                  refine Ends.pre (fun t k => XS.iload X425.here hx rfl (hb hby at_205) rfl k) ?_
                  by_cases hc207_464 : f7 = 0
                  · refine Ends.pre (T' := T425.setTop (mkF m 216 #[.val (.int x0), .val (.int x1), .val (.int x2), .val (.int (2 : Int32)), .val (.int (2 : Int32)), .val (.int (0 : Int32)), .val (.int f6), .val (.int f7), .val (.int u0), .val (.int u1), .val (.int v0), .val (.int v1), .val (.ref b313), .val (.ref b413), .val (.ref b416), .val (.ref b421), .unset, .unset, .unset] [])) (fun t k => XS.ifYes X425.here hx rfl (pc0 := 207) (pc' := 216) rfl (hb hby at_207) rfl (Jvm.Free.XT.i0_eq_t hc207_464) (by decide) (by decide) k) ?_
                    have F465 : Sta Z T425.heap "com/example/static_permission_checker/staticpermissionchecker/core/FlowConstraint$Access" "READ" "Lcom/example/static_permission_checker/staticpermissionchecker/core/FlowConstraint$Access;" (.ref wREAD) := (Sta_keep0 S_READ K425)
                    obtain ⟨T466, X466, e466, st466⟩ := getS2 X425 hx hZ hown (host := "") (Or.inl (hw _ (List.mem_of_getElem? (i := 33) rfl))) Via.refl rfl F465 (g := (mkF m 216 #[.val (.int x0), .val (.int x1), .val (.int x2), .val (.int (2 : Int32)), .val (.int (2 : Int32)), .val (.int (0 : Int32)), .val (.int f6), .val (.int f7), .val (.int u0), .val (.int u1), .val (.int v0), .val (.int v1), .val (.ref b313), .val (.ref b413), .val (.ref b416), .val (.ref b421), .unset, .unset, .unset] [])) rfl (hb hby at_216)
                    refine Ends.pre (T' := T466.setTop (mkF m 219 #[.val (.int x0), .val (.int x1), .val (.int x2), .val (.int (2 : Int32)), .val (.int (2 : Int32)), .val (.int (0 : Int32)), .val (.int f6), .val (.int f7), .val (.int u0), .val (.int u1), .val (.int v0), .val (.int v1), .val (.ref b313), .val (.ref b413), .val (.ref b416), .val (.ref b421), .unset, .unset, .unset] [(.ref wREAD)])) (fun t k => st466 _ k) ?_
                    exact J219_426 T466 X466 e466 wREAD
                  · refine Ends.pre (T' := T425.setTop (mkF m 210 #[.val (.int x0), .val (.int x1), .val (.int x2), .val (.int (2 : Int32)), .val (.int (2 : Int32)), .val (.int (0 : Int32)), .val (.int f6), .val (.int f7), .val (.int u0), .val (.int u1), .val (.int v0), .val (.int v1), .val (.ref b313), .val (.ref b413), .val (.ref b416), .val (.ref b421), .unset, .unset, .unset] [])) (fun t k => XS.ifNo X425.here hx rfl (hb hby at_207) rfl (Jvm.Free.XT.i0_eq_f hc207_464) k) ?_
                    have F467 : Sta Z T425.heap "com/example/static_permission_checker/staticpermissionchecker/core/FlowConstraint$Access" "WRITE" "Lcom/example/static_permission_checker/staticpermissionchecker/core/FlowConstraint$Access;" (.ref wWRITE) := (Sta_keep0 S_WRITE K425)
                    obtain ⟨T468, X468, e468, st468⟩ := getS2 X425 hx hZ hown (host := "") (Or.inl (hw _ (List.mem_of_getElem? (i := 75) rfl))) Via.refl rfl F467 (g := (mkF m 210 #[.val (.int x0), .val (.int x1), .val (.int x2), .val (.int (2 : Int32)), .val (.int (2 : Int32)), .val (.int (0 : Int32)), .val (.int f6), .val (.int f7), .val (.int u0), .val (.int u1), .val (.int v0), .val (.int v1), .val (.ref b313), .val (.ref b413), .val (.ref b416), .val (.ref b421), .unset, .unset, .unset] [])) rfl (hb hby at_210)
                    refine Ends.pre (T' := T468.setTop (mkF m 213 #[.val (.int x0), .val (.int x1), .val (.int x2), .val (.int (2 : Int32)), .val (.int (2 : Int32)), .val (.int (0 : Int32)), .val (.int f6), .val (.int f7), .val (.int u0), .val (.int u1), .val (.int v0), .val (.int v1), .val (.ref b313), .val (.ref b413), .val (.ref b416), .val (.ref b421), .unset, .unset, .unset] [(.ref wWRITE)])) (fun t k => st468 _ k) ?_
                    refine Ends.pre (fun t k => XS.goto X468.here hx rfl (pc0 := 213) (pc' := 219) rfl (hb hby at_213) (by decide) (by decide) k) ?_
                    exact J219_426 T468 X468 e468 wWRITE
                · refine Ends.pre (fun t k => XS.iload X415.here hx rfl (hb hby at_174) rfl k) ?_
                  refine Ends.pre (T' := T415.setTop (mkF m 179 #[.val (.int x0), .val (.int x1), .val (.int x2), .val (.int (2 : Int32)), .val (.int (2 : Int32)), .val (.int (1 : Int32)), .val (.int f6), .val (.int f7), .val (.int u0), .val (.int u1), .val (.int v0), .val (.int v1), .val (.ref b313), .val (.ref b413), .unset, .unset, .unset, .unset, .unset] [])) (fun t k => XS.ifNo X415.here hx rfl (hb hby at_176) rfl (by decide) k) ?_
                  refine Ends.pre (fun t k => XS.aconstNull X415.here hx rfl (hb hby at_179) k) ?_
                  refine Ends.pre (fun t k => XS.goto X415.here hx rfl (pc0 := 180) (pc' := 192) rfl (hb hby at_180) (by decide) (by decide) k) ?_
                  refine Ends.pre (fun t k => XS.astore (g := (mkF m 192 #[.val (.int x0), .val (.int x1), .val (.int x2), .val (.int (2 : Int32)), .val (.int (2 : Int32)), .val (.int (1 : Int32)), .val (.int f6), .val (.int f7), .val (.int u0), .val (.int u1), .val (.int v0), .val (.int v1), .val (.ref b313), .val (.ref b413), .unset, .unset, .unset, .unset, .unset] [.null])) X415.here hx rfl (hb hby at_192) rfl rfl (l' := #[.val (.int x0), .val (.int x1), .val (.int x2), .val (.int (2 : Int32)), .val (.int (2 : Int32)), .val (.int (1 : Int32)), .val (.int f6), .val (.int f7), .val (.int u0), .val (.int u1), .val (.int v0), .val (.int v1), .val (.ref b313), .val (.ref b413), .val .null, .unset, .unset, .unset, .unset]) rfl k) ?_
                  obtain ⟨T469, h469, X469, e469, E469, A469, D469, -, st469⟩ := newO X415 hx hZ hown (hw _ (List.mem_of_getElem? (i := 1) rfl)) (hw _ (List.mem_of_getElem? (i := 2) rfl)) (hw _ (List.mem_of_getElem? (i := 3) rfl)) e415 (g := (mkF m 194 #[.val (.int x0), .val (.int x1), .val (.int x2), .val (.int (2 : Int32)), .val (.int (2 : Int32)), .val (.int (1 : Int32)), .val (.int f6), .val (.int f7), .val (.int u0), .val (.int u1), .val (.int v0), .val (.int v1), .val (.ref b313), .val (.ref b413), .val .null, .unset, .unset, .unset, .unset] [])) rfl (hb hby at_194) (by decide) (by decide)
                  obtain ⟨b469, g469⟩ : ∃ z, z = h415.size := ⟨_, rfl⟩
                  rw [← g469] at A469 D469 st469
                  have ge_b469 : n0 ≤ b469 := Nat.le_trans (Nat.le_trans (Nat.le_trans (Nat.le_trans (Nat.le_trans (Nat.le_trans (Nat.le_trans Z0 E313.1) (Keep.of_wr W314).1) (Keep.of_wr W315).1) E413.1) (Keep.of_wr W414).1) (Keep.of_wr W415).1) (Nat.le_of_eq g469.symm)
                  have sz_b469 : h0.size ≤ b469 := Nat.le_trans K415.1 (Nat.le_of_eq g469.symm)
                  have CR469 := CHr.trans CR415 (CHr.ext E469 CR415.1)
                  have K469 : Keep h0 h469 [] := K415.ext E469
                  have Fd469_coder : Fld Z h469 b469 "java/lang/String" "coder" "B" (.int (0 : Int32)) := D469 (Or.inr (hw _ (List.mem_of_getElem? (i := 27) rfl))) (ty := .byte) (by decide)
                  have Fd469_value : Fld Z h469 b469 "java/lang/String" "value" "[B" .null := D469 (Or.inr (hw _ (List.mem_of_getElem? (i := 29) rfl))) (ty := (.array .byte)) (by decide)
                  refine Ends.pre (T' := T469.setTop (mkF m 197 #[.val (.int x0), .val (.int x1), .val (.int x2), .val (.int (2 : Int32)), .val (.int (2 : Int32)), .val (.int (1 : Int32)), .val (.int f6), .val (.int f7), .val (.int u0), .val (.int u1), .val (.int v0), .val (.int v1), .val (.ref b313), .val (.ref b413), .val .null, .unset, .unset, .unset, .unset] [(.ref b469)])) (fun t k => st469 _ k) ?_
                  refine Ends.pre (fun t k => XS.dup X469.here hx rfl (hb hby at_197) rfl rfl k) ?_
                  refine Ends.pre (fun t k => XS.aload X469.here hx rfl (hb hby at_198) rfl rfl k) ?_
                  have hp470 : ∀ c ∈ ([v0, v1] : List Int32), ¬ c < 0 ∧ ¬ (255 : Int32) < c := (own_alS cv0 (own_alS cv1 own_al0))
                  have hbd470 := own_up _ hp470
                  have F471 : Arv Z h469 b413 k413 .char (2 : Int32) [(.int v0), (.int v1)] (.int (0 : Int32)) := (Arv.ext V415 E469)
                  have F472 : Sta Z h469 "java/lang/String" "COMPACT_STRINGS" "Z" (.int cz) := (Sta_keep0 SCS K469)
                  obtain ⟨_, _, ⟨T473, L473, k473, n473⟩, -, X473, ⟨Lc473, hQ473, l473, y473, z473⟩, st473⟩ := X469.specialBack hx (y := (⟨"java/lang/String", "<init>", "([C)V"⟩ : MethodName)) rfl hown (mvT hZ (hw _ (List.mem_of_getElem? (i := 4) rfl))) (mvT hZ (hw _ (List.mem_of_getElem? (i := 5) rfl))) (mvT hZ (hw _ (List.mem_of_getElem? (i := 6) rfl))) (by decide) (StrChars.Road.backV (W := 1) hZ (own_hws hw) (kI := 4) (hw _ (List.mem_of_getElem? (i := 2) rfl)) (cs := ([v0, v1] : List Int32)) (bs := (([v0, v1] : List Int32).map (fun c => c.toInt8.toInt32))) (n := 2) ge_b469 (Nat.le_trans (Nat.le_trans (Nat.le_trans (Nat.le_trans (Nat.le_trans (Nat.le_trans (Nat.le_trans Z0 E313.1) (Keep.of_wr W314).1) (Keep.of_wr W315).1) E413.1) (Keep.of_wr W414).1) (Keep.of_wr W415).1) E469.1) A469 Fd469_value Fd469_coder F471 F472 hcz rfl rfl (by decide) (by decide) hp470 rfl (by decide) (by decide)) (g := (mkF m 200 #[.val (.int x0), .val (.int x1), .val (.int x2), .val (.int (2 : Int32)), .val (.int (2 : Int32)), .val (.int (1 : Int32)), .val (.int f6), .val (.int f7), .val (.int u0), .val (.int u1), .val (.int v0), .val (.int v1), .val (.ref b313), .val (.ref b413), .val .null, .unset, .unset, .unset, .unset] [(.ref b413), (.ref b469), (.ref b469)])) rfl (by rw [hml]; rfl) (Steps.refl _) (a := b469) (argsL := [(.ref b413)]) (rest := [(.ref b469)]) (lenOf pd_4 rfl) rfl (by show 2 * 0 + _ ≤ _; exact Nat.le_of_eq rfl) (hb hby at_200) (fun _ _ => ⟨rfl, e469, (by decide : 3 + 1 ≤ _), (by decide : 8 + 2 ≤ _)⟩)
                  dsimp only [Pt.U, Pt.locs, Pt.cells, Pt.slots] at X473 l473 y473 z473 st473 hQ473
                  subst l473 y473 z473
                  obtain ⟨rfl, N473q, Kc473, Es473, Cs473, t473, kb473, gt473, ft473, nt473, Vs473, As473⟩ := hQ473
                  have N473 := Fr.app N415 N473q
                  have K473 : Keep h0 T473.heap [] := K469.trans Kc473 (allS (Or.inr sz_b469) all0)
                  have CR473 := CHr.trans CR469 (CHr.keep Kc473 (sfS (Safe.ext E469 CR415.1 (Safe.new (Nat.le_of_eq g469.symm))) sf0) CR469.1)
                  have hcd473 : StrChars.Road.CodA ([v0, v1] : List Int32) 0 (2 : Int32) ((([v0, v1] : List Int32).map (fun c => c.toInt8.toInt32)).map Value.int) := StrChars.Road.codOf (n := 2) rfl (fun c hc => (hp470 c hc).2)
                  refine Ends.pre (T' := T473.setTop (mkF m 203 #[.val (.int x0), .val (.int x1), .val (.int x2), .val (.int (2 : Int32)), .val (.int (2 : Int32)), .val (.int (1 : Int32)), .val (.int f6), .val (.int f7), .val (.int u0), .val (.int u1), .val (.int v0), .val (.int v1), .val (.ref b313), .val (.ref b413), .val .null, .unset, .unset, .unset, .unset] [(.ref b469)])) (fun t k => st473.trans k) ?_
                  refine Ends.pre (fun t k => XS.astore (g := (mkF m 203 #[.val (.int x0), .val (.int x1), .val (.int x2), .val (.int (2 : Int32)), .val (.int (2 : Int32)), .val (.int (1 : Int32)), .val (.int f6), .val (.int f7), .val (.int u0), .val (.int u1), .val (.int v0), .val (.int v1), .val (.ref b313), .val (.ref b413), .val .null, .unset, .unset, .unset, .unset] [(.ref b469)])) X473.here hx rfl (hb hby at_203) rfl rfl (l' := #[.val (.int x0), .val (.int x1), .val (.int x2), .val (.int (2 : Int32)), .val (.int (2 : Int32)), .val (.int (1 : Int32)), .val (.int f6), .val (.int f7), .val (.int u0), .val (.int u1), .val (.int v0), .val (.int v1), .val (.ref b313), .val (.ref b413), .val .null, .val (.ref b469), .unset, .unset, .unset]) rfl k) ?_
                  have J219_474 : ∀ (TJ474 : State) (XJ474 : SS X473 TJ474) (eJ474 : TJ474.heap = T473.heap) (ac : Addr), Jvm.RoadKit.Ends p e below (EndW s room_1 Z consts_1 (Q_rm0 Z x0 x1 x2 wREAD wWRITE cz fm h0 n0)) (TJ474.setTop (mkF m 219 #[.val (.int x0), .val (.int x1), .val (.int x2), .val (.int (2 : Int32)), .val (.int (2 : Int32)), .val (.int (1 : Int32)), .val (.int f6), .val (.int f7), .val (.int u0), .val (.int u1), .val (.int v0), .val (.int v1), .val (.ref b313), .val (.ref b413), .val .null, .val (.ref b469), .unset, .unset, .unset] [(.ref ac)])) := by
                    intro TJ474 XJ474 eJ474 ac
                    unfold SS at XJ474
                    refine Ends.pre (fun t k => XS.astore (g := (mkF m 219 #[.val (.int x0), .val (.int x1), .val (.int x2), .val (.int (2 : Int32)), .val (.int (2 : Int32)), .val (.int (1 : Int32)), .val (.int f6), .val (.int f7), .val (.int u0), .val (.int u1), .val (.int v0), .val (.int v1), .val (.ref b313), .val (.ref b413), .val .null, .val (.ref b469), .unset, .unset, .unset] [(.ref ac)])) XJ474.here hx rfl (hb hby at_219) rfl rfl (l' := #[.val (.int x0), .val (.int x1), .val (.int x2), .val (.int (2 : Int32)), .val (.int (2 : Int32)), .val (.int (1 : Int32)), .val (.int f6), .val (.int f7), .val (.int u0), .val (.int u1), .val (.int v0), .val (.int v1), .val (.ref b313), .val (.ref b413), .val .null, .val (.ref b469), .val (.ref ac), .unset, .unset]) rfl k) ?_
                    obtain ⟨T475, h475, X475, e475, E475, A475, D475, -, st475⟩ := newO XJ474 hx hZ hown (hw _ (List.mem_of_getElem? (i := 36) rfl)) (hw _ (List.mem_of_getElem? (i := 37) rfl)) (hw _ (List.mem_of_getElem? (i := 38) rfl)) eJ474 (g := (mkF m 221 #[.val (.int x0), .val (.int x1), .val (.int x2), .val (.int (2 : Int32)), .val (.int (2 : Int32)), .val (.int (1 : Int32)), .val (.int f6), .val (.int f7), .val (.int u0), .val (.int u1), .val (.int v0), .val (.int v1), .val (.ref b313), .val (.ref b413), .val .null, .val (.ref b469), .val (.ref ac), .unset, .unset] [])) rfl (hb hby at_221) (by decide) (by decide)
                    obtain ⟨b475, g475⟩ : ∃ z, z = T473.heap.size := ⟨_, rfl⟩
                    rw [← g475] at A475 D475 st475
                    have ge_b475 : n0 ≤ b475 := Nat.le_trans (Nat.le_trans (Nat.le_trans (Nat.le_trans (Nat.le_trans (Nat.le_trans (Nat.le_trans (Nat.le_trans (Nat.le_trans Z0 E313.1) (Keep.of_wr W314).1) (Keep.of_wr W315).1) E413.1) (Keep.of_wr W414).1) (Keep.of_wr W415).1) E469.1) Kc473.1) (Nat.le_of_eq g475.symm)
                    have sz_b475 : h0.size ≤ b475 := Nat.le_trans K473.1 (Nat.le_of_eq g475.symm)
                    have CR475 := CHr.trans CR473 (CHr.ext E475 CR473.1)
                    have K475 : Keep h0 h475 [] := K473.ext E475
                    have Fd475_holder : Fld Z h475 b475 "com/example/static_permission_checker/staticpermissionchecker/core/FlowConstraint" "holder" "Ljava/lang/String;" .null := D475 (Or.inr (hw _ (List.mem_of_getElem? (i := 55) rfl))) (ty := (.object "java/lang/String")) (by decide)
                    have Fd475_access : Fld Z h475 b475 "com/example/static_permission_checker/staticpermissionchecker/core/FlowConstraint" "access" "Lcom/example/static_permission_checker/staticpermissionchecker/core/FlowConstraint$Access;" .null := D475 (Or.inr (hw _ (List.mem_of_getElem? (i := 57) rfl))) (ty := (.object "com/example/static_permission_checker/staticpermissionchecker/core/FlowConstraint$Access")) (by decide)
                    have Fd475_guard : Fld Z h475 b475 "com/example/static_permission_checker/staticpermissionchecker/core/FlowConstraint" "guard" "Ljava/lang/String;" .null := D475 (Or.inr (hw _ (List.mem_of_getElem? (i := 59) rfl))) (ty := (.object "java/lang/String")) (by decide)
                    refine Ends.pre (T' := T475.setTop (mkF m 224 #[.val (.int x0), .val (.int x1), .val (.int x2), .val (.int (2 : Int32)), .val (.int (2 : Int32)), .val (.int (1 : Int32)), .val (.int f6), .val (.int f7), .val (.int u0), .val (.int u1), .val (.int v0), .val (.int v1), .val (.ref b313), .val (.ref b413), .val .null, .val (.ref b469), .val (.ref ac), .unset, .unset] [(.ref b475)])) (fun t k => st475 _ k) ?_
                    refine Ends.pre (fun t k => XS.dup X475.here hx rfl (hb hby at_224) rfl rfl k) ?_
                    refine Ends.pre (fun t k => XS.aload X475.here hx rfl (hb hby at_225) rfl rfl k) ?_
                    refine Ends.pre (fun t k => XS.aload X475.here hx rfl (hb hby at_227) rfl rfl k) ?_
                    refine Ends.pre (fun t k => XS.aload X475.here hx rfl (hb hby at_229) rfl rfl k) ?_
                    obtain ⟨_, _, ⟨T476, L476, k476, n476⟩, -, Xa476, hSa476, ga476, ⟨Lc476, hQ476, l476, y476, z476, CRc476⟩, st476⟩ := X475.specialBackS hx (y := (⟨"com/example/static_permission_checker/staticpermissionchecker/core/FlowConstraint", "<init>", "(Ljava/lang/String;Lcom/example/static_permission_checker/staticpermissionchecker/core/FlowConstraint$Access;Ljava/lang/String;)V"⟩ : MethodName)) rfl hown (mvT hZ (hw _ (List.mem_of_getElem? (i := 39) rfl))) (mvT hZ (hw _ (List.mem_of_getElem? (i := 40) rfl))) (mvT hZ (hw _ (List.mem_of_getElem? (i := 41) rfl))) (by decide) (backOfSH (W := 1) (rm7n l Z a0 hw [] b475 ac b469 h475 n0 (Nat.le_trans (Nat.le_trans (Nat.le_trans (Nat.le_trans (Nat.le_trans (Nat.le_trans (Nat.le_trans (Nat.le_trans (Nat.le_trans Z0 E313.1) (Keep.of_wr W314).1) (Keep.of_wr W315).1) E413.1) (Keep.of_wr W414).1) (Keep.of_wr W415).1) E469.1) Kc473.1) E475.1) A475 ge_b475 Fd475_holder Fd475_access Fd475_guard) hZ (hw _ (List.mem_of_getElem? (i := 41) rfl)) (hw _ (List.mem_of_getElem? (i := 38) rfl)) (by decide) (by decide) hEL CR475.1) (g := (mkF m 231 #[.val (.int x0), .val (.int x1), .val (.int x2), .val (.int (2 : Int32)), .val (.int (2 : Int32)), .val (.int (1 : Int32)), .val (.int f6), .val (.int f7), .val (.int u0), .val (.int u1), .val (.int v0), .val (.int v1), .val (.ref b313), .val (.ref b413), .val .null, .val (.ref b469), .val (.ref ac), .unset, .unset] [(.ref b469), (.ref ac), .null, (.ref b475), (.ref b475)])) rfl (by rw [hml]; rfl) (Steps.refl _) (a := b475) (argsL := [.null, (.ref ac), (.ref b469)]) (rest := [(.ref b475)]) (lenOf pd_5 rfl) rfl (by show 2 * 0 + _ ≤ _; exact Nat.le_of_eq rfl) (hb hby at_231) (fun _ _ => ⟨rfl, e475, (by decide : 5 + 4 ≤ _), (by decide : 13 + 52 ≤ _)⟩)
                    dsimp only [Pt.U, Pt.locs, Pt.cells, Pt.slots] at Xa476 hSa476 ga476 l476 y476 z476 st476 hQ476 CRc476
                    subst l476 y476 z476
                    obtain ⟨X476, hS476, hZ476, hown476⟩ := rebS hS0 (n1 := T475.heap.size) (by rw [e475]; exact (Nat.le_trans (Nat.le_trans (Nat.le_trans (Nat.le_trans (Nat.le_trans (Nat.le_trans (Nat.le_trans (Nat.le_trans (Nat.le_trans hk0 E313.1) (Keep.of_wr W314).1) (Keep.of_wr W315).1) E413.1) (Keep.of_wr W414).1) (Keep.of_wr W415).1) E469.1) Kc473.1) E475.1)) Xa476 hSa476 ga476 hZ hown
                    obtain ⟨rfl, N476q, Kc476, Ec476, Fh476, Fg476⟩ := hQ476
                    have N476 := Fr.app N473 N476q
                    have K476 : Keep h0 T476.heap [] := K475.trans Kc476 (allS (Or.inr sz_b475) all0)
                    have CR476 := CHr.trans CR475 CRc476
                    refine Ends.pre (T' := T476.setTop (mkF m 234 #[.val (.int x0), .val (.int x1), .val (.int x2), .val (.int (2 : Int32)), .val (.int (2 : Int32)), .val (.int (1 : Int32)), .val (.int f6), .val (.int f7), .val (.int u0), .val (.int u1), .val (.int v0), .val (.int v1), .val (.ref b313), .val (.ref b413), .val .null, .val (.ref b469), .val (.ref ac), .unset, .unset] [(.ref b475)])) (fun t k => st476.trans k) ?_
                    refine Ends.pre (fun t k => XS.astore (g := (mkF m 234 #[.val (.int x0), .val (.int x1), .val (.int x2), .val (.int (2 : Int32)), .val (.int (2 : Int32)), .val (.int (1 : Int32)), .val (.int f6), .val (.int f7), .val (.int u0), .val (.int u1), .val (.int v0), .val (.int v1), .val (.ref b313), .val (.ref b413), .val .null, .val (.ref b469), .val (.ref ac), .unset, .unset] [(.ref b475)])) X476.here hx rfl (hb hby at_234) rfl rfl (l' := #[.val (.int x0), .val (.int x1), .val (.int x2), .val (.int (2 : Int32)), .val (.int (2 : Int32)), .val (.int (1 : Int32)), .val (.int f6), .val (.int f7), .val (.int u0), .val (.int u1), .val (.int v0), .val (.int v1), .val (.ref b313), .val (.ref b413), .val .null, .val (.ref b469), .val (.ref ac), .val (.ref b475), .unset]) rfl k) ?_
                    refine Ends.pre (fun t k => XS.iload X476.here hx rfl (hb hby at_236) rfl k) ?_
                    refine Ends.pre (T' := T476.setTop (mkF m 275 #[.val (.int x0), .val (.int x1), .val (.int x2), .val (.int (2 : Int32)), .val (.int (2 : Int32)), .val (.int (1 : Int32)), .val (.int f6), .val (.int f7), .val (.int u0), .val (.int u1), .val (.int v0), .val (.int v1), .val (.ref b313), .val (.ref b413), .val .null, .val (.ref b469), .val (.ref ac), .val (.ref b475), .unset] [])) (fun t k => XS.ifYes X476.here hx rfl (pc0 := 238) (pc' := 275) rfl (hb hby at_238) rfl (by decide) (by decide) (by decide) k) ?_
                    refine Ends.pre (fun t k => XS.iconst X476.here hx rfl (hb hby at_275) k) ?_
                    refine Ends.pre (fun t k => XS.istore (g := (mkF m 276 #[.val (.int x0), .val (.int x1), .val (.int x2), .val (.int (2 : Int32)), .val (.int (2 : Int32)), .val (.int (1 : Int32)), .val (.int f6), .val (.int f7), .val (.int u0), .val (.int u1), .val (.int v0), .val (.int v1), .val (.ref b313), .val (.ref b413), .val .null, .val (.ref b469), .val (.ref ac), .val (.ref b475), .unset] [(.int (0 : Int32))])) X476.here hx rfl (hb hby at_276) rfl (l' := #[.val (.int x0), .val (.int x1), .val (.int x2), .val (.int (2 : Int32)), .val (.int (2 : Int32)), .val (.int (1 : Int32)), .val (.int f6), .val (.int f7), .val (.int u0), .val (.int u1), .val (.int v0), .val (.int v1), .val (.ref b313), .val (.ref b413), .val .null, .val (.ref b469), .val (.ref ac), .val (.ref b475), .val (.int (0 : Int32))]) rfl k) ?_
                    refine Ends.pre (fun t k => XS.aload X476.here hx rfl (hb hby at_278) rfl rfl k) ?_
                    have F477 : Exa Z T476.heap b469 "java/lang/String" := ((Es473.ext E475).keep Kc476)
                    have F478 : Fld Z T476.heap b469 "java/lang/String" "value" "[B" (.ref t473) := ((Vs473.ext E475).keep Kc476 (ninS (Nat.ne_of_lt (Nat.lt_of_lt_of_le (Nat.lt_of_lt_of_le A469.lt Kc473.1) (Nat.le_of_eq g475.symm))) nin0))
                    have F479 : Fld Z T476.heap b469 "java/lang/String" "coder" "B" (.int 0) := ((Cs473.ext E475).keep Kc476 (ninS (Nat.ne_of_lt (Nat.lt_of_lt_of_le (Nat.lt_of_lt_of_le A469.lt Kc473.1) (Nat.le_of_eq g475.symm))) nin0))
                    have F480 : Arv Z T476.heap t473 kb473 .byte (2 : Int32) ((([v0, v1] : List Int32).map (fun c => c.toInt8.toInt32)).map Value.int) (.int 0) := ((Arv.ext As473 E475).keep Kc476 (ninS (Nat.ne_of_lt (Nat.lt_of_lt_of_le As473.lt (Nat.le_of_eq g475.symm))) nin0))
                    have F481 : Sta Z T476.heap "java/lang/String" "COMPACT_STRINGS" "Z" (.int cz) := (Sta_keep0 SCS K476)
                    have F482 : Sta Z T476.heap "jdk/internal/util/Preconditions" "SIOOBE_FORMATTER" "Ljava/util/function/BiFunction;" fm := (Sta_keep0 SFM K476)
                    obtain ⟨cq483, kq483, q483a, q483b, q483c⟩ := isOf hZ476 rfl Ec476
                    obtain ⟨_, _, ⟨T483, L483, k483, n483⟩, -, X483, ⟨Lc483, hQ483, l483, y483, z483⟩, st483⟩ := X476.virtualBack hx (y := (⟨"com/example/static_permission_checker/staticpermissionchecker/core/FlowConstraint", "holds", "()Z"⟩ : MethodName)) (z := (⟨"com/example/static_permission_checker/staticpermissionchecker/core/FlowConstraint", "holds", "()Z"⟩ : MethodName)) hown476 (mvT hZ476 (hw _ (List.mem_of_getElem? (i := 60) rfl))) (mvT hZ476 (hw _ (List.mem_of_getElem? (i := 61) rfl))) (notFace_of_selects (args := #[]) (mvT hZ476 (hw _ (List.mem_of_getElem? (i := 63) rfl)))) (mvT hZ476 (hw _ (List.mem_of_getElem? (i := 63) rfl))) (mvT hZ476 (hw _ (List.mem_of_getElem? (i := 62) rfl))) (by decide) (backOf (W := 0) (rm10n l Z a0 hw [] b475 b469 t473 kb473 ([v0, v1] : List Int32) (2 : Int32) _  cz fm T476.heap n0 (Nat.le_trans (Nat.le_trans (Nat.le_trans (Nat.le_trans (Nat.le_trans (Nat.le_trans (Nat.le_trans (Nat.le_trans (Nat.le_trans (Nat.le_trans Z0 E313.1) (Keep.of_wr W314).1) (Keep.of_wr W315).1) E413.1) (Keep.of_wr W414).1) (Keep.of_wr W415).1) E469.1) Kc473.1) E475.1) Kc476.1) F477 F479 F478 F480 hcd473 hbd470 (Nat.le_of_ble_eq_true rfl)  Fh476 Fg476 F481 hcz F482 hfm ) hZ476 (hw _ (List.mem_of_getElem? (i := 64) rfl)) (hw _ (List.mem_of_getElem? (i := 38) rfl)) (by decide) (by decide)) q483a q483c (g := (mkF m 280 #[.val (.int x0), .val (.int x1), .val (.int x2), .val (.int (2 : Int32)), .val (.int (2 : Int32)), .val (.int (1 : Int32)), .val (.int f6), .val (.int f7), .val (.int u0), .val (.int u1), .val (.int v0), .val (.int v1), .val (.ref b313), .val (.ref b413), .val .null, .val (.ref b469), .val (.ref ac), .val (.ref b475), .val (.int (0 : Int32))] [(.ref b475)])) rfl (by rw [hml]; rfl) (Steps.refl _) (argsL := []) (rest := []) (lenOf pd_6 rfl) rfl (by show 2 * 0 + _ ≤ _; exact Nat.le_of_eq rfl) (hb hby at_280) (fun _ _ => ⟨rfl, rfl, (by decide : 9 + 0 ≤ _), (by decide : 65 + 0 ≤ _)⟩)
                    dsimp only [Pt.U, Pt.locs, Pt.cells, Pt.slots] at X483 l483 y483 z483 st483 hQ483
                    subst l483 y483 z483
                    obtain ⟨rfl, N483q, eh483⟩ := hQ483
                    have N483 := Fr.app N476 N483q
                    refine Ends.pre (T' := T483.setTop (mkF m 283 #[.val (.int x0), .val (.int x1), .val (.int x2), .val (.int (2 : Int32)), .val (.int (2 : Int32)), .val (.int (1 : Int32)), .val (.int f6), .val (.int f7), .val (.int u0), .val (.int u1), .val (.int v0), .val (.int v1), .val (.ref b313), .val (.ref b413), .val .null, .val (.ref b469), .val (.ref ac), .val (.ref b475), .val (.int (0 : Int32))] [(.int (0 : Int32))])) (fun t k => st483.trans k) ?_
                    refine Ends.pre (fun t k => XS.iload X483.here hx rfl (hb hby at_283) rfl k) ?_
                    refine Ends.pre (T' := T483.setTop (mkF m 288 #[.val (.int x0), .val (.int x1), .val (.int x2), .val (.int (2 : Int32)), .val (.int (2 : Int32)), .val (.int (1 : Int32)), .val (.int f6), .val (.int f7), .val (.int u0), .val (.int u1), .val (.int v0), .val (.int v1), .val (.ref b313), .val (.ref b413), .val .null, .val (.ref b469), .val (.ref ac), .val (.ref b475), .val (.int (0 : Int32))] [])) (fun t k => XS.icmpNo X483.here hx rfl (hb hby at_285) rfl (by decide) k) ?_
                    refine Ends.pre (fun t k => XS.iconst X483.here hx rfl (hb hby at_288) k) ?_
                    refine Ends.pre (fun t k => XS.goto X483.here hx rfl (pc0 := 289) (pc' := 293) rfl (hb hby at_289) (by decide) (by decide) k) ?_
                    exact Ends.retW (w := (.int (1 : Int32))) X483 hx Bd.notSynchronized Bd.returns rfl (Or.inl ⟨rfl, Or.inr (Or.inl rfl), _, rfl⟩) (hb hby at_293) eh483 hZ476 hEL hS476 (Nat.le_refl _) hh CR476 ⟨rfl, N483⟩ (by decide) (by decide)
                  refine Ends.pre (fun t k => XS.iload X473.here hx rfl (hb hby at_205) rfl k) ?_
                  by_cases hc207_484 : f7 = 0
                  · refine Ends.pre (T' := T473.setTop (mkF m 216 #[.val (.int x0), .val (.int x1), .val (.int x2), .val (.int (2 : Int32)), .val (.int (2 : Int32)), .val (.int (1 : Int32)), .val (.int f6), .val (.int f7), .val (.int u0), .val (.int u1), .val (.int v0), .val (.int v1), .val (.ref b313), .val (.ref b413), .val .null, .val (.ref b469), .unset, .unset, .unset] [])) (fun t k => XS.ifYes X473.here hx rfl (pc0 := 207) (pc' := 216) rfl (hb hby at_207) rfl (Jvm.Free.XT.i0_eq_t hc207_484) (by decide) (by decide) k) ?_
                    have F485 : Sta Z T473.heap "com/example/static_permission_checker/staticpermissionchecker/core/FlowConstraint$Access" "READ" "Lcom/example/static_permission_checker/staticpermissionchecker/core/FlowConstraint$Access;" (.ref wREAD) := (Sta_keep0 S_READ K473)
                    obtain ⟨T486, X486, e486, st486⟩ := getS2 X473 hx hZ hown (host := "") (Or.inl (hw _ (List.mem_of_getElem? (i := 33) rfl))) Via.refl rfl F485 (g := (mkF m 216 #[.val (.int x0), .val (.int x1), .val (.int x2), .val (.int (2 : Int32)), .val (.int (2 : Int32)), .val (.int (1 : Int32)), .val (.int f6), .val (.int f7), .val (.int u0), .val (.int u1), .val (.int v0), .val (.int v1), .val (.ref b313), .val (.ref b413), .val .null, .val (.ref b469), .unset, .unset, .unset] [])) rfl (hb hby at_216)
                    refine Ends.pre (T' := T486.setTop (mkF m 219 #[.val (.int x0), .val (.int x1), .val (.int x2), .val (.int (2 : Int32)), .val (.int (2 : Int32)), .val (.int (1 : Int32)), .val (.int f6), .val (.int f7), .val (.int u0), .val (.int u1), .val (.int v0), .val (.int v1), .val (.ref b313), .val (.ref b413), .val .null, .val (.ref b469), .unset, .unset, .unset] [(.ref wREAD)])) (fun t k => st486 _ k) ?_
                    exact J219_474 T486 X486 e486 wREAD
                  · refine Ends.pre (T' := T473.setTop (mkF m 210 #[.val (.int x0), .val (.int x1), .val (.int x2), .val (.int (2 : Int32)), .val (.int (2 : Int32)), .val (.int (1 : Int32)), .val (.int f6), .val (.int f7), .val (.int u0), .val (.int u1), .val (.int v0), .val (.int v1), .val (.ref b313), .val (.ref b413), .val .null, .val (.ref b469), .unset, .unset, .unset] [])) (fun t k => XS.ifNo X473.here hx rfl (hb hby at_207) rfl (Jvm.Free.XT.i0_eq_f hc207_484) k) ?_
                    have F487 : Sta Z T473.heap "com/example/static_permission_checker/staticpermissionchecker/core/FlowConstraint$Access" "WRITE" "Lcom/example/static_permission_checker/staticpermissionchecker/core/FlowConstraint$Access;" (.ref wWRITE) := (Sta_keep0 S_WRITE K473)
                    obtain ⟨T488, X488, e488, st488⟩ := getS2 X473 hx hZ hown (host := "") (Or.inl (hw _ (List.mem_of_getElem? (i := 75) rfl))) Via.refl rfl F487 (g := (mkF m 210 #[.val (.int x0), .val (.int x1), .val (.int x2), .val (.int (2 : Int32)), .val (.int (2 : Int32)), .val (.int (1 : Int32)), .val (.int f6), .val (.int f7), .val (.int u0), .val (.int u1), .val (.int v0), .val (.int v1), .val (.ref b313), .val (.ref b413), .val .null, .val (.ref b469), .unset, .unset, .unset] [])) rfl (hb hby at_210)
                    refine Ends.pre (T' := T488.setTop (mkF m 213 #[.val (.int x0), .val (.int x1), .val (.int x2), .val (.int (2 : Int32)), .val (.int (2 : Int32)), .val (.int (1 : Int32)), .val (.int f6), .val (.int f7), .val (.int u0), .val (.int u1), .val (.int v0), .val (.int v1), .val (.ref b313), .val (.ref b413), .val .null, .val (.ref b469), .unset, .unset, .unset] [(.ref wWRITE)])) (fun t k => st488 _ k) ?_
                    refine Ends.pre (fun t k => XS.goto X488.here hx rfl (pc0 := 213) (pc' := 219) rfl (hb hby at_213) (by decide) (by decide) k) ?_
                    exact J219_474 T488 X488 e488 wWRITE
          refine Ends.pre (T' := s₁.setTop (mkF m 100 #[.val (.int x0), .val (.int x1), .val (.int x2), .val (.int hl), .val (.int gl), .val (.int f5), .val (.int f6), .val (.int f7), .val (.int u0), .val (.int u1), .val (.int v0), .unset, .unset, .unset, .unset, .unset, .unset, .unset, .unset] [(.int f6)])) (fun t k => XS.iload X0.here hx rfl (hb hby at_98) rfl k) ?_
          by_cases hc100_489 : f6 = 0
          · refine Ends.pre (T' := s₁.setTop (mkF m 108 #[.val (.int x0), .val (.int x1), .val (.int x2), .val (.int hl), .val (.int gl), .val (.int f5), .val (.int f6), .val (.int f7), .val (.int u0), .val (.int u1), .val (.int v0), .unset, .unset, .unset, .unset, .unset, .unset, .unset, .unset] [])) (fun t k => XS.ifYes X0.here hx rfl (pc0 := 100) (pc' := 108) rfl (hb hby at_100) rfl (Jvm.Free.XT.i0_eq_t hc100_489) (by decide) (by decide) k) ?_
            refine Ends.pre (fun t k => XS.iloadN X0.here hx rfl (hb hby at_108) rfl k) ?_
            refine Ends.pre (fun t k => XS.bipush X0.here hx rfl (hb hby at_109) k) ?_
            refine Ends.pre (fun t k => XS.iushr X0.here hx rfl (hb hby at_111) rfl k) ?_
            refine Ends.pre (fun t k => XS.sipush X0.here hx rfl (hb hby at_112) k) ?_
            refine Ends.pre (fun t k => XS.iand X0.here hx rfl (hb hby at_115) rfl k) ?_
            refine Ends.pre (T' := s₁.setTop (mkF m 117 #[.val (.int x0), .val (.int x1), .val (.int x2), .val (.int hl), .val (.int gl), .val (.int f5), .val (.int f6), .val (.int f7), .val (.int u0), .val (.int u1), .val (.int v0), .unset, .unset, .unset, .unset, .unset, .unset, .unset, .unset] [(.int ((((x1.toUInt32 >>> ((8 : Int32) &&& 31).toUInt32).toInt32) &&& (255 : Int32)).toUInt32.toUInt16.toUInt32.toInt32))])) (fun t k => XS.i2c X0.here hx rfl (hb hby at_116) rfl k) ?_
            exact J117_5 ((((x1.toUInt32 >>> ((8 : Int32) &&& 31).toUInt32).toInt32) &&& (255 : Int32)).toUInt32.toUInt16.toUInt32.toInt32) (own_ci (own_and255 _))
          · refine Ends.pre (T' := s₁.setTop (mkF m 103 #[.val (.int x0), .val (.int x1), .val (.int x2), .val (.int hl), .val (.int gl), .val (.int f5), .val (.int f6), .val (.int f7), .val (.int u0), .val (.int u1), .val (.int v0), .unset, .unset, .unset, .unset, .unset, .unset, .unset, .unset] [])) (fun t k => XS.ifNo X0.here hx rfl (hb hby at_100) rfl (Jvm.Free.XT.i0_eq_f hc100_489) k) ?_
            refine Ends.pre (fun t k => XS.iload X0.here hx rfl (hb hby at_103) rfl k) ?_
            refine Ends.pre (fun t k => XS.goto X0.here hx rfl (pc0 := 105) (pc' := 117) rfl (hb hby at_105) (by decide) (by decide) k) ?_
            exact J117_5 u1 cu1
        refine Ends.pre (fun t k => XS.iload X0.here hx rfl (hb hby at_80) rfl k) ?_
        by_cases hc82_490 : f6 = 0
        · refine Ends.pre (T' := s₁.setTop (mkF m 90 #[.val (.int x0), .val (.int x1), .val (.int x2), .val (.int hl), .val (.int gl), .val (.int f5), .val (.int f6), .val (.int f7), .val (.int u0), .val (.int u1), .unset, .unset, .unset, .unset, .unset, .unset, .unset, .unset, .unset] [])) (fun t k => XS.ifYes X0.here hx rfl (pc0 := 82) (pc' := 90) rfl (hb hby at_82) rfl (Jvm.Free.XT.i0_eq_t hc82_490) (by decide) (by decide) k) ?_
          refine Ends.pre (fun t k => XS.iloadN X0.here hx rfl (hb hby at_90) rfl k) ?_
          refine Ends.pre (fun t k => XS.sipush X0.here hx rfl (hb hby at_91) k) ?_
          refine Ends.pre (fun t k => XS.iand X0.here hx rfl (hb hby at_94) rfl k) ?_
          refine Ends.pre (fun t k => XS.i2c X0.here hx rfl (hb hby at_95) rfl k) ?_
          exact J96_4 ((x1 &&& (255 : Int32)).toUInt32.toUInt16.toUInt32.toInt32) (own_ci (own_and255 _))
        · refine Ends.pre (T' := s₁.setTop (mkF m 85 #[.val (.int x0), .val (.int x1), .val (.int x2), .val (.int hl), .val (.int gl), .val (.int f5), .val (.int f6), .val (.int f7), .val (.int u0), .val (.int u1), .unset, .unset, .unset, .unset, .unset, .unset, .unset, .unset, .unset] [])) (fun t k => XS.ifNo X0.here hx rfl (hb hby at_82) rfl (Jvm.Free.XT.i0_eq_f hc82_490) k) ?_
          refine Ends.pre (fun t k => XS.iload X0.here hx rfl (hb hby at_85) rfl k) ?_
          refine Ends.pre (fun t k => XS.goto X0.here hx rfl (pc0 := 87) (pc' := 96) rfl (hb hby at_87) (by decide) (by decide) k) ?_
          exact J96_4 u0 cu0
      refine Ends.pre (fun t k => XS.iloadN X0.here hx rfl (hb hby at_45) rfl k) ?_
      refine Ends.pre (fun t k => XS.bipush X0.here hx rfl (hb hby at_46) k) ?_
      refine Ends.pre (T' := s₁.setTop (mkF m 49 #[.val (.int x0), .val (.int x1), .val (.int x2), .val (.int hl), .val (.int gl), .val (.int f5), .val (.int f6), .unset, .unset, .unset, .unset, .unset, .unset, .unset, .unset, .unset, .unset, .unset, .unset] [(.int ((x2.toUInt32 >>> ((6 : Int32) &&& 31).toUInt32).toInt32))])) (fun t k => XS.iushr X0.here hx rfl (hb hby at_48) rfl k) ?_
      refine Ends.pre (fun t k => XS.iconst X0.here hx rfl (hb hby at_49) k) ?_
      refine Ends.pre (fun t k => XS.iand X0.here hx rfl (hb hby at_50) rfl k) ?_
      by_cases hc51_491 : (((x2.toUInt32 >>> ((6 : Int32) &&& 31).toUInt32).toInt32) &&& (1 : Int32)) = 0
      · refine Ends.pre (T' := s₁.setTop (mkF m 58 #[.val (.int x0), .val (.int x1), .val (.int x2), .val (.int hl), .val (.int gl), .val (.int f5), .val (.int f6), .unset, .unset, .unset, .unset, .unset, .unset, .unset, .unset, .unset, .unset, .unset, .unset] [])) (fun t k => XS.ifYes X0.here hx rfl (pc0 := 51) (pc' := 58) rfl (hb hby at_51) rfl (Jvm.Free.XT.i0_eq_t hc51_491) (by decide) (by decide) k) ?_
        refine Ends.pre (fun t k => XS.iconst X0.here hx rfl (hb hby at_58) k) ?_
        exact J59_3 (0 : Int32) (Or.inl rfl)
      · refine Ends.pre (T' := s₁.setTop (mkF m 54 #[.val (.int x0), .val (.int x1), .val (.int x2), .val (.int hl), .val (.int gl), .val (.int f5), .val (.int f6), .unset, .unset, .unset, .unset, .unset, .unset, .unset, .unset, .unset, .unset, .unset, .unset] [])) (fun t k => XS.ifNo X0.here hx rfl (hb hby at_51) rfl (Jvm.Free.XT.i0_eq_f hc51_491) k) ?_
        refine Ends.pre (fun t k => XS.iconst X0.here hx rfl (hb hby at_54) k) ?_
        refine Ends.pre (fun t k => XS.goto X0.here hx rfl (pc0 := 55) (pc' := 59) rfl (hb hby at_55) (by decide) (by decide) k) ?_
        exact J59_3 (1 : Int32) (Or.inr rfl)
    refine Ends.pre (fun t k => XS.iloadN X0.here hx rfl (hb hby at_30) rfl k) ?_
    refine Ends.pre (fun t k => XS.iconst X0.here hx rfl (hb hby at_31) k) ?_
    refine Ends.pre (fun t k => XS.iushr X0.here hx rfl (hb hby at_32) rfl k) ?_
    refine Ends.pre (T' := s₁.setTop (mkF m 34 #[.val (.int x0), .val (.int x1), .val (.int x2), .val (.int hl), .val (.int gl), .val (.int f5), .unset, .unset, .unset, .unset, .unset, .unset, .unset, .unset, .unset, .unset, .unset, .unset, .unset] [(.int (1 : Int32)), (.int ((x2.toUInt32 >>> ((5 : Int32) &&& 31).toUInt32).toInt32))])) (fun t k => XS.iconst X0.here hx rfl (hb hby at_33) k) ?_
    refine Ends.pre (fun t k => XS.iand X0.here hx rfl (hb hby at_34) rfl k) ?_
    by_cases hc35_492 : (((x2.toUInt32 >>> ((5 : Int32) &&& 31).toUInt32).toInt32) &&& (1 : Int32)) = 0
    · refine Ends.pre (T' := s₁.setTop (mkF m 42 #[.val (.int x0), .val (.int x1), .val (.int x2), .val (.int hl), .val (.int gl), .val (.int f5), .unset, .unset, .unset, .unset, .unset, .unset, .unset, .unset, .unset, .unset, .unset, .unset, .unset] [])) (fun t k => XS.ifYes X0.here hx rfl (pc0 := 35) (pc' := 42) rfl (hb hby at_35) rfl (Jvm.Free.XT.i0_eq_t hc35_492) (by decide) (by decide) k) ?_
      refine Ends.pre (fun t k => XS.iconst X0.here hx rfl (hb hby at_42) k) ?_
      exact J43_2 (0 : Int32) (Or.inl rfl)
    · refine Ends.pre (T' := s₁.setTop (mkF m 38 #[.val (.int x0), .val (.int x1), .val (.int x2), .val (.int hl), .val (.int gl), .val (.int f5), .unset, .unset, .unset, .unset, .unset, .unset, .unset, .unset, .unset, .unset, .unset, .unset, .unset] [])) (fun t k => XS.ifNo X0.here hx rfl (hb hby at_35) rfl (Jvm.Free.XT.i0_eq_f hc35_492) k) ?_
      refine Ends.pre (fun t k => XS.iconst X0.here hx rfl (hb hby at_38) k) ?_
      refine Ends.pre (fun t k => XS.goto X0.here hx rfl (pc0 := 39) (pc' := 43) rfl (hb hby at_39) (by decide) (by decide) k) ?_
      exact J43_2 (1 : Int32) (Or.inr rfl)
  refine Ends.pre (fun t k => XS.iloadN X0.here hx rfl (hb hby at_15) rfl k) ?_
  refine Ends.pre (fun t k => XS.iconst X0.here hx rfl (hb hby at_16) k) ?_
  refine Ends.pre (fun t k => XS.iushr X0.here hx rfl (hb hby at_17) rfl k) ?_
  refine Ends.pre (fun t k => XS.iconst X0.here hx rfl (hb hby at_18) k) ?_
  refine Ends.pre (T' := s₁.setTop (mkF m 20 #[.val (.int x0), .val (.int x1), .val (.int x2), .val (.int hl), .val (.int gl), .unset, .unset, .unset, .unset, .unset, .unset, .unset, .unset, .unset, .unset, .unset, .unset, .unset, .unset] [(.int (((x2.toUInt32 >>> ((4 : Int32) &&& 31).toUInt32).toInt32) &&& (1 : Int32)))])) (fun t k => XS.iand X0.here hx rfl (hb hby at_19) rfl k) ?_
  by_cases hc20_493 : (((x2.toUInt32 >>> ((4 : Int32) &&& 31).toUInt32).toInt32) &&& (1 : Int32)) = 0
  · refine Ends.pre (T' := s₁.setTop (mkF m 27 #[.val (.int x0), .val (.int x1), .val (.int x2), .val (.int hl), .val (.int gl), .unset, .unset, .unset, .unset, .unset, .unset, .unset, .unset, .unset, .unset, .unset, .unset, .unset, .unset] [])) (fun t k => XS.ifYes X0.here hx rfl (pc0 := 20) (pc' := 27) rfl (hb hby at_20) rfl (Jvm.Free.XT.i0_eq_t hc20_493) (by decide) (by decide) k) ?_
    refine Ends.pre (fun t k => XS.iconst X0.here hx rfl (hb hby at_27) k) ?_
    exact J28_1 (0 : Int32) (Or.inl rfl)
  · refine Ends.pre (T' := s₁.setTop (mkF m 23 #[.val (.int x0), .val (.int x1), .val (.int x2), .val (.int hl), .val (.int gl), .unset, .unset, .unset, .unset, .unset, .unset, .unset, .unset, .unset, .unset, .unset, .unset, .unset, .unset] [])) (fun t k => XS.ifNo X0.here hx rfl (hb hby at_20) rfl (Jvm.Free.XT.i0_eq_f hc20_493) k) ?_
    refine Ends.pre (fun t k => XS.iconst X0.here hx rfl (hb hby at_23) k) ?_
    refine Ends.pre (fun t k => XS.goto X0.here hx rfl (pc0 := 24) (pc' := 28) rfl (hb hby at_24) (by decide) (by decide) k) ?_
    exact J28_1 (1 : Int32) (Or.inr rfl)
set_option maxRecDepth 65536 in
set_option maxHeartbeats 40000000 in
theorem comes_1 {Post : Tables → Env → Array Value → State → Outcome → State → Prop} (hpost : ∀ tb e args s v u, (limb_1_1.after args s (.returned v) u = true ∧ limb_1_2.after args s (.returned v) u = true ∧ True) → ReturnedEndW s (.returned v) u (Jvm.fieldLocs frame_1_writes args s ++ Jvm.arrayLocs frame_1_arrays args s ++ Jvm.staticLocs frame_1_statics s) 32 3200 → Post tb e args s (.returned v) u) :
    ArmFor flags0 classFile x code maxLocals ret World_1 tables_1 room_1 Calls_1 rest_1 Pre_1 Post := by
  intro l hfl _ _ p e ha hc hk s m args below hf hA hF happ hP
  obtain ⟨hcalls, hrest, hpre⟩ := hP
  obtain ⟨-, -, -, hnamed, -, -, -, hat⟩ := (Spec.applies_iff hf).mp happ
  obtain ⟨hg, hn⟩ := and_e (Cond.before_iff.mp (show (Jvm.Cond.and given_1 narrow_1).before args s = true from hpre))
  obtain ⟨gg1, gg2⟩ := and_e hg
  obtain ⟨gg3, gg4⟩ := and_e gg2
  obtain ⟨gg5, gg6⟩ := and_e gg4
  obtain ⟨gg7, gg8⟩ := and_e hn
  obtain ⟨w0, w1, w2, rfl⟩ : ∃ w0 w1 w2 : Value, args = #[w0, w1, w2] := by
    have hs : args.size = 3 := by simpa [Cond.value, given_1] using gg1
    obtain ⟨L⟩ := args
    match L, hs with
    | [w0, w1, w2], _ => exact ⟨w0, w1, w2, rfl⟩
  have hw := fun d (hd : d ∈ tables_1) => atoms_spec (ws := Jvm.Cond.code x code maxLocals ret :: tables_1) hat d (List.mem_cons_of_mem _ hd)
  have hfit : Fit s := fun {y c} hc i hi => by
    obtain ⟨ha, rfl⟩ := Array.getElem?_eq_some_iff.mp hc
    have q := List.all_eq_true.mp ((Array.all_eq_true_iff_forall_mem.mp hF) _ (Array.getElem_mem ha)) i (List.mem_range.mpr hi)
    simpa [Array.getElem?_eq_getElem hi] using q
  obtain ⟨hsets, hown0⟩ := atoms_of _ (rest_1_c_eq ▸ (show rest_1_c.before _ s = true from hrest))
  have hr0 := Cond.before_iff.mp hown0
  obtain ⟨i0, ei0⟩ := is_v gg3
  obtain rfl : w0 = (.int i0) := Option.some.inj ei0
  obtain ⟨i1, ei1⟩ := is_v gg5
  obtain rfl : w1 = (.int i1) := Option.some.inj ei1
  obtain ⟨i2, ei2⟩ := is_v gg6
  obtain rfl : w2 = (.int i2) := Option.some.inj ei2
  obtain ⟨st_READ, ev_READ⟩ := exa_v gg7
  have S_READ : Sta s s.heap "com/example/static_permission_checker/staticpermissionchecker/core/FlowConstraint$Access" "READ" "Lcom/example/static_permission_checker/staticpermissionchecker/core/FlowConstraint$Access;" (.ref st_READ) := Sta.start ev_READ (Or.inr ⟨(hw _ (List.mem_of_getElem? (i := 34) rfl)), (hw _ (List.mem_of_getElem? (i := 35) rfl))⟩)
  have E_READ : Exa s s.heap st_READ "com/example/static_permission_checker/staticpermissionchecker/core/FlowConstraint$Access" := Exa.start ev_READ gg7
  obtain ⟨st_WRITE, ev_WRITE⟩ := exa_v gg8
  have S_WRITE : Sta s s.heap "com/example/static_permission_checker/staticpermissionchecker/core/FlowConstraint$Access" "WRITE" "Lcom/example/static_permission_checker/staticpermissionchecker/core/FlowConstraint$Access;" (.ref st_WRITE) := Sta.start ev_WRITE (Or.inr ⟨(hw _ (List.mem_of_getElem? (i := 34) rfl)), (hw _ (List.mem_of_getElem? (i := 76) rfl))⟩)
  have E_WRITE : Exa s s.heap st_WRITE "com/example/static_permission_checker/staticpermissionchecker/core/FlowConstraint$Access" := Exa.start ev_WRITE gg8
  obtain ⟨cz, ecz⟩ := is_v (Cond.before_iff.mp (hsets _ (List.mem_of_getElem? (i := 1) rfl)))
  have SCS : Sta s s.heap "java/lang/String" "COMPACT_STRINGS" "Z" (.int cz) := Sta.start ecz (Or.inl (hsets _ (List.mem_of_getElem? (i := 0) rfl)))
  have hcz : ¬ cz = 0 := gotF (Cond.eq_ints ecz (Term.int_eval (0))) (not_v (Cond.before_iff.mp (hsets _ (List.mem_of_getElem? (i := 2) rfl))))
  obtain ⟨fm, efm, hfm⟩ := isR_v (Cond.before_iff.mp (hsets _ (List.mem_of_getElem? (i := 8) rfl)))
  have SFM : Sta s s.heap "jdk/internal/util/Preconditions" "SIOOBE_FORMATTER" "Ljava/util/function/BiFunction;" fm := Sta.start efm (Or.inl (hsets _ (List.mem_of_getElem? (i := 7) rfl)))
  have hcw := (hsets _ (List.mem_of_getElem? (i := 2) rfl))
  have hCH : CHv s consts_1 s.vm s.heap := CHv.start (own_EW hw) (fun p hp => hcalls.1 p hp) hcw (hw _ (List.mem_of_getElem? (i := 19) rfl)) (hw _ (List.mem_of_getElem? (i := 2) rfl))
  obtain ⟨n, o, h1, h2, h3, _, L, rfl, ⟨rfl, N⟩, -, hq⟩ := rm0 l s _ hw tables_1 i0 i1 i2 st_READ st_WRITE cz fm s.heap s.heap.size (Nat.le_refl _) S_READ S_WRITE SCS hcz SFM hfm p e ha hc hk s m _ below hf ((Spec.applies_iff_loose hf).mp happ).1 ⟨rfl, State.Warmed39.refl s, rfl, hCH⟩ trivial
  refine ⟨n, _, h1, h2, h3, hpost _ _ _ _ _ _ ⟨Cond.after_iff.mpr rfl, Cond.after_iff.mpr (eq_i res_at (Term.int_eval (1)) rfl), trivial⟩ ⟨hq.1, hq.2.1, hq.2.2.1, (hq.2.2.2.sift fun y hy => Or.inr (N y hy)).mono (by decide) (by decide)⟩⟩
theorem main_1_1 : Claimed_1_1 := comes_1 fun _ _ _ _ _ _ h hF => ⟨h.1, hF⟩
theorem main_1_2 : Claimed_1_2 := comes_1 fun _ _ _ _ _ _ h hF => ⟨h.2.1, hF⟩
end Jvm.Pilot.@@N@@
namespace Jvm.Pilot.@@N@@
open Jvm Jvm.ClassFile Sem Op Lib Jvm.Free Jvm.Stand Jvm.Pilot.@@N@@.Jvm.D
/-! MADE BY PROGRAM (witnessworld.py) out of the Statement's table words and the real class files: 24 classes; the members and pool entries that the words name. The judged class is class 1, her method 1. -/
namespace start1
open Jvm.ClassFile
def u (s : String) : CpInfo := .utf8 (stringToUtf16 s)
/-- a pool by its gaps: so many unusable entries, then the entry; so many at the end -/
def gap : Nat → List CpInfo → List CpInfo
  | 0, r => r
  | n + 1, r => .unusable :: gap n r
def poolList (es : List (Nat × CpInfo)) (last : Nat) : List CpInfo := es.foldr (fun e r => gap e.1 (e.2 :: r)) (gap last [])
def pool (es : List (Nat × CpInfo)) (last : Nat) : Array CpInfo := ⟨poolList es last⟩
def fileOf (pool : Array CpInfo) (this : Nat) (attrs : Array Attribute := #[]) (ms : Array MethodInfo := #[]) (fl : Nat := 33) (sup : Nat := 0) (ifs : Array Nat := #[]) (fds : Array FieldInfo := #[]) : ClassFile where
  minorVersion := 0
  majorVersion := 65
  constantPool := pool
  accessFlags := fl
  thisClass := this
  superClass := sup
  interfaces := ifs
  fields := fds
  methods := ms
  attributes := attrs
def plain (name : String) (sup : Option ClassId) : Class where
  name := name
  kind := .ordinary
  loader := none
  accessFlags := 33
  super := sup
  interfaces := #[]
  cf := none
  fields := #[]
  methods := #[]
  instanceTypes := #[]
  staticTypes := #[]
  resolved := #[]
  callSites := []
  init := .initialized
  statics := none
  mirror := none

def pool0 : Array CpInfo := pool [(5, u "<init>"), (0, u "()V"), (1, .class_ 10), (1, u "java/lang/Object")] 113

def k0c0 : Code := { maxStack := 0, maxLocals := 1, code := object_method_1_code, exceptionTable := #[], attributes := #[] }
def k0m0 : Method := { name := "<init>", desc := "()V", sig := { parameters := [], returnType := none }, accessFlags := 1, code := some k0c0 }
/-- java/lang/Object -/
def k0 : Class := { plain "java/lang/Object" none with
  accessFlags := 33
  interfaces := #[]
  cf := some (fileOf pool0 8 #[] #[{ accessFlags := 1, nameIndex := 5, descriptorIndex := 6, attributes := #[] }] 33 0 #[] #[])
  fields := #[]
  methods := #[k0m0]
  instanceTypes := #[]
  staticTypes := #[]
  resolved := Array.replicate 124 none
  statics := none }

def pool1 : Array CpInfo := pool [(2, .class_ 4), (1, u "java/lang/Object"), (0, u "<init>"), (0, u "()V"), (0, .class_ 8), (0, u "java/lang/String"), (0, .methodref 7 10), (0, .nameAndType 5 11), (0, u "([C)V"), (0, .fieldref 13 14), (0, .class_ 15), (0, .nameAndType 16 17), (0, u "com/example/static_permission_checker/staticpermissionchecker/core/FlowConstraint$Access"), (0, u "WRITE"), (0, u "Lcom/example/static_permission_checker/staticpermissionchecker/core/FlowConstraint$Access;"), (0, .fieldref 13 19), (0, .nameAndType 20 17), (0, u "READ"), (0, .class_ 22), (0, u "com/example/static_permission_checker/staticpermissionchecker/core/FlowConstraint"), (0, .methodref 21 24), (0, .nameAndType 5 25), (0, u "(Ljava/lang/String;Lcom/example/static_permission_checker/staticpermissionchecker/core/FlowConstraint$Access;Ljava/lang/String;)V"), (0, .methodref 21 27), (0, .nameAndType 28 29), (0, u "holds"), (0, u "()Z"), (0, .class_ 31), (0, u "com/example/static_permission_checker/staticpermissionchecker/core/FlowConstraintHoldsPinLaw"), (2, u "law"), (0, u "(III)Z")] 7

def k1m0 : Method := { name := "<init>", desc := "()V", sig := { parameters := [], returnType := none }, accessFlags := 1, code := none }
def k1c1 : Code := { maxStack := 5, maxLocals := 19, code := code, exceptionTable := #[], attributes := #[] }
def k1m1 : Method := { name := "law", desc := "(III)Z", sig := { parameters := [.int, .int, .int], returnType := some .boolean }, accessFlags := 9, code := some k1c1 }
/-- com/example/static_permission_checker/staticpermissionchecker/core/FlowConstraintHoldsPinLaw -/
def k1 : Class := { plain "com/example/static_permission_checker/staticpermissionchecker/core/FlowConstraintHoldsPinLaw" (some 0) with
  accessFlags := 49
  interfaces := #[]
  cf := some (fileOf pool1 30 #[] #[{ accessFlags := 1, nameIndex := 5, descriptorIndex := 6, attributes := #[] }, { accessFlags := 9, nameIndex := 34, descriptorIndex := 35, attributes := #[] }] 49 2 #[] #[])
  fields := #[]
  methods := #[k1m0, k1m1]
  instanceTypes := #[]
  staticTypes := #[]
  resolved := Array.replicate 43 none
  statics := none }

def pool2 : Array CpInfo := pool [(1, .class_ 2), (0, u "java/io/Serializable"), (0, .class_ 4), (0, u "java/lang/Object")] 2

/-- java/io/Serializable -/
def k2 : Class := { plain "java/io/Serializable" (some 0) with
  accessFlags := 1537
  interfaces := #[]
  cf := some (fileOf pool2 1 #[] #[] 1537 3 #[] #[])
  fields := #[]
  methods := #[]
  instanceTypes := #[]
  staticTypes := #[]
  resolved := Array.replicate 7 none
  statics := none }

def pool3 : Array CpInfo := pool [(1, .class_ 2), (0, u "java/lang/Comparable"), (0, .class_ 4), (0, u "java/lang/Object")] 7

/-- java/lang/Comparable -/
def k3 : Class := { plain "java/lang/Comparable" (some 0) with
  accessFlags := 1537
  interfaces := #[]
  cf := some (fileOf pool3 1 #[] #[] 1537 3 #[] #[])
  fields := #[]
  methods := #[]
  instanceTypes := #[]
  staticTypes := #[]
  resolved := Array.replicate 12 none
  statics := none }

def pool4 : Array CpInfo := pool [(2, .class_ 4), (1, u "java/lang/CharSequence"), (42, .class_ 48), (0, u "java/lang/CharSequence$1CodePointIterator"), (10, .class_ 60), (0, u "java/lang/CharSequence$1CharIterator"), (5, .class_ 67), (0, u "java/lang/Object")] 63

/-- java/lang/CharSequence -/
def k4 : Class := { plain "java/lang/CharSequence" (some 0) with
  accessFlags := 1537
  interfaces := #[]
  cf := some (fileOf pool4 2 #[.nestMembers #[47, 59]] #[] 1537 66 #[] #[])
  fields := #[]
  methods := #[]
  instanceTypes := #[]
  staticTypes := #[]
  resolved := Array.replicate 131 none
  statics := none }

def pool5 : Array CpInfo := pool [(1, .class_ 2), (0, u "java/lang/constant/Constable"), (0, .class_ 4), (0, u "java/lang/Object")] 6

/-- java/lang/constant/Constable -/
def k5 : Class := { plain "java/lang/constant/Constable" (some 0) with
  accessFlags := 1537
  interfaces := #[]
  cf := some (fileOf pool5 1 #[] #[] 1537 3 #[] #[])
  fields := #[]
  methods := #[]
  instanceTypes := #[]
  staticTypes := #[]
  resolved := Array.replicate 11 none
  statics := none }

def pool6 : Array CpInfo := pool [(1, .class_ 2), (0, u "java/lang/constant/ConstantDesc"), (0, .class_ 4), (0, u "java/lang/Object")] 32

/-- java/lang/constant/ConstantDesc -/
def k6 : Class := { plain "java/lang/constant/ConstantDesc" (some 0) with
  accessFlags := 1537
  interfaces := #[]
  cf := some (fileOf pool6 1 #[] #[] 1537 3 #[] #[])
  fields := #[]
  methods := #[]
  instanceTypes := #[]
  staticTypes := #[]
  resolved := Array.replicate 37 none
  statics := none }

def pool7 : Array CpInfo := pool [(1, .methodref 2 3), (0, .class_ 4), (0, .nameAndType 5 6), (0, u "java/lang/Object"), (0, u "<init>"), (0, u "()V"), (0, .string 8), (0, u ""), (0, .fieldref 10 11), (0, .class_ 12), (0, .nameAndType 13 14), (0, u "java/lang/String"), (0, u "value"), (0, u "[B"), (0, .fieldref 10 16), (0, .nameAndType 17 18), (0, u "coder"), (0, u "B"), (2, u "hash"), (0, u "I"), (2, u "hashIsZero"), (0, u "Z"), (0, .methodref 10 28), (0, .nameAndType 5 29), (0, u "([CIILjava/lang/Void;)V"), (8, .fieldref 10 39), (0, .nameAndType 40 26), (0, u "COMPACT_STRINGS"), (1, .class_ 44), (1, u "java/lang/StringUTF16"), (0, u "compress"), (1, .methodref 42 48), (0, .nameAndType 49 50), (0, u "coderFromArrayLen"), (0, u "([BI)B"), (56, .class_ 109), (1, u "java/lang/StringLatin1"), (67, .methodref 42 178), (0, .nameAndType 45 179), (0, u "([CII)[B"), (361, .methodref 107 542), (0, .nameAndType 543 544), (0, u "equals"), (0, u "([B[B)Z"), (28, u "(Ljava/lang/Object;)Z"), (1, .class_ 576), (0, u "java/lang/CharSequence"), (22, u "CASE_INSENSITIVE_ORDER"), (0, u "Ljava/util/Comparator;"), (409, u "([C)V"), (90, u "serialPersistentFields"), (0, u "[Ljava/io/ObjectStreamField;"), (0, .class_ 1104), (0, u "java/lang/String$CaseInsensitiveComparator"), (1, .class_ 1107), (0, u "java/io/Serializable"), (0, .class_ 1109), (0, u "java/lang/Comparable"), (0, .class_ 1111), (0, u "java/lang/constant/Constable"), (0, .class_ 1113), (0, u "java/lang/constant/ConstantDesc"), (2, u "serialVersionUID"), (0, u "J"), (3, u "REPL"), (0, u "C"), (2, u "LATIN1"), (1, u "UTF16")] 323

def k7m0 : Method := { name := "<init>", desc := "()V", sig := { parameters := [], returnType := none }, accessFlags := 1, code := none }
def k7c1 : Code := { maxStack := 5, maxLocals := 2, code := jdk_42_method_3_code, exceptionTable := #[], attributes := #[] }
def k7m1 : Method := { name := "<init>", desc := "([C)V", sig := { parameters := [(.array .char)], returnType := none }, accessFlags := 1, code := some k7c1 }
def k7c2 : Code := { maxStack := 2, maxLocals := 3, code := jdk_42_method_66_code, exceptionTable := #[], attributes := #[] }
def k7m2 : Method := { name := "equals", desc := "(Ljava/lang/Object;)Z", sig := { parameters := [(.object "java/lang/Object")], returnType := some .boolean }, accessFlags := 1, code := some k7c2 }
def k7c3 : Code := { maxStack := 4, maxLocals := 6, code := jdk_42_method_149_code, exceptionTable := #[], attributes := #[] }
def k7m3 : Method := { name := "<init>", desc := "([CIILjava/lang/Void;)V", sig := { parameters := [(.array .char), .int, .int, (.object "java/lang/Void")], returnType := none }, accessFlags := 2, code := some k7c3 }
/-- java/lang/String -/
def k7 : Class := { plain "java/lang/String" (some 0) with
  accessFlags := 49
  interfaces := #[2, 3, 4, 5, 6]
  cf := some (fileOf pool7 10 #[.nestMembers #[1103]] #[{ accessFlags := 1, nameIndex := 5, descriptorIndex := 6, attributes := #[] }, { accessFlags := 1, nameIndex := 5, descriptorIndex := 1010, attributes := #[] }, { accessFlags := 1, nameIndex := 543, descriptorIndex := 573, attributes := #[] }, { accessFlags := 2, nameIndex := 5, descriptorIndex := 29, attributes := #[] }] 49 2 #[1106, 1108, 575, 1110, 1112] #[{ accessFlags := 18, nameIndex := 13, descriptorIndex := 14, attributes := #[] }, { accessFlags := 18, nameIndex := 17, descriptorIndex := 18, attributes := #[] }, { accessFlags := 2, nameIndex := 21, descriptorIndex := 22, attributes := #[] }, { accessFlags := 2, nameIndex := 25, descriptorIndex := 26, attributes := #[] }, { accessFlags := 26, nameIndex := 1116, descriptorIndex := 1117, attributes := #[] }, { accessFlags := 24, nameIndex := 40, descriptorIndex := 26, attributes := #[] }, { accessFlags := 26, nameIndex := 1101, descriptorIndex := 1102, attributes := #[] }, { accessFlags := 26, nameIndex := 1121, descriptorIndex := 1122, attributes := #[] }, { accessFlags := 25, nameIndex := 599, descriptorIndex := 600, attributes := #[] }, { accessFlags := 24, nameIndex := 1125, descriptorIndex := 18, attributes := #[] }, { accessFlags := 24, nameIndex := 1127, descriptorIndex := 18, attributes := #[] }])
  fields := #[{ name := "value", type := (.array .byte), accessFlags := 18, slot := 0, constantValue := 0 }, { name := "coder", type := .byte, accessFlags := 18, slot := 1, constantValue := 0 }, { name := "hash", type := .int, accessFlags := 2, slot := 2, constantValue := 0 }, { name := "hashIsZero", type := .boolean, accessFlags := 2, slot := 3, constantValue := 0 }, { name := "serialVersionUID", type := .long, accessFlags := 26, slot := 0, constantValue := 0 }, { name := "COMPACT_STRINGS", type := .boolean, accessFlags := 24, slot := 1, constantValue := 0 }, { name := "serialPersistentFields", type := (.array (.object "java/io/ObjectStreamField")), accessFlags := 26, slot := 2, constantValue := 0 }, { name := "REPL", type := .char, accessFlags := 26, slot := 3, constantValue := 0 }, { name := "CASE_INSENSITIVE_ORDER", type := (.object "java/util/Comparator"), accessFlags := 25, slot := 4, constantValue := 0 }, { name := "LATIN1", type := .byte, accessFlags := 24, slot := 5, constantValue := 0 }, { name := "UTF16", type := .byte, accessFlags := 24, slot := 6, constantValue := 0 }]
  methods := #[k7m0, k7m1, k7m2, k7m3]
  instanceTypes := #[(.array .byte), .byte, .int, .boolean]
  staticTypes := #[.long, .boolean, (.array (.object "java/io/ObjectStreamField")), .char, (.object "java/util/Comparator"), .byte, .byte]
  resolved := Array.replicate 1451 none
  statics := some 0 }

def pool8 : Array CpInfo := pool [(6, .class_ 8), (1, u "java/lang/Object"), (0, u "<init>"), (0, u "()V"), (1, .class_ 14), (1, u "java/lang/StringUTF16"), (31, u "$assertionsDisabled"), (0, u "Z"), (13, u "HI_BYTE_SHIFT"), (0, u "I"), (2, u "LO_BYTE_SHIFT"), (49, .methodref 12 116), (0, .nameAndType 117 118), (0, u "compress"), (0, u "([CI[BII)I"), (3, u "([CII)[B"), (138, u "coderFromArrayLen"), (0, u "([BI)B"), (106, .class_ 371), (1, u "java/lang/StringUTF16$LinesSpliterator"), (58, u "MAX_LENGTH"), (196, .class_ 628), (0, u "java/lang/StringUTF16$CodePointsSpliterator"), (0, .class_ 630), (0, u "java/lang/StringUTF16$CharsSpliterator")] 4

def k8m0 : Method := { name := "<init>", desc := "()V", sig := { parameters := [], returnType := none }, accessFlags := 0, code := none }
def k8c1 : Code := { maxStack := 2, maxLocals := 2, code := jdk_52_method_15_code, exceptionTable := #[], attributes := #[] }
def k8m1 : Method := { name := "coderFromArrayLen", desc := "([BI)B", sig := { parameters := [(.array .byte), .int], returnType := some .byte }, accessFlags := 8, code := some k8c1 }
def k8c2 : Code := { maxStack := 5, maxLocals := 6, code := jdk_52_method_16_code, exceptionTable := #[], attributes := #[] }
def k8m2 : Method := { name := "compress", desc := "([CII)[B", sig := { parameters := [(.array .char), .int, .int], returnType := some (.array .byte) }, accessFlags := 9, code := some k8c2 }
def k8c3 : Code := { maxStack := 3, maxLocals := 7, code := jdk_52_method_21_code, exceptionTable := #[], attributes := #[] }
def k8m3 : Method := { name := "compress", desc := "([CI[BII)I", sig := { parameters := [(.array .char), .int, (.array .byte), .int, .int], returnType := some .int }, accessFlags := 9, code := some k8c3 }
/-- java/lang/StringUTF16 -/
def k8 : Class := { plain "java/lang/StringUTF16" (some 0) with
  accessFlags := 48
  interfaces := #[]
  cf := some (fileOf pool8 12 #[.nestMembers #[627, 629, 369]] #[{ accessFlags := 0, nameIndex := 9, descriptorIndex := 10, attributes := #[] }, { accessFlags := 8, nameIndex := 261, descriptorIndex := 262, attributes := #[] }, { accessFlags := 9, nameIndex := 117, descriptorIndex := 122, attributes := #[] }, { accessFlags := 9, nameIndex := 117, descriptorIndex := 118, attributes := #[] }] 48 6 #[] #[{ accessFlags := 26, nameIndex := 61, descriptorIndex := 62, attributes := #[] }, { accessFlags := 26, nameIndex := 65, descriptorIndex := 62, attributes := #[] }, { accessFlags := 24, nameIndex := 430, descriptorIndex := 62, attributes := #[] }, { accessFlags := 4120, nameIndex := 46, descriptorIndex := 47, attributes := #[] }])
  fields := #[{ name := "HI_BYTE_SHIFT", type := .int, accessFlags := 26, slot := 0, constantValue := 0 }, { name := "LO_BYTE_SHIFT", type := .int, accessFlags := 26, slot := 1, constantValue := 0 }, { name := "MAX_LENGTH", type := .int, accessFlags := 24, slot := 2, constantValue := 0 }, { name := "$assertionsDisabled", type := .boolean, accessFlags := 4120, slot := 3, constantValue := 0 }]
  methods := #[k8m0, k8m1, k8m2, k8m3]
  instanceTypes := #[]
  staticTypes := #[.int, .int, .int, .boolean]
  resolved := Array.replicate 635 none
  statics := none }

def pool9 : Array CpInfo := pool [(2, .class_ 4), (1, u "java/lang/Enum"), (0, u "name"), (0, u "Ljava/lang/String;"), (2, u "ordinal"), (0, u "I"), (1, .class_ 14), (1, u "java/lang/Object"), (4, u "hash"), (86, .class_ 108), (1, u "java/lang/Enum$EnumDesc"), (2, .class_ 112), (0, u "java/lang/constant/Constable"), (0, .class_ 114), (0, u "java/lang/Comparable"), (0, .class_ 116), (0, u "java/io/Serializable")] 87

/-- java/lang/Enum -/
def k9 : Class := { plain "java/lang/Enum" (some 0) with
  accessFlags := 1057
  interfaces := #[5, 3, 2]
  cf := some (fileOf pool9 2 #[.nestMembers #[106]] #[] 1057 12 #[111, 113, 115] #[{ accessFlags := 18, nameIndex := 5, descriptorIndex := 6, attributes := #[] }, { accessFlags := 18, nameIndex := 9, descriptorIndex := 10, attributes := #[] }, { accessFlags := 2, nameIndex := 19, descriptorIndex := 10, attributes := #[] }])
  fields := #[{ name := "name", type := (.object "java/lang/String"), accessFlags := 18, slot := 0, constantValue := 0 }, { name := "ordinal", type := .int, accessFlags := 18, slot := 1, constantValue := 0 }, { name := "hash", type := .int, accessFlags := 2, slot := 2, constantValue := 0 }]
  methods := #[]
  instanceTypes := #[(.object "java/lang/String"), .int, .int]
  staticTypes := #[]
  resolved := Array.replicate 204 none
  statics := none }

def pool10 : Array CpInfo := pool [(1, .class_ 2), (0, u "com/example/static_permission_checker/staticpermissionchecker/core/FlowConstraint$Access"), (2, u "READ"), (0, u "Lcom/example/static_permission_checker/staticpermissionchecker/core/FlowConstraint$Access;"), (2, u "WRITE"), (2, u "$VALUES"), (0, u "[Lcom/example/static_permission_checker/staticpermissionchecker/core/FlowConstraint$Access;"), (6, .class_ 22), (1, u "java/lang/Enum"), (8, u "word"), (0, u "Ljava/lang/String;"), (27, .class_ 61), (0, u "com/example/static_permission_checker/staticpermissionchecker/core/FlowConstraint")] 2

/-- com/example/static_permission_checker/staticpermissionchecker/core/FlowConstraint$Access -/
def k10 : Class := { plain "com/example/static_permission_checker/staticpermissionchecker/core/FlowConstraint$Access" (some 9) with
  accessFlags := 16433
  interfaces := #[]
  cf := some (fileOf pool10 1 #[.nestHost 60] #[] 16433 20 #[] #[{ accessFlags := 16409, nameIndex := 5, descriptorIndex := 6, attributes := #[] }, { accessFlags := 16409, nameIndex := 9, descriptorIndex := 6, attributes := #[] }, { accessFlags := 18, nameIndex := 31, descriptorIndex := 32, attributes := #[] }, { accessFlags := 4122, nameIndex := 12, descriptorIndex := 13, attributes := #[] }])
  fields := #[{ name := "READ", type := (.object "com/example/static_permission_checker/staticpermissionchecker/core/FlowConstraint$Access"), accessFlags := 16409, slot := 0, constantValue := 0 }, { name := "WRITE", type := (.object "com/example/static_permission_checker/staticpermissionchecker/core/FlowConstraint$Access"), accessFlags := 16409, slot := 1, constantValue := 0 }, { name := "word", type := (.object "java/lang/String"), accessFlags := 18, slot := 3, constantValue := 0 }, { name := "$VALUES", type := (.array (.object "com/example/static_permission_checker/staticpermissionchecker/core/FlowConstraint$Access")), accessFlags := 4122, slot := 2, constantValue := 0 }]
  methods := #[]
  instanceTypes := #[(.object "java/lang/String"), .int, .int, (.object "java/lang/String")]
  staticTypes := #[(.object "com/example/static_permission_checker/staticpermissionchecker/core/FlowConstraint$Access"), (.object "com/example/static_permission_checker/staticpermissionchecker/core/FlowConstraint$Access"), (.array (.object "com/example/static_permission_checker/staticpermissionchecker/core/FlowConstraint$Access"))]
  resolved := Array.replicate 64 none
  statics := some 1 }

def pool11 : Array CpInfo := pool [(1, .methodref 2 3), (0, .class_ 4), (0, .nameAndType 5 6), (0, u "java/lang/Object"), (0, u "<init>"), (0, u "()V"), (0, .class_ 8), (0, u "java/lang/Record")] 13

def k11c0 : Code := { maxStack := 1, maxLocals := 1, code := jdk_30_method_1_code, exceptionTable := #[], attributes := #[] }
def k11m0 : Method := { name := "<init>", desc := "()V", sig := { parameters := [], returnType := none }, accessFlags := 4, code := some k11c0 }
/-- java/lang/Record -/
def k11 : Class := { plain "java/lang/Record" (some 0) with
  accessFlags := 1057
  interfaces := #[]
  cf := some (fileOf pool11 7 #[] #[{ accessFlags := 4, nameIndex := 5, descriptorIndex := 6, attributes := #[] }] 1057 2 #[] #[])
  fields := #[]
  methods := #[k11m0]
  instanceTypes := #[]
  staticTypes := #[]
  resolved := Array.replicate 22 none
  statics := none }

def pool12 : Array CpInfo := pool [(1, .methodref 2 3), (0, .class_ 4), (0, .nameAndType 5 6), (0, u "java/lang/Record"), (0, u "<init>"), (0, u "()V"), (0, .string 8), (0, u "access"), (0, .methodref 10 11), (0, .class_ 12), (0, .nameAndType 13 14), (0, u "java/util/Objects"), (0, u "requireNonNull"), (0, u "(Ljava/lang/Object;Ljava/lang/String;)Ljava/lang/Object;"), (0, .string 16), (0, u "guard"), (0, .fieldref 18 19), (0, .class_ 20), (0, .nameAndType 21 22), (0, u "com/example/static_permission_checker/staticpermissionchecker/core/FlowConstraint"), (0, u "holder"), (0, u "Ljava/lang/String;"), (0, .fieldref 18 24), (0, .nameAndType 8 25), (0, u "Lcom/example/static_permission_checker/staticpermissionchecker/core/FlowConstraint$Access;"), (0, .fieldref 18 27), (0, .nameAndType 16 22), (0, .methodref 29 30), (0, .class_ 31), (0, .nameAndType 32 33), (0, u "java/lang/String"), (0, u "equals"), (0, u "(Ljava/lang/Object;)Z"), (3, .class_ 39), (1, u "com/example/static_permission_checker/staticpermissionchecker/core/FlowConstraint$Access"), (29, u "ORDER"), (0, u "Ljava/util/Comparator;"), (2, u "ANYONE"), (1, u "(Ljava/lang/String;Lcom/example/static_permission_checker/staticpermissionchecker/core/FlowConstraint$Access;Ljava/lang/String;)V"), (3, u "holds"), (0, u "()Z")] 50

def k12c0 : Code := { maxStack := 2, maxLocals := 4, code := prog_44_method_1_code, exceptionTable := #[], attributes := #[] }
def k12m0 : Method := { name := "<init>", desc := "(Ljava/lang/String;Lcom/example/static_permission_checker/staticpermissionchecker/core/FlowConstraint$Access;Ljava/lang/String;)V", sig := { parameters := [(.object "java/lang/String"), (.object "com/example/static_permission_checker/staticpermissionchecker/core/FlowConstraint$Access"), (.object "java/lang/String")], returnType := none }, accessFlags := 1, code := some k12c0 }
def k12c1 : Code := { maxStack := 2, maxLocals := 1, code := prog_44_method_2_code, exceptionTable := #[], attributes := #[] }
def k12m1 : Method := { name := "holds", desc := "()Z", sig := { parameters := [], returnType := some .boolean }, accessFlags := 1, code := some k12c1 }
/-- com/example/static_permission_checker/staticpermissionchecker/core/FlowConstraint -/
def k12 : Class := { plain "com/example/static_permission_checker/staticpermissionchecker/core/FlowConstraint" (some 11) with
  accessFlags := 49
  interfaces := #[]
  cf := some (fileOf pool12 18 #[.nestMembers #[37]] #[{ accessFlags := 1, nameIndex := 5, descriptorIndex := 75, attributes := #[] }, { accessFlags := 1, nameIndex := 79, descriptorIndex := 80, attributes := #[] }] 49 2 #[] #[{ accessFlags := 18, nameIndex := 21, descriptorIndex := 22, attributes := #[] }, { accessFlags := 18, nameIndex := 8, descriptorIndex := 25, attributes := #[] }, { accessFlags := 18, nameIndex := 16, descriptorIndex := 22, attributes := #[] }, { accessFlags := 25, nameIndex := 69, descriptorIndex := 70, attributes := #[] }, { accessFlags := 25, nameIndex := 73, descriptorIndex := 22, attributes := #[] }])
  fields := #[{ name := "holder", type := (.object "java/lang/String"), accessFlags := 18, slot := 0, constantValue := 0 }, { name := "access", type := (.object "com/example/static_permission_checker/staticpermissionchecker/core/FlowConstraint$Access"), accessFlags := 18, slot := 1, constantValue := 0 }, { name := "guard", type := (.object "java/lang/String"), accessFlags := 18, slot := 2, constantValue := 0 }, { name := "ORDER", type := (.object "java/util/Comparator"), accessFlags := 25, slot := 0, constantValue := 0 }, { name := "ANYONE", type := (.object "java/lang/String"), accessFlags := 25, slot := 1, constantValue := 0 }]
  methods := #[k12m0, k12m1]
  instanceTypes := #[(.object "java/lang/String"), (.object "com/example/static_permission_checker/staticpermissionchecker/core/FlowConstraint$Access"), (.object "java/lang/String")]
  staticTypes := #[(.object "java/util/Comparator"), (.object "java/lang/String")]
  resolved := Array.replicate 131 none
  statics := none }

def pool13 : Array CpInfo := pool [(2, .class_ 4), (1, u "java/lang/Object"), (0, u "<init>"), (0, u "()V"), (35, .class_ 44), (1, u "java/util/Objects"), (0, u "requireNonNull"), (48, u "(Ljava/lang/Object;Ljava/lang/String;)Ljava/lang/Object;")] 89

def k13m0 : Method := { name := "<init>", desc := "()V", sig := { parameters := [], returnType := none }, accessFlags := 2, code := none }
def k13c1 : Code := { maxStack := 3, maxLocals := 2, code := jdk_31_method_11_code, exceptionTable := #[], attributes := #[] }
def k13m1 : Method := { name := "requireNonNull", desc := "(Ljava/lang/Object;Ljava/lang/String;)Ljava/lang/Object;", sig := { parameters := [(.object "java/lang/Object"), (.object "java/lang/String")], returnType := some (.object "java/lang/Object") }, accessFlags := 9, code := some k13c1 }
/-- java/util/Objects -/
def k13 : Class := { plain "java/util/Objects" (some 0) with
  accessFlags := 49
  interfaces := #[]
  cf := some (fileOf pool13 42 #[] #[{ accessFlags := 2, nameIndex := 5, descriptorIndex := 6, attributes := #[] }, { accessFlags := 9, nameIndex := 45, descriptorIndex := 94, attributes := #[] }] 49 2 #[] #[])
  fields := #[]
  methods := #[k13m0, k13m1]
  instanceTypes := #[]
  staticTypes := #[]
  resolved := Array.replicate 184 none
  statics := none }

def pool14 : Array CpInfo := pool [(4, .class_ 6), (1, u "java/lang/Object"), (0, u "<init>"), (0, u "()V"), (5, .class_ 16), (1, u "java/lang/StringLatin1"), (104, u "$assertionsDisabled"), (0, u "Z"), (98, .class_ 223), (1, u "java/lang/StringLatin1$LinesSpliterator"), (57, u "equals"), (0, u "([B[B)Z"), (107, .class_ 391), (0, u "java/lang/StringLatin1$CharsSpliterator")] 3

def k14m0 : Method := { name := "<init>", desc := "()V", sig := { parameters := [], returnType := none }, accessFlags := 0, code := none }
def k14c1 : Code := { maxStack := 3, maxLocals := 3, code := jdk_43_method_13_code, exceptionTable := #[], attributes := #[] }
def k14m1 : Method := { name := "equals", desc := "([B[B)Z", sig := { parameters := [(.array .byte), (.array .byte)], returnType := some .boolean }, accessFlags := 9, code := some k14c1 }
/-- java/lang/StringLatin1 -/
def k14 : Class := { plain "java/lang/StringLatin1" (some 0) with
  accessFlags := 48
  interfaces := #[]
  cf := some (fileOf pool14 14 #[.nestMembers #[390, 221]] #[{ accessFlags := 0, nameIndex := 7, descriptorIndex := 8, attributes := #[] }, { accessFlags := 9, nameIndex := 281, descriptorIndex := 282, attributes := #[] }] 48 4 #[] #[{ accessFlags := 4120, nameIndex := 121, descriptorIndex := 122, attributes := #[] }])
  fields := #[{ name := "$assertionsDisabled", type := .boolean, accessFlags := 4120, slot := 0, constantValue := 0 }]
  methods := #[k14m0, k14m1]
  instanceTypes := #[]
  staticTypes := #[.boolean]
  resolved := Array.replicate 395 none
  statics := none }

def pool15 : Array CpInfo := pool [(2, .class_ 4), (1, u "java/lang/Object"), (0, u "<init>"), (0, u "()V"), (17, .class_ 26), (1, u "jdk/internal/util/Preconditions"), (28, .class_ 56), (0, u "jdk/internal/util/Preconditions$4"), (57, .class_ 115), (0, u "jdk/internal/util/Preconditions$1"), (7, u "SIOOBE_FORMATTER"), (0, u "Ljava/util/function/BiFunction;"), (0, .class_ 126), (0, u "jdk/internal/util/Preconditions$2"), (3, u "AIOOBE_FORMATTER"), (0, .class_ 132), (0, u "jdk/internal/util/Preconditions$3"), (3, u "IOOBE_FORMATTER")] 57

def k15m0 : Method := { name := "<init>", desc := "()V", sig := { parameters := [], returnType := none }, accessFlags := 1, code := none }
/-- jdk/internal/util/Preconditions -/
def k15 : Class := { plain "jdk/internal/util/Preconditions" (some 0) with
  accessFlags := 33
  interfaces := #[]
  cf := some (fileOf pool15 24 #[.nestMembers #[55, 131, 125, 114]] #[{ accessFlags := 1, nameIndex := 5, descriptorIndex := 6, attributes := #[] }] 33 2 #[] #[{ accessFlags := 25, nameIndex := 123, descriptorIndex := 124, attributes := #[] }, { accessFlags := 25, nameIndex := 130, descriptorIndex := 124, attributes := #[] }, { accessFlags := 25, nameIndex := 136, descriptorIndex := 124, attributes := #[] }])
  fields := #[{ name := "SIOOBE_FORMATTER", type := (.object "java/util/function/BiFunction"), accessFlags := 25, slot := 0, constantValue := 0 }, { name := "AIOOBE_FORMATTER", type := (.object "java/util/function/BiFunction"), accessFlags := 25, slot := 1, constantValue := 0 }, { name := "IOOBE_FORMATTER", type := (.object "java/util/function/BiFunction"), accessFlags := 25, slot := 2, constantValue := 0 }]
  methods := #[k15m0]
  instanceTypes := #[]
  staticTypes := #[(.object "java/util/function/BiFunction"), (.object "java/util/function/BiFunction"), (.object "java/util/function/BiFunction")]
  resolved := Array.replicate 194 none
  statics := some 2 }

def pool16 : Array CpInfo := pool [(9, u "<init>"), (6, .class_ 18), (1, u "java/lang/Object"), (0, u "()V"), (1, .class_ 23), (1, u "jdk/internal/util/ArraysSupport"), (0, u "LOG2_ARRAY_LONG_INDEX_SCALE"), (0, u "I"), (2, u "U"), (0, u "Ljdk/internal/misc/Unsafe;"), (8, u "BIG_ENDIAN"), (0, u "Z"), (8, u "LOG2_BYTE_BIT_SIZE"), (4, u "LOG2_ARRAY_INT_INDEX_SCALE"), (54, u "JLA"), (0, u "Ljdk/internal/access/JavaLangAccess;"), (11, u "LOG2_ARRAY_BOOLEAN_INDEX_SCALE"), (9, u "LOG2_ARRAY_BYTE_INDEX_SCALE"), (5, u "LOG2_ARRAY_CHAR_INDEX_SCALE"), (5, u "LOG2_ARRAY_SHORT_INDEX_SCALE"), (18, u "LOG2_ARRAY_FLOAT_INDEX_SCALE"), (24, u "LOG2_ARRAY_DOUBLE_INDEX_SCALE"), (89, u "T_BOOLEAN"), (2, u "T_CHAR"), (1, u "T_FLOAT"), (1, u "T_DOUBLE"), (1, u "T_BYTE"), (1, u "T_SHORT"), (1, u "T_INT"), (1, u "T_LONG"), (1, u "SOFT_MAX_ARRAY_LENGTH")] 83

def k16m0 : Method := { name := "<init>", desc := "()V", sig := { parameters := [], returnType := none }, accessFlags := 2, code := none }
/-- jdk/internal/util/ArraysSupport -/
def k16 : Class := { plain "jdk/internal/util/ArraysSupport" (some 0) with
  accessFlags := 33
  interfaces := #[]
  cf := some (fileOf pool16 21 #[] #[{ accessFlags := 2, nameIndex := 9, descriptorIndex := 19, attributes := #[] }] 33 16 #[] #[{ accessFlags := 24, nameIndex := 28, descriptorIndex := 29, attributes := #[] }, { accessFlags := 26, nameIndex := 38, descriptorIndex := 39, attributes := #[] }, { accessFlags := 25, nameIndex := 121, descriptorIndex := 25, attributes := #[] }, { accessFlags := 25, nameIndex := 131, descriptorIndex := 25, attributes := #[] }, { accessFlags := 25, nameIndex := 137, descriptorIndex := 25, attributes := #[] }, { accessFlags := 25, nameIndex := 143, descriptorIndex := 25, attributes := #[] }, { accessFlags := 25, nameIndex := 53, descriptorIndex := 25, attributes := #[] }, { accessFlags := 25, nameIndex := 24, descriptorIndex := 25, attributes := #[] }, { accessFlags := 25, nameIndex := 162, descriptorIndex := 25, attributes := #[] }, { accessFlags := 25, nameIndex := 187, descriptorIndex := 25, attributes := #[] }, { accessFlags := 26, nameIndex := 48, descriptorIndex := 25, attributes := #[] }, { accessFlags := 25, nameIndex := 277, descriptorIndex := 25, attributes := #[] }, { accessFlags := 25, nameIndex := 280, descriptorIndex := 25, attributes := #[] }, { accessFlags := 25, nameIndex := 282, descriptorIndex := 25, attributes := #[] }, { accessFlags := 25, nameIndex := 284, descriptorIndex := 25, attributes := #[] }, { accessFlags := 25, nameIndex := 286, descriptorIndex := 25, attributes := #[] }, { accessFlags := 25, nameIndex := 288, descriptorIndex := 25, attributes := #[] }, { accessFlags := 25, nameIndex := 290, descriptorIndex := 25, attributes := #[] }, { accessFlags := 25, nameIndex := 292, descriptorIndex := 25, attributes := #[] }, { accessFlags := 26, nameIndex := 108, descriptorIndex := 109, attributes := #[] }, { accessFlags := 25, nameIndex := 294, descriptorIndex := 25, attributes := #[] }])
  fields := #[{ name := "U", type := (.object "jdk/internal/misc/Unsafe"), accessFlags := 24, slot := 0, constantValue := 0 }, { name := "BIG_ENDIAN", type := .boolean, accessFlags := 26, slot := 1, constantValue := 0 }, { name := "LOG2_ARRAY_BOOLEAN_INDEX_SCALE", type := .int, accessFlags := 25, slot := 2, constantValue := 0 }, { name := "LOG2_ARRAY_BYTE_INDEX_SCALE", type := .int, accessFlags := 25, slot := 3, constantValue := 0 }, { name := "LOG2_ARRAY_CHAR_INDEX_SCALE", type := .int, accessFlags := 25, slot := 4, constantValue := 0 }, { name := "LOG2_ARRAY_SHORT_INDEX_SCALE", type := .int, accessFlags := 25, slot := 5, constantValue := 0 }, { name := "LOG2_ARRAY_INT_INDEX_SCALE", type := .int, accessFlags := 25, slot := 6, constantValue := 0 }, { name := "LOG2_ARRAY_LONG_INDEX_SCALE", type := .int, accessFlags := 25, slot := 7, constantValue := 0 }, { name := "LOG2_ARRAY_FLOAT_INDEX_SCALE", type := .int, accessFlags := 25, slot := 8, constantValue := 0 }, { name := "LOG2_ARRAY_DOUBLE_INDEX_SCALE", type := .int, accessFlags := 25, slot := 9, constantValue := 0 }, { name := "LOG2_BYTE_BIT_SIZE", type := .int, accessFlags := 26, slot := 10, constantValue := 0 }, { name := "T_BOOLEAN", type := .int, accessFlags := 25, slot := 11, constantValue := 0 }, { name := "T_CHAR", type := .int, accessFlags := 25, slot := 12, constantValue := 0 }, { name := "T_FLOAT", type := .int, accessFlags := 25, slot := 13, constantValue := 0 }, { name := "T_DOUBLE", type := .int, accessFlags := 25, slot := 14, constantValue := 0 }, { name := "T_BYTE", type := .int, accessFlags := 25, slot := 15, constantValue := 0 }, { name := "T_SHORT", type := .int, accessFlags := 25, slot := 16, constantValue := 0 }, { name := "T_INT", type := .int, accessFlags := 25, slot := 17, constantValue := 0 }, { name := "T_LONG", type := .int, accessFlags := 25, slot := 18, constantValue := 0 }, { name := "JLA", type := (.object "jdk/internal/access/JavaLangAccess"), accessFlags := 26, slot := 19, constantValue := 0 }, { name := "SOFT_MAX_ARRAY_LENGTH", type := .int, accessFlags := 25, slot := 20, constantValue := 0 }]
  methods := #[k16m0]
  instanceTypes := #[]
  staticTypes := #[(.object "jdk/internal/misc/Unsafe"), .boolean, .int, .int, .int, .int, .int, .int, .int, .int, .int, .int, .int, .int, .int, .int, .int, .int, .int, (.object "jdk/internal/access/JavaLangAccess"), .int]
  resolved := Array.replicate 378 none
  statics := none }

def pool17 : Array CpInfo := pool [(1, u "java/lang/Cloneable"), (0, .class_ 1), (0, u "java/lang/Object"), (0, .class_ 3)] 3

/-- java/lang/Cloneable -/
def k17 : Class := { plain "java/lang/Cloneable" (some 0) with
  accessFlags := 1537
  interfaces := #[]
  cf := some (fileOf pool17 2 #[] #[] 1537 4 #[] #[])
  fields := #[]
  methods := #[]
  instanceTypes := #[]
  staticTypes := #[]
  resolved := Array.replicate 8 none
  statics := none }

/-- the primitive byte -/
def k18 : Class := { plain "byte" none with kind := .primitive 'B', accessFlags := 0x411 }
/-- [B -/
def k19 : Class := { plain "[B" (some 0) with kind := .array 18 .byte, interfaces := #[17, 2], accessFlags := 1041 }

/-- the primitive char -/
def k20 : Class := { plain "char" none with kind := .primitive 'C', accessFlags := 0x411 }
/-- [C -/
def k21 : Class := { plain "[C" (some 0) with kind := .array 20 .char, interfaces := #[17, 2], accessFlags := 1041 }

/-- the primitive int -/
def k22 : Class := { plain "int" none with kind := .primitive 'I', accessFlags := 0x411 }
/-- [I -/
def k23 : Class := { plain "[I" (some 0) with kind := .array 22 .int, interfaces := #[17, 2], accessFlags := 1041 }

def heap : Heap := #[{ cls := 7, slots := #[.long 0, .int 1, .null, .int 0, .null, .int 0, .int 0], vm := .statics 7 },
  { cls := 10, slots := #[.ref 3, .ref 4, .null], vm := .statics 10 },
  { cls := 15, slots := #[.null, .null, .null], vm := .statics 15 },
  { cls := 10, slots := #[.null, .int 0, .int 0, .null], vm := .none },
  { cls := 10, slots := #[.null, .int 0, .int 0, .null], vm := .none }]
def classes : Array Class := #[k0, k1, k2, k3, k4, k5, k6, k7, k8, k9, k10, k11, k12, k13, k14, k15, k16, k17, k18, k19, k20, k21, k22, k23]
def interned : List (Array UInt16 × Addr) := []
def slotsUsed : Nat := 21
def theMethod : MethodId := ⟨1, 1⟩
def args0 : Array Value := #[.int 1, .int 1, .int 1]
def aboutOver (below : List Frame) : State where
  vm := { classes := classes, interned := interned.toArray }
  heap := heap
  slotsUsed := slotsUsed
  threads := #[{ frames := .invoking theMethod args0 :: below }]
def below0 : List Frame := [.native { method := ⟨0, 0⟩, args := #[] }]
def about1 : State := aboutOver below0
def p0 : Program := .bare "" "" ""
def e0 : Env := launch0.env 0 0 0
theorem w_frames : about1.frames = Frame.invoking theMethod args0 :: below0 := rfl
set_option maxRecDepth 65536 in
theorem w_args : argsFit about1.vm theMethod args0 = true := by decide +kernel
set_option maxRecDepth 65536 in
theorem w_heap : heapFits about1 = true := by decide +kernel
set_option maxRecDepth 65536 in
theorem w_runnable : about1.curStatus? = some .runnable := by decide +kernel
set_option maxRecDepth 65536 in
theorem w_alone : about1.alone = true := by decide +kernel
set_option maxRecDepth 65536 in
theorem w_named : about1.methodNamed? x = some theMethod := by decide +kernel
set_option maxRecDepth 65536 in
theorem w_hears : about1.hears theMethod below0 = true := by decide +kernel
set_option maxRecDepth 65536 in
theorem w_ripe : about1.ripe theMethod args0 below0 = true := by decide +kernel
theorem w_running : about1.status = .running := rfl
set_option maxRecDepth 65536 in
theorem w_room : about1.hasRoom e0.platform room_1 = true :=
  launch0.hasRoom_least _ room_1 (by decide +kernel) (by decide +kernel) (by decide +kernel) (by decide +kernel) (by decide +kernel) (by decide +kernel)
theorem allAtoms_all (ts : List Jvm.Cond) (a : Array Jvm.Value) (st : Jvm.State) : (allAtoms ts).before a st = ts.all (fun c => c.before a st) := by
  induction ts with
  | nil => rfl
  | cons c t ih =>
    show (Jvm.Cond.and c (allAtoms t)).before a st = _
    rw [Jvm.Cond.before_and, ih, List.all_cons]
def words1 : List Jvm.Cond := Jvm.Cond.code x code maxLocals ret :: tables_1
/-- a 'code' word, met by the world's own term for the bytes: nothing is compared byte by byte -/
theorem code_word {y : MethodName} {bytes : ByteArray} {mx : Nat} {rt : Option FieldType} {a : Array Value} {s : State} {m : MethodId} {meth : Method} {c : Code} (h1 : s.methodNamed? y = some m) (h2 : s.vm.method? m = some meth) (h3 : meth.code = some c) (h4 : c.code = bytes)
    (h5 : (c.maxLocals == mx && c.exceptionTable.isEmpty && decide (c.maxStack ≤ mostOperands) && decide (meth.sig.returnType = rt) && !meth.locks && decide (parseMethodDescriptor y.desc = some meth.sig)) = true) : (Jvm.Cond.code y bytes mx rt).before a s = true := by
  simp only [Bool.and_eq_true, beq_iff_eq, Bool.not_eq_true', decide_eq_true_eq] at h5
  obtain ⟨⟨⟨⟨⟨g1, g2⟩, g3⟩, g4⟩, g5⟩, g6⟩ := h5
  simp [Cond.before, Cond.holds, Cond.value, h1, h2, h3, h4, g1, g2, g3, g4, g5, g6]
def isCode : Jvm.Cond → Bool
  | .code _ _ _ _ => true
  | _ => false
theorem all_split {L : List Jvm.Cond} {P : Jvm.Cond → Bool} (h1 : L.all (fun c => isCode c || P c) = true) (h2 : ∀ c ∈ L.filter isCode, P c = true) : L.all P = true := by
  refine List.all_eq_true.mpr fun c hc => ?_
  have h := List.all_eq_true.mp h1 c hc
  rcases Bool.eq_false_or_eq_true (isCode c) with hi | hi
  · exact h2 c (List.mem_filter.mpr ⟨hc, hi⟩)
  · simpa [hi] using h
set_option maxRecDepth 65536 in
theorem w_c0 : (Jvm.Cond.code x code maxLocals ret).before args0 about1 = true := code_word (m := ⟨1, 1⟩) (meth := k1m1) (c := k1c1) (by decide +kernel) rfl rfl rfl (by decide +kernel)
set_option maxRecDepth 65536 in
theorem w_c1 : (Jvm.Cond.code ({ cls := "java/lang/String", name := "<init>", desc := "([C)V" } : Jvm.MethodName) jdk_42_method_3_code (2 : Nat) (Option.none : Option Jvm.ClassFile.FieldType)).before args0 about1 = true := code_word (m := ⟨7, 1⟩) (meth := k7m1) (c := k7c1) (by decide +kernel) rfl rfl rfl (by decide +kernel)
set_option maxRecDepth 65536 in
theorem w_c2 : (Jvm.Cond.code ({ cls := "java/lang/String", name := "<init>", desc := "([CIILjava/lang/Void;)V" } : Jvm.MethodName) jdk_42_method_149_code (6 : Nat) (Option.none : Option Jvm.ClassFile.FieldType)).before args0 about1 = true := code_word (m := ⟨7, 3⟩) (meth := k7m3) (c := k7c3) (by decide +kernel) rfl rfl rfl (by decide +kernel)
set_option maxRecDepth 65536 in
theorem w_c3 : (Jvm.Cond.code ({ cls := "java/lang/Object", name := "<init>", desc := "()V" } : Jvm.MethodName) object_method_1_code (1 : Nat) (Option.none : Option Jvm.ClassFile.FieldType)).before args0 about1 = true := code_word (m := ⟨0, 0⟩) (meth := k0m0) (c := k0c0) (by decide +kernel) rfl rfl rfl (by decide +kernel)
set_option maxRecDepth 65536 in
theorem w_c4 : (Jvm.Cond.code ({ cls := "java/lang/StringUTF16", name := "compress", desc := "([CII)[B" } : Jvm.MethodName) jdk_52_method_16_code (6 : Nat) (Option.some (Jvm.ClassFile.FieldType.array Jvm.ClassFile.FieldType.byte))).before args0 about1 = true := code_word (m := ⟨8, 2⟩) (meth := k8m2) (c := k8c2) (by decide +kernel) rfl rfl rfl (by decide +kernel)
set_option maxRecDepth 65536 in
theorem w_c5 : (Jvm.Cond.code ({ cls := "java/lang/StringUTF16", name := "compress", desc := "([CI[BII)I" } : Jvm.MethodName) jdk_52_method_21_code (7 : Nat) (Option.some Jvm.ClassFile.FieldType.int)).before args0 about1 = true := code_word (m := ⟨8, 3⟩) (meth := k8m3) (c := k8c3) (by decide +kernel) rfl rfl rfl (by decide +kernel)
set_option maxRecDepth 65536 in
theorem w_c6 : (Jvm.Cond.code ({ cls := "java/lang/StringUTF16", name := "coderFromArrayLen", desc := "([BI)B" } : Jvm.MethodName) jdk_52_method_15_code (2 : Nat) (Option.some Jvm.ClassFile.FieldType.byte)).before args0 about1 = true := code_word (m := ⟨8, 1⟩) (meth := k8m1) (c := k8c1) (by decide +kernel) rfl rfl rfl (by decide +kernel)
set_option maxRecDepth 65536 in
theorem w_c7 : (Jvm.Cond.code ({ cls := "com/example/static_permission_checker/staticpermissionchecker/core/FlowConstraint", name := "<init>", desc := "(Ljava/lang/String;Lcom/example/static_permission_checker/staticpermissionchecker/core/FlowConstraint$Access;Ljava/lang/String;)V" } : Jvm.MethodName) prog_44_method_1_code (4 : Nat) (Option.none : Option Jvm.ClassFile.FieldType)).before args0 about1 = true := code_word (m := ⟨12, 0⟩) (meth := k12m0) (c := k12c0) (by decide +kernel) rfl rfl rfl (by decide +kernel)
set_option maxRecDepth 65536 in
theorem w_c8 : (Jvm.Cond.code ({ cls := "java/lang/Record", name := "<init>", desc := "()V" } : Jvm.MethodName) jdk_30_method_1_code (1 : Nat) (Option.none : Option Jvm.ClassFile.FieldType)).before args0 about1 = true := code_word (m := ⟨11, 0⟩) (meth := k11m0) (c := k11c0) (by decide +kernel) rfl rfl rfl (by decide +kernel)
set_option maxRecDepth 65536 in
theorem w_c9 : (Jvm.Cond.code ({ cls := "java/util/Objects", name := "requireNonNull", desc := "(Ljava/lang/Object;Ljava/lang/String;)Ljava/lang/Object;" } : Jvm.MethodName) jdk_31_method_11_code (2 : Nat) (Option.some (Jvm.ClassFile.FieldType.object "java/lang/Object"))).before args0 about1 = true := code_word (m := ⟨13, 1⟩) (meth := k13m1) (c := k13c1) (by decide +kernel) rfl rfl rfl (by decide +kernel)
set_option maxRecDepth 65536 in
theorem w_c10 : (Jvm.Cond.code ({ cls := "com/example/static_permission_checker/staticpermissionchecker/core/FlowConstraint", name := "holds", desc := "()Z" } : Jvm.MethodName) prog_44_method_2_code (1 : Nat) (Option.some Jvm.ClassFile.FieldType.boolean)).before args0 about1 = true := code_word (m := ⟨12, 1⟩) (meth := k12m1) (c := k12c1) (by decide +kernel) rfl rfl rfl (by decide +kernel)
set_option maxRecDepth 65536 in
theorem w_c11 : (Jvm.Cond.code ({ cls := "java/lang/String", name := "equals", desc := "(Ljava/lang/Object;)Z" } : Jvm.MethodName) jdk_42_method_66_code (3 : Nat) (Option.some Jvm.ClassFile.FieldType.boolean)).before args0 about1 = true := code_word (m := ⟨7, 2⟩) (meth := k7m2) (c := k7c2) (by decide +kernel) rfl rfl rfl (by decide +kernel)
set_option maxRecDepth 65536 in
theorem w_c12 : (Jvm.Cond.code ({ cls := "java/lang/StringLatin1", name := "equals", desc := "([B[B)Z" } : Jvm.MethodName) jdk_43_method_13_code (3 : Nat) (Option.some Jvm.ClassFile.FieldType.boolean)).before args0 about1 = true := code_word (m := ⟨14, 1⟩) (meth := k14m1) (c := k14c1) (by decide +kernel) rfl rfl rfl (by decide +kernel)
def codes1 : List Jvm.Cond := [Jvm.Cond.code x code maxLocals ret, Jvm.Cond.code ({ cls := "java/lang/String", name := "<init>", desc := "([C)V" } : Jvm.MethodName) jdk_42_method_3_code (2 : Nat) (Option.none : Option Jvm.ClassFile.FieldType), Jvm.Cond.code ({ cls := "java/lang/String", name := "<init>", desc := "([CIILjava/lang/Void;)V" } : Jvm.MethodName) jdk_42_method_149_code (6 : Nat) (Option.none : Option Jvm.ClassFile.FieldType), Jvm.Cond.code ({ cls := "java/lang/Object", name := "<init>", desc := "()V" } : Jvm.MethodName) object_method_1_code (1 : Nat) (Option.none : Option Jvm.ClassFile.FieldType), Jvm.Cond.code ({ cls := "java/lang/StringUTF16", name := "compress", desc := "([CII)[B" } : Jvm.MethodName) jdk_52_method_16_code (6 : Nat) (Option.some (Jvm.ClassFile.FieldType.array Jvm.ClassFile.FieldType.byte)), Jvm.Cond.code ({ cls := "java/lang/StringUTF16", name := "compress", desc := "([CI[BII)I" } : Jvm.MethodName) jdk_52_method_21_code (7 : Nat) (Option.some Jvm.ClassFile.FieldType.int), Jvm.Cond.code ({ cls := "java/lang/StringUTF16", name := "coderFromArrayLen", desc := "([BI)B" } : Jvm.MethodName) jdk_52_method_15_code (2 : Nat) (Option.some Jvm.ClassFile.FieldType.byte), Jvm.Cond.code ({ cls := "com/example/static_permission_checker/staticpermissionchecker/core/FlowConstraint", name := "<init>", desc := "(Ljava/lang/String;Lcom/example/static_permission_checker/staticpermissionchecker/core/FlowConstraint$Access;Ljava/lang/String;)V" } : Jvm.MethodName) prog_44_method_1_code (4 : Nat) (Option.none : Option Jvm.ClassFile.FieldType), Jvm.Cond.code ({ cls := "java/lang/Record", name := "<init>", desc := "()V" } : Jvm.MethodName) jdk_30_method_1_code (1 : Nat) (Option.none : Option Jvm.ClassFile.FieldType), Jvm.Cond.code ({ cls := "java/util/Objects", name := "requireNonNull", desc := "(Ljava/lang/Object;Ljava/lang/String;)Ljava/lang/Object;" } : Jvm.MethodName) jdk_31_method_11_code (2 : Nat) (Option.some (Jvm.ClassFile.FieldType.object "java/lang/Object")), Jvm.Cond.code ({ cls := "com/example/static_permission_checker/staticpermissionchecker/core/FlowConstraint", name := "holds", desc := "()Z" } : Jvm.MethodName) prog_44_method_2_code (1 : Nat) (Option.some Jvm.ClassFile.FieldType.boolean), Jvm.Cond.code ({ cls := "java/lang/String", name := "equals", desc := "(Ljava/lang/Object;)Z" } : Jvm.MethodName) jdk_42_method_66_code (3 : Nat) (Option.some Jvm.ClassFile.FieldType.boolean), Jvm.Cond.code ({ cls := "java/lang/StringLatin1", name := "equals", desc := "([B[B)Z" } : Jvm.MethodName) jdk_43_method_13_code (3 : Nat) (Option.some Jvm.ClassFile.FieldType.boolean)]
set_option maxRecDepth 65536 in
theorem codes_eq : words1.filter isCode = codes1 := rfl
theorem w_codes : ∀ c ∈ words1.filter isCode, c.before args0 about1 = true := by
  rw [codes_eq]
  intro c hc
  simp only [codes1, List.mem_cons, List.not_mem_nil, or_false] at hc
  rcases hc with rfl | rfl | rfl | rfl | rfl | rfl | rfl | rfl | rfl | rfl | rfl | rfl | rfl
  · exact w_c0
  · exact w_c1
  · exact w_c2
  · exact w_c3
  · exact w_c4
  · exact w_c5
  · exact w_c6
  · exact w_c7
  · exact w_c8
  · exact w_c9
  · exact w_c10
  · exact w_c11
  · exact w_c12
set_option maxRecDepth 65536 in
theorem w_t1 : (words1.take 24).all (fun c => isCode c || c.before args0 about1) = true := by decide +kernel
set_option maxRecDepth 65536 in
theorem w_t2 : ((words1.drop 24).take 24).all (fun c => isCode c || c.before args0 about1) = true := by decide +kernel
set_option maxRecDepth 65536 in
theorem w_t3 : (((words1.drop 24).drop 24).take 24).all (fun c => isCode c || c.before args0 about1) = true := by decide +kernel
set_option maxRecDepth 65536 in
theorem w_t4 : (((words1.drop 24).drop 24).drop 24).all (fun c => isCode c || c.before args0 about1) = true := by decide +kernel
theorem w_tables : (allAtoms (Jvm.Cond.code x code maxLocals ret :: tables_1)).before args0 about1 = true := by
  rw [allAtoms_all]
  show words1.all (fun c => c.before args0 about1) = true
  refine all_split ?_ w_codes
  rw [← List.take_append_drop 24 words1, List.all_append, w_t1, ← List.take_append_drop 24 (words1.drop 24), List.all_append, w_t2, ← List.take_append_drop 24 ((words1.drop 24).drop 24), List.all_append, w_t3, w_t4]
  rfl
set_option maxRecDepth 65536 in
theorem w_rest : rest_1_c.before args0 about1 = true := by decide +kernel
set_option maxRecDepth 65536 in
theorem w_case : (Jvm.Cond.and given_1 narrow_1).before args0 about1 = true := by decide +kernel
set_option maxRecDepth 65536 in
theorem w_consts : constsHeld consts_1 about1 := Jvm.Lit.constsHeldB_iff.mp (by decide +kernel)
theorem w_applies : (headSpec (Jvm.Cond.code x code maxLocals ret :: tables_1) room_1).applies x e0.platform about1 = true :=
  (Spec.applies_iff w_frames).mpr ⟨w_running, w_runnable, w_alone, w_named, w_hears, w_ripe, w_room, w_tables⟩
theorem atStart : AtStart classFile x code maxLocals ret World_1 tables_1 room_1 Calls_1 rest_1 Pre_1 launch0 p0 e0 about1 theMethod args0 below0 :=
  ⟨lists_1, trivial, launch0.admits_env _ _ _, launch0.least_env, fairChoices_fair.cas, fairChoices_fair.clock, w_frames, w_args, w_heap, w_applies, ⟨w_consts, trivial⟩, w_rest, w_case⟩
end start1
theorem witness_1 : WitnessClaimed_1 := ⟨start1.p0, start1.e0, start1.about1, start1.theMethod, start1.args0, start1.below0, start1.atStart⟩
end Jvm.Pilot.@@N@@
