import JvmDerived
import JvmDerived.Pilot.@@N@@Statement
import JvmDerived.Pilot.@@N@@Code
set_option linter.unusedVariables false
set_option linter.unusedSimpArgs false
/- laws to paste: Road.backV, Road.lenW, Road.chN, Road.eqW, Road.codOf (cut by pick.py; bodies as the Statement names them) -/
namespace Jvm.Pilot.@@N@@
namespace StrChars
open Jvm Sem ClassFile Op Lib Jvm.Stand Jvm.Free.XT Jvm.Free.ALB Jvm.Free.JM Jvm.Free
open Jvm.Lib.Cold (StaticIs)
/-- a char array whose places are chars -/
def Ch (a : Addr) (A : Cell) (U : State) : Prop := Arr .char a A U ∧ Typed .char A
theorem Ch.mv {a : Addr} {A : Cell} {U U' : State} (h : Ch a A U) (hal : U.vm.Alike U'.vm) (hh : U'.heap = U.heap) : Ch a A U' := ⟨h.1.mv hal hh, h.2⟩
theorem Ch.keep {a : Addr} {A : Cell} {U U' : State} (h : Ch a A U) (hal : U.vm.Alike U'.vm) (hk : U'.heap[a]? = some A) : Ch a A U' := ⟨h.1.keep hal hk, h.2⟩
/-- what place i of a char[]'s cell holds -/
def cv (A : Cell) (i : Nat) : Int32 := match A.slots[i]? with | some (.int x) => x | _ => 0
theorem Ch.get {a : Addr} {A : Cell} {U : State} (h : Ch a A U) {i : Nat} (hi : i < A.slots.size) : A.slots[i]? = some (.int (cv A i)) := by
  have e := Array.getElem?_eq_getElem hi
  have f := h.2 i _ e
  unfold cv; rw [e]
  generalize A.slots[i] = v at f
  cases v <;> simp [fits] at f ⊢
/-- the byte that i2b leaves of a char -/
def lo8 (x : Int32) : Int32 := x.toInt8.toInt32
theorem fits_lo8 (y : Int32) : fits .byte (.int (lo8 y)) = true := by
  have h1 := y.toInt8.le_toInt
  have h2 := y.toInt8.toInt_lt
  simp only [lo8, fits, Bool.and_eq_true, decide_eq_true_eq, Int32.le_iff_toInt_le, Int8.toInt_toInt32, show (-128 : Int32).toInt = -128 from by decide, show (127 : Int32).toInt = 127 from by decide]
  omega
/-- A' is A but that each place j of lo .. hi - 1 holds f j -/
def Laid (A A' : Cell) (lo hi : Nat) (f : Nat → Value) : Prop := A'.cls = A.cls ∧ A'.vm = A.vm ∧ A'.slots.size = A.slots.size ∧ ∀ i, A'.slots[i]? = if lo ≤ i ∧ i < hi then some (f i) else A.slots[i]?
theorem Laid.zero (A : Cell) (lo : Nat) (f : Nat → Value) : Laid A A lo (lo + 0) f := ⟨rfl, rfl, rfl, fun i => by rw [if_neg (by omega)]⟩
theorem Laid.step {A Ak : Cell} {lo k : Nat} {f : Nat → Value} {v : Value} (h : Laid A Ak lo k f) (hlo : lo ≤ k) (hk : k < Ak.slots.size) (hv : v = f k) : Laid A (Ak.setSlot k v) lo (k + 1) f := by
  refine ⟨h.1, h.2.1, by simpa [Cell.setSlot] using h.2.2.1, fun i => ?_⟩
  by_cases e : k = i
  · subst e; rw [Cell.slots_setSlot_self v hk, if_pos (by omega), hv]
  · rw [Cell.slots_setSlot_ne v e, h.2.2.2 i]
    by_cases q : lo ≤ i ∧ i < k
    · rw [if_pos q, if_pos (by omega)]
    · rw [if_neg q, if_neg (by omega)]
def U16 : String := "java/lang/StringUTF16"
namespace Cmp5
def yN : MethodName := ⟨"java/lang/StringUTF16", "compress", "([CI[BII)I"⟩
abbrev yB : ByteArray := jdk_52_method_21_code
theorem d0 : decode yB 0 = .ok (.iconst 0, 1) := by decide +kernel
theorem d1 : decode yB 1 = .ok (.istore 5, 2) := by decide +kernel
theorem d3 : decode yB 3 = .ok (.iload 5, 2) := by decide +kernel
theorem d5 : decode yB 5 = .ok (.iload 4, 2) := by decide +kernel
theorem d7 : decode yB 7 = .ok (.if_icmp (.ge) 37, 3) := by decide +kernel
theorem d10 : decode yB 10 = .ok (.aload_n 0, 1) := by decide +kernel
theorem d11 : decode yB 11 = .ok (.iload_n 1, 1) := by decide +kernel
theorem d12 : decode yB 12 = .ok (.caload, 1) := by decide +kernel
theorem d13 : decode yB 13 = .ok (.istore 6, 2) := by decide +kernel
theorem d15 : decode yB 15 = .ok (.iload 6, 2) := by decide +kernel
theorem d17 : decode yB 17 = .ok (.sipush 255, 3) := by decide +kernel
theorem d20 : decode yB 20 = .ok (.if_icmp (.le) 6, 3) := by decide +kernel
theorem d26 : decode yB 26 = .ok (.aload_n 2, 1) := by decide +kernel
theorem d27 : decode yB 27 = .ok (.iload_n 3, 1) := by decide +kernel
theorem d28 : decode yB 28 = .ok (.iload 6, 2) := by decide +kernel
theorem d30 : decode yB 30 = .ok (.i2b, 1) := by decide +kernel
theorem d31 : decode yB 31 = .ok (.bastore, 1) := by decide +kernel
theorem d32 : decode yB 32 = .ok (.iinc 1 1, 3) := by decide +kernel
theorem d35 : decode yB 35 = .ok (.iinc 3 1, 3) := by decide +kernel
theorem d38 : decode yB 38 = .ok (.iinc 5 1, 3) := by decide +kernel
theorem d41 : decode yB 41 = .ok (.goto (-38), 3) := by decide +kernel
theorem d44 : decode yB 44 = .ok (.iload 4, 2) := by decide +kernel
theorem d46 : decode yB 46 = .ok (.ireturn, 1) := by decide +kernel
def site : List Cond := []
def tab : Cond := tabOf yN yB 7 (some .int) site
def P (b : Addr) (A : Cell) (d : Addr) (B : Cell) (o q len : Nat) (args : Array Value) (s : State) : Prop := args = #[.ref b, .int (Int32.ofNat o), .ref d, .int (Int32.ofNat q), .int (Int32.ofNat len)] ∧ Ch b A s ∧ Arr .byte d B s ∧ b ≠ d ∧ o + len ≤ A.slots.size ∧ q + len ≤ B.slots.size ∧ ∀ i, i < len → ¬ 255 < cv A (o + i)
def E (b : Addr) (A : Cell) (d : Addr) (B : Cell) (o q len : Nat) (r : Option Value) (s u : State) : Prop := r = some (.int (Int32.ofNat len)) ∧ ∃ B', Put d B' s u ∧ Laid B B' q (q + len) (fun j => Value.int (lo8 (cv A (o + (j - q)))))
/-- no char of the range above 255: len; the places written hold each char's low byte -/
theorem law (l : Launch) (b : Addr) (A : Cell) (d : Addr) (B : Cell) (o q len : Nat) : Law l yN 5 5 0 0 yB 7 (some .int) site (P b A d B o q len) (E b A d B o q len) (copyLocs d q len) 0 0 := by
  refine Law.of_walk (plainFor_of_name (by decide +kernel)) (by decide +kernel) (by decide +kernel) (by decide) (fun _ _ h => by rw [h.1]; rfl) (fun _ U U' hal hh h => ⟨h.1, h.2.1.mv hal hh, h.2.2.1.mv hal hh, h.2.2.2⟩) (fun r U U' V V' h1 hal h2 h => ⟨h.1, h.2.elim fun B' q => ⟨B', q.1.mv h1 h2, q.2⟩⟩) ?_
  intro p e s m args below meth c s₁ X0 hexec hbytes hml hret hlk hnm hown hh0 W hP
  obtain ⟨rfl, hA, hB, hne, l1, l2, hp⟩ := hP
  have c1 : Steps p.tables e below (s₁.setTop (entryFrame m #[.ref b, .int (Int32.ofNat o), .ref d, .int (Int32.ofNat q), .int (Int32.ofNat len)] 7)) (s₁.setTop (mkF m 0 #[.val (.ref b), .val (.int (Int32.ofNat o)), .val (.ref d), .val (.int (Int32.ofNat q)), .val (.int (Int32.ofNat len)), .unset, .unset] [])) := entry rfl
  have hA0 := hA.1.mv X0.warmed.alike hh0
  have hB0 := hB.mv X0.warmed.alike hh0
  have a31 := hA.1.2.2.2
  have c2 : Steps p.tables e below (s₁.setTop (entryFrame m #[.ref b, .int (Int32.ofNat o), .ref d, .int (Int32.ofNat q), .int (Int32.ofNat len)] 7)) (s₁.setTop (mkF m 3 #[.val (.ref b), .val (.int (Int32.ofNat o)), .val (.ref d), .val (.int (Int32.ofNat q)), .val (.int (Int32.ofNat len)), .val (.int 0), .unset] [])) := c1.trans (by
    refine iconstV X0.here hexec rfl 0 (hb hbytes d0) (by decide) ?_
    refine XS.istore X0.here hexec rfl (hb hbytes d1) rfl rfl ?_
    exact Steps.refl _)
  have loop : ∀ (r i : Nat), i + r = len → ∀ (z : Slot), (z = .unset ∨ ∃ w, z = .val w ∧ w.category = 1) → ∀ (Tl : State) (Bk : Cell), Stand p l e { frames := 0, locals := 0, cells := 0, slots := 0 } s m #[.ref b, .int (Int32.ofNat o), .ref d, .int (Int32.ofNat q), .int (Int32.ofNat len)] below meth c Tl ([] ++ copyLocs d q i) 0 0 → Put d Bk s₁ Tl → Laid B Bk q (q + i) (fun j => Value.int (lo8 (cv A (o + (j - q))))) →
      Steps p.tables e below (s₁.setTop (entryFrame m #[.ref b, .int (Int32.ofNat o), .ref d, .int (Int32.ofNat q), .int (Int32.ofNat len)] 7)) (Tl.setTop (mkF m 3 #[.val (.ref b), .val (.int (Int32.ofNat (o + i))), .val (.ref d), .val (.int (Int32.ofNat (q + i))), .val (.int (Int32.ofNat len)), .val (.int (Int32.ofNat i)), z] [])) → ∃ (T' : State) (B' : Cell) (z' : Slot), Stand p l e { frames := 0, locals := 0, cells := 0, slots := 0 } s m #[.ref b, .int (Int32.ofNat o), .ref d, .int (Int32.ofNat q), .int (Int32.ofNat len)] below meth c T' ([] ++ copyLocs d q len) 0 0 ∧ Put d B' s₁ T' ∧ Laid B B' q (q + len) (fun j => Value.int (lo8 (cv A (o + (j - q))))) ∧
      Steps p.tables e below (s₁.setTop (entryFrame m #[.ref b, .int (Int32.ofNat o), .ref d, .int (Int32.ofNat q), .int (Int32.ofNat len)] 7)) (T'.setTop (mkF m 3 #[.val (.ref b), .val (.int (Int32.ofNat (o + len))), .val (.ref d), .val (.int (Int32.ofNat (q + len))), .val (.int (Int32.ofNat len)), .val (.int (Int32.ofNat len)), z'] [])) := by
    intro r
    induction r with
    | zero =>
      intro i hi z hz Tl Bk Xl pl fl cl
      have hil : i = len := by omega
      rw [hil] at Xl fl cl
      exact ⟨Tl, Bk, z, Xl, pl, fl, cl⟩
    | succ r ih =>
      intro i hi z hz Tl Bk Xl pl fl cl
      have all := X0.warmed.alike.symm.trans Xl.warmed.alike
      have hAl := hA0.keep all (pl.other hne hA0.1)
      have hBk := hB0.like all pl.1 fl.1 fl.2.1 fl.2.2.1
      have hlt : q + i < Bk.slots.size := by rw [fl.2.2.1]; omega
      have c3 : Steps p.tables e below (s₁.setTop (entryFrame m #[.ref b, .int (Int32.ofNat o), .ref d, .int (Int32.ofNat q), .int (Int32.ofNat len)] 7)) (Tl.setTop (mkF m 12 #[.val (.ref b), .val (.int (Int32.ofNat (o + i))), .val (.ref d), .val (.int (Int32.ofNat (q + i))), .val (.int (Int32.ofNat len)), .val (.int (Int32.ofNat i)), z] [.int (Int32.ofNat (o + i)), .ref b])) := cl.trans (by
        refine XS.iload Xl.here hexec rfl (hb hbytes d3) rfl ?_
        refine XS.iload Xl.here hexec rfl (hb hbytes d5) rfl ?_
        refine XS.icmpNo Xl.here hexec rfl (hb hbytes d7) rfl (ii_ge_f (lt32 (by omega) (by omega))) ?_
        refine XS.aloadN Xl.here hexec rfl (hb hbytes d10) rfl rfl ?_
        refine XS.iloadN Xl.here hexec rfl (hb hbytes d11) rfl ?_
        exact Steps.refl _)
      have c4 : Steps p.tables e below (s₁.setTop (entryFrame m #[.ref b, .int (Int32.ofNat o), .ref d, .int (Int32.ofNat q), .int (Int32.ofNat len)] 7)) (Tl.setTop (mkF m 13 #[.val (.ref b), .val (.int (Int32.ofNat (o + i))), .val (.ref d), .val (.int (Int32.ofNat (q + i))), .val (.int (Int32.ofNat len)), .val (.int (Int32.ofNat i)), z] [.int (cv A (o + i))])) := c3.trans (by
        refine Xl.aget hexec hAl rfl (hA.get (i := o + i) (by omega)) rfl rfl (hb hbytes d12) ?_
        exact Steps.refl _)
      have c5 : Steps p.tables e below (s₁.setTop (entryFrame m #[.ref b, .int (Int32.ofNat o), .ref d, .int (Int32.ofNat q), .int (Int32.ofNat len)] 7)) (Tl.setTop (mkF m 15 #[.val (.ref b), .val (.int (Int32.ofNat (o + i))), .val (.ref d), .val (.int (Int32.ofNat (q + i))), .val (.int (Int32.ofNat len)), .val (.int (Int32.ofNat i)), .val (.int (cv A (o + i)))] [])) := c4.trans (by
        refine XS.istoreS Xl.here hexec rfl (hb hbytes d13) rfl rfl hz ?_
        exact Steps.refl _)
      have c6 : Steps p.tables e below (s₁.setTop (entryFrame m #[.ref b, .int (Int32.ofNat o), .ref d, .int (Int32.ofNat q), .int (Int32.ofNat len)] 7)) (Tl.setTop (mkF m 31 #[.val (.ref b), .val (.int (Int32.ofNat (o + i))), .val (.ref d), .val (.int (Int32.ofNat (q + i))), .val (.int (Int32.ofNat len)), .val (.int (Int32.ofNat i)), .val (.int (cv A (o + i)))] [.int (lo8 (cv A (o + i))), .int (Int32.ofNat (q + i)), .ref d])) := c5.trans (by
        refine XS.iload Xl.here hexec rfl (hb hbytes d15) rfl ?_
        refine sipushV Xl.here hexec rfl 255 (hb hbytes d17) (by decide) ?_
        refine XS.icmpYes Xl.here hexec rfl (pc0 := 20) rfl (hb hbytes d20) rfl (ii_le_t (hp i (by omega))) (by decide) rfl ?_
        refine XS.aloadN Xl.here hexec rfl (hb hbytes d26) rfl rfl ?_
        refine XS.iloadN Xl.here hexec rfl (hb hbytes d27) rfl ?_
        refine XS.iload Xl.here hexec rfl (hb hbytes d28) rfl ?_
        refine i2b Xl.here hexec rfl (hb hbytes d30) rfl ?_
        exact Steps.refl _)
      obtain ⟨T7, X7, p7, st7⟩ := Xl.aput hexec hBk rfl hlt rfl (fits_lo8 (cv A (o + i))) (g := (mkF m 31 #[.val (.ref b), .val (.int (Int32.ofNat (o + i))), .val (.ref d), .val (.int (Int32.ofNat (q + i))), .val (.int (Int32.ofNat len)), .val (.int (Int32.ofNat i)), .val (.int (cv A (o + i)))] [.int (lo8 (cv A (o + i))), .int (Int32.ofNat (q + i)), .ref d])) rfl (rest := []) rfl (hb hbytes d31)
      have c8 : Steps p.tables e below (s₁.setTop (entryFrame m #[.ref b, .int (Int32.ofNat o), .ref d, .int (Int32.ofNat q), .int (Int32.ofNat len)] 7)) (T7.setTop (mkF m 32 #[.val (.ref b), .val (.int (Int32.ofNat (o + i))), .val (.ref d), .val (.int (Int32.ofNat (q + i))), .val (.int (Int32.ofNat len)), .val (.int (Int32.ofNat i)), .val (.int (cv A (o + i)))] [])) := c6.trans (st7 _ (Steps.refl _))
      have c9 : Steps p.tables e below (s₁.setTop (entryFrame m #[.ref b, .int (Int32.ofNat o), .ref d, .int (Int32.ofNat q), .int (Int32.ofNat len)] 7)) (T7.setTop (mkF m 3 #[.val (.ref b), .val (.int (Int32.ofNat (o + i) + 1)), .val (.ref d), .val (.int (Int32.ofNat (q + i) + 1)), .val (.int (Int32.ofNat len)), .val (.int (Int32.ofNat i + 1)), .val (.int (cv A (o + i)))] [])) := c8.trans (by
        refine iincV X7.here hexec rfl 1 (hb hbytes d32) (by decide) rfl rfl ?_
        refine iincV X7.here hexec rfl 1 (hb hbytes d35) (by decide) rfl rfl ?_
        refine iincV X7.here hexec rfl 1 (hb hbytes d38) (by decide) rfl rfl ?_
        refine XS.goto X7.here hexec rfl (pc0 := 41) rfl (hb hbytes d41) (by decide) rfl ?_
        exact Steps.refl _)
      have c10 : Steps p.tables e below (s₁.setTop (entryFrame m #[.ref b, .int (Int32.ofNat o), .ref d, .int (Int32.ofNat q), .int (Int32.ofNat len)] 7)) (T7.setTop (mkF m 3 #[.val (.ref b), .val (.int (Int32.ofNat (o + (i + 1)))), .val (.ref d), .val (.int (Int32.ofNat (q + (i + 1)))), .val (.int (Int32.ofNat len)), .val (.int (Int32.ofNat (i + 1))), .val (.int (cv A (o + i)))] [])) := by
        have := c9
        rw [succ32, succ32, succ32] at this
        exact this
      exact ih (i + 1) (by omega) _ (Or.inr ⟨_, rfl, rfl⟩) T7 _ (by rw [copyLocs_step, ← List.append_assoc]; exact X7) (pl.trans p7) (fl.step (by omega) hlt (by simp)) c10
  obtain ⟨T9, B9, z9, X9, p9, f9, g9⟩ := loop len 0 (by omega) .unset (Or.inl rfl) s₁ B (by simpa [copyLocs] using X0) ⟨hB0.1, fun _ _ => rfl, rfl⟩ (Laid.zero _ _ _) c2
  have c11 : Steps p.tables e below (s₁.setTop (entryFrame m #[.ref b, .int (Int32.ofNat o), .ref d, .int (Int32.ofNat q), .int (Int32.ofNat len)] 7)) (T9.setTop (mkF m 46 #[.val (.ref b), .val (.int (Int32.ofNat (o + len))), .val (.ref d), .val (.int (Int32.ofNat (q + len))), .val (.int (Int32.ofNat len)), .val (.int (Int32.ofNat len)), z9] [.int (Int32.ofNat len)])) := g9.trans (by
    refine XS.iload X9.here hexec rfl (hb hbytes d3) rfl ?_
    refine XS.iload X9.here hexec rfl (hb hbytes d5) rfl ?_
    refine XS.icmpYes X9.here hexec rfl (pc0 := 7) rfl (hb hbytes d7) rfl (ii_ge_t (nlt32 (by omega) (Nat.le_refl _))) (by decide) rfl ?_
    refine XS.iload X9.here hexec rfl (hb hbytes d44) rfl ?_
    exact Steps.refl _)
  exact ⟨T9, some (.int (Int32.ofNat len)), _, _, _, X9, by simp, rfl, rfl, (fun h => by cases h), ⟨rfl, B9, p9.from hh0, f9⟩, fun fs hl => c11.trans (X9.ireturnOut hexec hret rfl (Or.inl rfl) (hb hbytes d46) hl)⟩
end Cmp5
namespace Cmp3
def yN : MethodName := ⟨"java/lang/StringUTF16", "compress", "([CII)[B"⟩
abbrev yB : ByteArray := jdk_52_method_16_code
theorem d0 : decode yB 0 = .ok (.iload_n 2, 1) := by decide +kernel
theorem d1 : decode yB 1 = .ok (.newarray .byte, 2) := by decide +kernel
theorem d3 : decode yB 3 = .ok (.astore_n 3, 1) := by decide +kernel
theorem d4 : decode yB 4 = .ok (.aload_n 0, 1) := by decide +kernel
theorem d5 : decode yB 5 = .ok (.iload_n 1, 1) := by decide +kernel
theorem d6 : decode yB 6 = .ok (.aload_n 3, 1) := by decide +kernel
theorem d7 : decode yB 7 = .ok (.iconst 0, 1) := by decide +kernel
theorem d8 : decode yB 8 = .ok (.iload_n 2, 1) := by decide +kernel
theorem d9 : decode yB 9 = .ok (.invokestatic 115, 3) := by decide +kernel
theorem d12 : decode yB 12 = .ok (.istore 4, 2) := by decide +kernel
theorem d14 : decode yB 14 = .ok (.iload 4, 2) := by decide +kernel
theorem d16 : decode yB 16 = .ok (.iload_n 2, 1) := by decide +kernel
theorem d17 : decode yB 17 = .ok (.if_icmp (.eq) 40, 3) := by decide +kernel
theorem d57 : decode yB 57 = .ok (.aload_n 3, 1) := by decide +kernel
theorem d58 : decode yB 58 = .ok (.areturn, 1) := by decide +kernel
def site : List Cond := [.arrayClass .byte, Cmp5.tab] ++ staticW U16 115 Cmp5.yN
def tab : Cond := tabOf yN yB 6 (some (.array .byte)) site
def P (b : Addr) (A : Cell) (o len : Nat) (args : Array Value) (s : State) : Prop := args = #[.ref b, .int (Int32.ofNat o), .int (Int32.ofNat len)] ∧ Ch b A s ∧ o + len ≤ A.slots.size ∧ len ≤ 536870912 ∧ ∀ i, i < len → ¬ 255 < cv A (o + i)
def E (b : Addr) (A : Cell) (o len : Nat) (r : Option Value) (s u : State) : Prop := NewArr .byte "[B" len (fun j => .int (lo8 (cv A (o + j)))) r s u ∧ u.heap.size = s.heap.size + 1
/-- no char of the range above 255: a new byte[] of their low bytes -/
theorem law (l : Launch) (b : Addr) (A : Cell) (o len : Nat) : Law l yN 3 3 1 18 yB 6 (some (.array .byte)) site (P b A o len) (E b A o len) [] 1 len := by
  refine Law.of_walk (plainFor_of_name (by decide +kernel)) (by decide +kernel) (by decide +kernel) (by decide) (fun _ _ h => by rw [h.1]; rfl) (fun _ U U' hal hh h => ⟨h.1, h.2.1.mv hal hh, h.2.2⟩) (fun r U U' V V' h1 hal h2 h => ⟨NewArr.mv r U U' V V' h1 hal h2 h.1, by rw [h1, h2]; exact h.2⟩) ?_
  intro p e s m args below meth c s₁ X0 hexec hbytes hml hret hlk hnm hown hh0 W hP
  obtain ⟨rfl, hA, l1, l2, hp⟩ := hP
  have a31 := hA.1.2.2.2
  have c1 : Steps p.tables e below (s₁.setTop (entryFrame m #[.ref b, .int (Int32.ofNat o), .int (Int32.ofNat len)] 6)) (s₁.setTop (mkF m 0 #[.val (.ref b), .val (.int (Int32.ofNat o)), .val (.int (Int32.ofNat len)), .unset, .unset, .unset] [])) := entry rfl
  have c2 : Steps p.tables e below (s₁.setTop (entryFrame m #[.ref b, .int (Int32.ofNat o), .int (Int32.ofNat len)] 6)) (s₁.setTop (mkF m 1 #[.val (.ref b), .val (.int (Int32.ofNat o)), .val (.int (Int32.ofNat len)), .unset, .unset, .unset] [.int (Int32.ofNat len)])) := c1.trans (by
    refine XS.iloadN X0.here hexec rfl (hb hbytes d0) rfl ?_
    exact Steps.refl _)
  obtain ⟨T3, B3, X3, ba3, bs3, bv3, bh3, bf3, st3⟩ := X0.anew hexec (atype := .byte) (wk W (.arrayClass .byte)) rfl (by show len * 1 ≤ _; omega) (by omega) (g := (mkF m 1 #[.val (.ref b), .val (.int (Int32.ofNat o)), .val (.int (Int32.ofNat len)), .unset, .unset, .unset] [.int (Int32.ofNat len)])) rfl (hb hbytes d1) (rest := []) rfl (Nat.le_refl _) (by show 0 + len ≤ len; omega)
  rw [hh0] at ba3 st3
  have kp3 : XT.Kept s T3 := (XT.Kept.of_eq hh0).push bh3
  have hA3 := hA.keep X3.warmed.alike (kp3 _ _ hA.1.1)
  have hne : b ≠ s.heap.size := hA.1.ne
  have c4 : Steps p.tables e below (s₁.setTop (entryFrame m #[.ref b, .int (Int32.ofNat o), .int (Int32.ofNat len)] 6)) (T3.setTop (mkF m 3 #[.val (.ref b), .val (.int (Int32.ofNat o)), .val (.int (Int32.ofNat len)), .unset, .unset, .unset] [.ref s.heap.size])) := c2.trans (st3 _ (Steps.refl _))
  have c5 : Steps p.tables e below (s₁.setTop (entryFrame m #[.ref b, .int (Int32.ofNat o), .int (Int32.ofNat len)] 6)) (T3.setTop (mkF m 9 #[.val (.ref b), .val (.int (Int32.ofNat o)), .val (.int (Int32.ofNat len)), .val (.ref s.heap.size), .unset, .unset] [.int (Int32.ofNat len), .int 0, .ref s.heap.size, .int (Int32.ofNat o), .ref b])) := c4.trans (by
    refine XS.astoreN X3.here hexec rfl (hb hbytes d3) rfl rfl rfl ?_
    refine XS.aloadN X3.here hexec rfl (hb hbytes d4) rfl rfl ?_
    refine XS.iloadN X3.here hexec rfl (hb hbytes d5) rfl ?_
    refine XS.aloadN X3.here hexec rfl (hb hbytes d6) rfl rfl ?_
    refine iconstV X3.here hexec rfl 0 (hb hbytes d7) (by decide) ?_
    refine XS.iloadN X3.here hexec rfl (hb hbytes d8) rfl ?_
    exact Steps.refl _)
  obtain ⟨v6, T6, X6, E6, g6⟩ := X3.callS hexec (Cmp5.law l b A s.heap.size B3 o 0 len) hown (wks W (staticW U16 115 Cmp5.yN)) (wk W Cmp5.tab) (W := 0) (Nat.le_of_ble_eq_true rfl) (Nat.le_of_ble_eq_true rfl) (Nat.le_refl _) (by show 0 + len + 0 ≤ len; omega) (g := (mkF m 9 #[.val (.ref b), .val (.int (Int32.ofNat o)), .val (.int (Int32.ofNat len)), .val (.ref s.heap.size), .unset, .unset] [.int (Int32.ofNat len), .int (Int32.ofNat 0), .ref s.heap.size, .int (Int32.ofNat o), .ref b])) rfl (by rw [hml]; rfl) c5 (argsL := [.ref b, .int (Int32.ofNat o), .ref s.heap.size, .int (Int32.ofNat 0), .int (Int32.ofNat len)]) (rest := []) rfl rfl (by show 2 * 0 + 0 ≤ _; decide) (hb hbytes d9) (⟨rfl, hA3, ba3, hne, l1, by rw [bs3]; simp, hp⟩)
  obtain ⟨rfl, B6, p6, f6⟩ := E6
  have c7 : Steps p.tables e below (s₁.setTop (entryFrame m #[.ref b, .int (Int32.ofNat o), .int (Int32.ofNat len)] 6)) (T6.setTop (mkF m 12 #[.val (.ref b), .val (.int (Int32.ofNat o)), .val (.int (Int32.ofNat len)), .val (.ref s.heap.size), .unset, .unset] [.int (Int32.ofNat len)])) := g6
  have c8 : Steps p.tables e below (s₁.setTop (entryFrame m #[.ref b, .int (Int32.ofNat o), .int (Int32.ofNat len)] 6)) (T6.setTop (mkF m 58 #[.val (.ref b), .val (.int (Int32.ofNat o)), .val (.int (Int32.ofNat len)), .val (.ref s.heap.size), .val (.int (Int32.ofNat len)), .unset] [.ref s.heap.size])) := c7.trans (by
    refine XS.istore X6.here hexec rfl (hb hbytes d12) rfl rfl ?_
    refine XS.iload X6.here hexec rfl (hb hbytes d14) rfl ?_
    refine XS.iloadN X6.here hexec rfl (hb hbytes d16) rfl ?_
    refine XS.icmpYes X6.here hexec rfl (pc0 := 17) rfl (hb hbytes d17) rfl (ii_eq_t rfl) (by decide) rfl ?_
    refine XS.aloadN X6.here hexec rfl (hb hbytes d57) rfl rfl ?_
    exact Steps.refl _)
  have X8 := X6.wide (L' := []) (cells' := 1) (slots' := len) (fun x hx hlt => by
    simp only [List.nil_append, copyLocs, List.mem_map, List.mem_range] at hx
    obtain ⟨i, -, rfl⟩ := hx
    exact absurd hlt (Nat.lt_irrefl _)) (Nat.le_refl _) (by omega)
  exact ⟨T6, some (.ref s.heap.size), _, _, _, X8, rfl, rfl, rfl, (fun h => by cases h), ⟨⟨rfl, B6, ba3.like (X3.warmed.alike.symm.trans X6.warmed.alike) p6.1 f6.1 f6.2.1 f6.2.2.1, f6.2.1.trans bv3, by rw [X6.warmed.alike.findClass, f6.1]; exact bf3, by rw [f6.2.2.1, bs3]; simp, fun j hj => by rw [f6.2.2.2 j, if_pos (by omega)]; rfl, kp3.put p6 (Nat.le_refl _)⟩, by rw [p6.2.2, bh3, hh0]; simp⟩, fun fs hl => c8.trans (X8.areturnOut hexec rfl hret rfl (hb hbytes d58) hl)⟩
end Cmp3
namespace CodL
def yN : MethodName := ⟨"java/lang/StringUTF16", "coderFromArrayLen", "([BI)B"⟩
abbrev yB : ByteArray := jdk_52_method_15_code
theorem d0 : decode yB 0 = .ok (.iload_n 1, 1) := by decide +kernel
theorem d1 : decode yB 1 = .ok (.aload_n 0, 1) := by decide +kernel
theorem d2 : decode yB 2 = .ok (.arraylength, 1) := by decide +kernel
theorem d3 : decode yB 3 = .ok (.isub, 1) := by decide +kernel
theorem d4 : decode yB 4 = .ok (.bipush 31, 2) := by decide +kernel
theorem d6 : decode yB 6 = .ok (.iushr, 1) := by decide +kernel
theorem d7 : decode yB 7 = .ok (.i2b, 1) := by decide +kernel
theorem d8 : decode yB 8 = .ok (.ireturn, 1) := by decide +kernel
def site : List Cond := []
def tab : Cond := tabOf yN yB 2 (some .byte) site
def P (d : Addr) (B : Cell) (args : Array Value) (s : State) : Prop := args = #[.ref d, .int (Int32.ofNat B.slots.size)] ∧ Arr .byte d B s
def E (r : Option Value) (s u : State) : Prop := XT.PureE (some (.int 0)) r s u
/-- an array as long as the number of chars: LATIN1 -/
theorem law (l : Launch) (d : Addr) (B : Cell) : Law l yN 2 2 0 0 yB 2 (some .byte) site (P d B) E [] 0 0 := by
  refine Law.of_walk (plainFor_of_name (by decide +kernel)) (by decide +kernel) (by decide +kernel) (by decide) (fun _ _ h => by rw [h.1]; rfl) (fun _ U U' hal hh h => ⟨h.1, h.2.mv hal hh⟩) (fun r U U' V V' h1 hal h2 h => XT.PureE.mv r U U' V V' h1 hal h2 h) ?_
  intro p e s m args below meth c s₁ X0 hexec hbytes hml hret hlk hnm hown hh0 W hP
  obtain ⟨rfl, hB⟩ := hP
  have hB0 := hB.mv X0.warmed.alike hh0
  have c1 : Steps p.tables e below (s₁.setTop (entryFrame m #[.ref d, .int (Int32.ofNat B.slots.size)] 2)) (s₁.setTop (mkF m 0 #[.val (.ref d), .val (.int (Int32.ofNat B.slots.size))] [])) := entry rfl
  have c2 : Steps p.tables e below (s₁.setTop (entryFrame m #[.ref d, .int (Int32.ofNat B.slots.size)] 2)) (s₁.setTop (mkF m 2 #[.val (.ref d), .val (.int (Int32.ofNat B.slots.size))] [.ref d, .int (Int32.ofNat B.slots.size)])) := c1.trans (by
    refine XS.iloadN X0.here hexec rfl (hb hbytes d0) rfl ?_
    refine XS.aloadN X0.here hexec rfl (hb hbytes d1) rfl rfl ?_
    exact Steps.refl _)
  have c3 : Steps p.tables e below (s₁.setTop (entryFrame m #[.ref d, .int (Int32.ofNat B.slots.size)] 2)) (s₁.setTop (mkF m 8 #[.val (.ref d), .val (.int (Int32.ofNat B.slots.size))] [.int (lo8 (ushr (Int32.ofNat B.slots.size - Int32.ofNat B.slots.size) 31))])) := c2.trans (by
    refine X0.alen hexec hB0 rfl rfl (hb hbytes d2) ?_
    refine XS.isub X0.here hexec rfl (hb hbytes d3) rfl ?_
    refine bipushV X0.here hexec rfl 31 (hb hbytes d4) (by decide) ?_
    refine iushr X0.here hexec rfl (hb hbytes d6) rfl ?_
    refine i2b X0.here hexec rfl (hb hbytes d7) rfl ?_
    exact Steps.refl _)
  have e0 : lo8 (ushr (Int32.ofNat B.slots.size - Int32.ofNat B.slots.size) 31) = 0 := by rw [Int32.sub_self]; decide
  rw [e0] at c3
  exact ⟨s₁, some (.int 0), _, _, _, X0, rfl, rfl, rfl, (fun h => by cases h), ⟨rfl, hh0⟩, fun fs hl => c3.trans (X0.ireturnOut hexec hret rfl (Or.inr (Or.inr (Or.inl rfl))) (hb hbytes d8) hl)⟩
end CodL
/-- the String at a is Latin-1 over a new byte[] (the heap's one new cell): the low bytes of the len chars of A from o on; every cell but a is kept -/
def Got (a : Addr) (D : Cell) (fV fC : Field) (A : Cell) (o len : Nat) (r : Option Value) (s u : State) : Prop := r = none ∧ ∃ D' V : Cell, Blank "java/lang/String" a D' u ∧ Same D D' [fV.slot, fC.slot] ∧ D'.slots[fV.slot]? = some (.ref s.heap.size) ∧ D'.slots[fC.slot]? = some (.int 0) ∧ Arr .byte s.heap.size V u ∧ V.vm = .none ∧ u.vm.findClass "[B" = some V.cls ∧ V.slots.size = len ∧ (∀ j, j < len → V.slots[j]? = some (.int (lo8 (cv A (o + j))))) ∧ (∀ (y : Addr) (c : Cell), y ≠ a → s.heap[y]? = some c → u.heap[y]? = some c) ∧ u.heap.size = s.heap.size + 1
theorem Got.mv {a : Addr} {D A : Cell} {fV fC : Field} {o len : Nat} : ∀ r (U U' V V' : State), U'.heap = U.heap → V.vm.Alike V'.vm → V'.heap = V.heap → Got a D fV fC A o len r U V → Got a D fV fC A o len r U' V' :=
  fun r U U' V V' h1 hal h2 ⟨e0, D', X, a1, a2, a3, a4, a5, a6, a7, a8, a9, a10, a11⟩ => ⟨e0, D', X, a1.mv hal h2, a2, by rw [h1]; exact a3, a4, by rw [h1]; exact a5.mv hal h2, a6, by rw [hal.findClass]; exact a7, a8, a9, by rw [h1, h2]; exact a10, by rw [h1, h2]; exact a11⟩
namespace New4
def yN : MethodName := ⟨"java/lang/String", "<init>", "([CIILjava/lang/Void;)V"⟩
abbrev yB : ByteArray := jdk_42_method_149_code
theorem d0 : decode yB 0 = .ok (.aload_n 0, 1) := by decide +kernel
theorem d1 : decode yB 1 = .ok (.invokespecial 1, 3) := by decide +kernel
theorem d4 : decode yB 4 = .ok (.iload_n 3, 1) := by decide +kernel
theorem d5 : decode yB 5 = .ok (.ifCond (.ne) 22, 3) := by decide +kernel
theorem d27 : decode yB 27 = .ok (.getstatic 38, 3) := by decide +kernel
theorem d30 : decode yB 30 = .ok (.ifCond (.eq) 28, 3) := by decide +kernel
theorem d33 : decode yB 33 = .ok (.aload_n 1, 1) := by decide +kernel
theorem d34 : decode yB 34 = .ok (.iload_n 2, 1) := by decide +kernel
theorem d35 : decode yB 35 = .ok (.iload_n 3, 1) := by decide +kernel
theorem d36 : decode yB 36 = .ok (.invokestatic 177, 3) := by decide +kernel
theorem d39 : decode yB 39 = .ok (.astore 5, 2) := by decide +kernel
theorem d41 : decode yB 41 = .ok (.aload_n 0, 1) := by decide +kernel
theorem d42 : decode yB 42 = .ok (.aload 5, 2) := by decide +kernel
theorem d44 : decode yB 44 = .ok (.iload_n 3, 1) := by decide +kernel
theorem d45 : decode yB 45 = .ok (.invokestatic 47, 3) := by decide +kernel
theorem d48 : decode yB 48 = .ok (.putfield 15, 3) := by decide +kernel
theorem d51 : decode yB 51 = .ok (.aload_n 0, 1) := by decide +kernel
theorem d52 : decode yB 52 = .ok (.aload 5, 2) := by decide +kernel
theorem d54 : decode yB 54 = .ok (.putfield 9, 3) := by decide +kernel
theorem d57 : decode yB 57 = .ok (.return_, 1) := by decide +kernel
def site : List Cond := [.fieldLink "java/lang/String" 38 "java/lang/String" "COMPACT_STRINGS" "Z", Cmp3.tab, CodL.tab, .laysFinal "java/lang/String" "java/lang/String" "value" "[B", .fieldLink "java/lang/String" 9 "java/lang/String" "value" "[B", .laysFinal "java/lang/String" "java/lang/String" "coder" "B", .fieldLink "java/lang/String" 15 "java/lang/String" "coder" "B"] ++ objW "java/lang/String" 1 ++ staticW "java/lang/String" 177 Cmp3.yN ++ staticW "java/lang/String" 47 CodL.yN
def tab : Cond := tabOf yN yB 6 none site
def P (a : Addr) (D : Cell) (fV fC : Field) (b : Addr) (A : Cell) (z : Int32) (o len : Nat) (args : Array Value) (s : State) : Prop := args = #[.ref a, .ref b, .int (Int32.ofNat o), .int (Int32.ofNat len), .null] ∧ Blank "java/lang/String" a D s ∧ Found "java/lang/String" "value" "[B" fV s ∧ Found "java/lang/String" "coder" "B" fC s ∧ Ch b A s ∧ StaticIs s "java/lang/String" "COMPACT_STRINGS" "Z" (.int z) ∧ ¬ z = 0 ∧ 0 < len ∧ o + len ≤ A.slots.size ∧ len ≤ 536870912 ∧ ∀ i, i < len → ¬ 255 < cv A (o + i)
def E (a : Addr) (D : Cell) (fV fC : Field) (A : Cell) (o len : Nat) (r : Option Value) (s u : State) : Prop := Got a D fV fC A o len r s u
/-- len > 0, no char of the range above 255: a Latin-1 String of their low bytes -/
theorem law (l : Launch) (a : Addr) (D : Cell) (fV fC : Field) (b : Addr) (A : Cell) (z : Int32) (o len : Nat) : Law l yN 5 4 2 35 yB 6 none site (P a D fV fC b A z o len) (E a D fV fC A o len) [⟨a, fC.slot⟩, ⟨a, fV.slot⟩] 1 len := by
  refine Law.of_walk (plainFor_of_name (by decide +kernel)) (by decide +kernel) (by decide +kernel) (by decide) (fun _ _ h => by rw [h.1]; rfl) (fun _ U U' hal hh h => ⟨h.1, h.2.1.mv hal hh, h.2.2.1.al hal, h.2.2.2.1.al hal, h.2.2.2.2.1.mv hal hh, h.2.2.2.2.2.1.there hal hh, h.2.2.2.2.2.2⟩) (fun r U U' V V' h1 hal h2 h => Got.mv r U U' V V' h1 hal h2 h) ?_
  intro p e s m args below meth c s₁ X0 hexec hbytes hml hret hlk hnm hown hh0 W hP
  obtain ⟨rfl, hB, f1, f2, hA, s1, hz, l0, l1, l2, hp⟩ := hP
  have a31 := hA.1.2.2.2
  have c1 : Steps p.tables e below (s₁.setTop (entryFrame m #[.ref a, .ref b, .int (Int32.ofNat o), .int (Int32.ofNat len), .null] 6)) (s₁.setTop (mkF m 0 #[.val (.ref a), .val (.ref b), .val (.int (Int32.ofNat o)), .val (.int (Int32.ofNat len)), .val .null, .unset] [])) := entry rfl
  have c2 : Steps p.tables e below (s₁.setTop (entryFrame m #[.ref a, .ref b, .int (Int32.ofNat o), .int (Int32.ofNat len), .null] 6)) (s₁.setTop (mkF m 1 #[.val (.ref a), .val (.ref b), .val (.int (Int32.ofNat o)), .val (.int (Int32.ofNat len)), .val .null, .unset] [.ref a])) := c1.trans (by
    refine XS.aloadN X0.here hexec rfl (hb hbytes d0) rfl rfl ?_
    exact Steps.refl _)
  obtain ⟨T3, X3, q3, st3⟩ := X0.oinit hexec hown (wks W (objW "java/lang/String" 1)) (g := (mkF m 1 #[.val (.ref a), .val (.ref b), .val (.int (Int32.ofNat o)), .val (.int (Int32.ofNat len)), .val .null, .unset] [.ref a])) rfl (by rw [hml]; rfl) (rest := []) rfl (hb hbytes d1) (W := 0) (by show 2 * 0 + 0 ≤ _; decide) (Nat.le_of_ble_eq_true rfl) (Nat.le_of_ble_eq_true rfl)
  have hh3 := q3.trans hh0
  have c4 : Steps p.tables e below (s₁.setTop (entryFrame m #[.ref a, .ref b, .int (Int32.ofNat o), .int (Int32.ofNat len), .null] 6)) (T3.setTop (mkF m 27 #[.val (.ref a), .val (.ref b), .val (.int (Int32.ofNat o)), .val (.int (Int32.ofNat len)), .val .null, .unset] [])) := (c2.trans (st3 _ (Steps.refl _))).trans (by
    refine XS.iloadN X3.here hexec rfl (hb hbytes d4) rfl ?_
    refine XS.ifYes X3.here hexec rfl (pc0 := 5) rfl (hb hbytes d5) rfl (i0_ne_t (nz32 (by omega) l0)) (by decide) rfl ?_
    exact Steps.refl _)
  obtain ⟨T5, X5, q5, st5⟩ := X3.sget hexec hown (wk W (.fieldLink "java/lang/String" 38 "java/lang/String" "COMPACT_STRINGS" "Z")) s1 (fun _ _ h => by rw [hh3]; exact h) (g := (mkF m 27 #[.val (.ref a), .val (.ref b), .val (.int (Int32.ofNat o)), .val (.int (Int32.ofNat len)), .val .null, .unset] [])) rfl (hb hbytes d27)
  have hh5 := q5.trans hh3
  have c6 : Steps p.tables e below (s₁.setTop (entryFrame m #[.ref a, .ref b, .int (Int32.ofNat o), .int (Int32.ofNat len), .null] 6)) (T5.setTop (mkF m 30 #[.val (.ref a), .val (.ref b), .val (.int (Int32.ofNat o)), .val (.int (Int32.ofNat len)), .val .null, .unset] [.int z])) := c4.trans (st5 _ (Steps.refl _))
  have c7 : Steps p.tables e below (s₁.setTop (entryFrame m #[.ref a, .ref b, .int (Int32.ofNat o), .int (Int32.ofNat len), .null] 6)) (T5.setTop (mkF m 36 #[.val (.ref a), .val (.ref b), .val (.int (Int32.ofNat o)), .val (.int (Int32.ofNat len)), .val .null, .unset] [.int (Int32.ofNat len), .int (Int32.ofNat o), .ref b])) := c6.trans (by
    refine XS.ifNo X5.here hexec rfl (hb hbytes d30) rfl (i0_eq_f hz) ?_
    refine XS.aloadN X5.here hexec rfl (hb hbytes d33) rfl rfl ?_
    refine XS.iloadN X5.here hexec rfl (hb hbytes d34) rfl ?_
    refine XS.iloadN X5.here hexec rfl (hb hbytes d35) rfl ?_
    exact Steps.refl _)
  obtain ⟨v8, T8, X8, E8, g8⟩ := X5.callS hexec (Cmp3.law l b A o len) hown (wks W (staticW "java/lang/String" 177 Cmp3.yN)) (wk W Cmp3.tab) (W := 0) (Nat.le_of_ble_eq_true rfl) (Nat.le_of_ble_eq_true rfl) (Nat.le_refl _) (by show 0 + len ≤ len; omega) (g := (mkF m 36 #[.val (.ref a), .val (.ref b), .val (.int (Int32.ofNat o)), .val (.int (Int32.ofNat len)), .val .null, .unset] [.int (Int32.ofNat len), .int (Int32.ofNat o), .ref b])) rfl (by rw [hml]; rfl) c7 (argsL := [.ref b, .int (Int32.ofNat o), .int (Int32.ofNat len)]) (rest := []) rfl rfl (by show 2 * 0 + 0 ≤ _; decide) (hb hbytes d36) (⟨rfl, hA.mv X5.warmed.alike hh5, l1, l2, hp⟩)
  obtain ⟨e8, z8⟩ := E8
  obtain ⟨rfl, N, n1, n2, n3, n4, n5, n6⟩ := NewArr.mv _ T5 s _ _ hh5.symm (Vm.Alike.refl _) rfl e8
  rw [hh5] at z8
  have hB1 := hB.keep X8.warmed.alike (n6 _ _ hB.1)
  have hne : s.heap.size ≠ a := (Nat.ne_of_lt (Array.getElem?_eq_some_iff.mp hB.1).1).symm
  have c9 : Steps p.tables e below (s₁.setTop (entryFrame m #[.ref a, .ref b, .int (Int32.ofNat o), .int (Int32.ofNat len), .null] 6)) (T8.setTop (mkF m 39 #[.val (.ref a), .val (.ref b), .val (.int (Int32.ofNat o)), .val (.int (Int32.ofNat len)), .val .null, .unset] [.ref s.heap.size])) := g8
  have c10 : Steps p.tables e below (s₁.setTop (entryFrame m #[.ref a, .ref b, .int (Int32.ofNat o), .int (Int32.ofNat len), .null] 6)) (T8.setTop (mkF m 45 #[.val (.ref a), .val (.ref b), .val (.int (Int32.ofNat o)), .val (.int (Int32.ofNat len)), .val .null, .val (.ref s.heap.size)] [.int (Int32.ofNat N.slots.size), .ref s.heap.size, .ref a])) := by
    have hc : Steps p.tables e below (s₁.setTop (entryFrame m #[.ref a, .ref b, .int (Int32.ofNat o), .int (Int32.ofNat len), .null] 6)) (T8.setTop (mkF m 45 #[.val (.ref a), .val (.ref b), .val (.int (Int32.ofNat o)), .val (.int (Int32.ofNat len)), .val .null, .val (.ref s.heap.size)] [.int (Int32.ofNat len), .ref s.heap.size, .ref a])) := c9.trans (by
      refine XS.astore X8.here hexec rfl (hb hbytes d39) rfl rfl rfl ?_
      refine XS.aloadN X8.here hexec rfl (hb hbytes d41) rfl rfl ?_
      refine XS.aload X8.here hexec rfl (hb hbytes d42) rfl rfl ?_
      refine XS.iloadN X8.here hexec rfl (hb hbytes d44) rfl ?_
      exact Steps.refl _)
    rw [n4]; exact hc
  obtain ⟨v11, T11, X11, E11, g11⟩ := X8.callS hexec (CodL.law l s.heap.size N) hown (wks W (staticW "java/lang/String" 47 CodL.yN)) (wk W CodL.tab) (W := 1) (Nat.le_of_ble_eq_true rfl) (Nat.le_of_ble_eq_true rfl) (Nat.le_refl _) (by show 0 + len + 0 ≤ len; omega) (g := (mkF m 45 #[.val (.ref a), .val (.ref b), .val (.int (Int32.ofNat o)), .val (.int (Int32.ofNat len)), .val .null, .val (.ref s.heap.size)] [.int (Int32.ofNat N.slots.size), .ref s.heap.size, .ref a])) rfl (by rw [hml]; rfl) c10 (argsL := [.ref s.heap.size, .int (Int32.ofNat N.slots.size)]) (rest := [.ref a]) rfl rfl (by show 2 * 0 + (1 + 0) ≤ _; decide) (hb hbytes d45) (⟨rfl, n1⟩)
  obtain ⟨rfl, q11⟩ := E11
  have hB11 := hB1.mv (X8.warmed.alike.symm.trans X11.warmed.alike) q11
  have c12 : Steps p.tables e below (s₁.setTop (entryFrame m #[.ref a, .ref b, .int (Int32.ofNat o), .int (Int32.ofNat len), .null] 6)) (T11.setTop (mkF m 48 #[.val (.ref a), .val (.ref b), .val (.int (Int32.ofNat o)), .val (.int (Int32.ofNat len)), .val .null, .val (.ref s.heap.size)] [.int 0, .ref a])) := g11
  obtain ⟨T13, X13, p13, bl13, sl13, st13⟩ := X11.finit hexec hown (wk W (.fieldLink "java/lang/String" 15 "java/lang/String" "coder" "B")) (Or.inr ⟨_, (wk W (.laysFinal "java/lang/String" "java/lang/String" "coder" "B"))⟩) (Or.inl ⟨rfl, hnm⟩) f2 (Or.inl rfl) hB11 (t := .byte) (by decide +kernel) rfl (g := (mkF m 48 #[.val (.ref a), .val (.ref b), .val (.int (Int32.ofNat o)), .val (.int (Int32.ofNat len)), .val .null, .val (.ref s.heap.size)] [.int 0, .ref a])) rfl (rest := []) rfl (hb hbytes d48)
  have c14 : Steps p.tables e below (s₁.setTop (entryFrame m #[.ref a, .ref b, .int (Int32.ofNat o), .int (Int32.ofNat len), .null] 6)) (T13.setTop (mkF m 54 #[.val (.ref a), .val (.ref b), .val (.int (Int32.ofNat o)), .val (.int (Int32.ofNat len)), .val .null, .val (.ref s.heap.size)] [.ref s.heap.size, .ref a])) := (c12.trans (st13 _ (Steps.refl _))).trans (by
    refine XS.aloadN X13.here hexec rfl (hb hbytes d51) rfl rfl ?_
    refine XS.aload X13.here hexec rfl (hb hbytes d52) rfl rfl ?_
    exact Steps.refl _)
  obtain ⟨T15, X15, p15, bl15, sl15, st15⟩ := X13.finit hexec hown (wk W (.fieldLink "java/lang/String" 9 "java/lang/String" "value" "[B")) (Or.inr ⟨_, (wk W (.laysFinal "java/lang/String" "java/lang/String" "value" "[B"))⟩) (Or.inl ⟨rfl, hnm⟩) f1 (Or.inl rfl) bl13 (t := (.array .byte)) (by decide +kernel) rfl (g := (mkF m 54 #[.val (.ref a), .val (.ref b), .val (.int (Int32.ofNat o)), .val (.int (Int32.ofNat len)), .val .null, .val (.ref s.heap.size)] [.ref s.heap.size, .ref a])) rfl (rest := []) rfl (hb hbytes d54)
  have c16 : Steps p.tables e below (s₁.setTop (entryFrame m #[.ref a, .ref b, .int (Int32.ofNat o), .int (Int32.ofNat len), .null] 6)) (T15.setTop (mkF m 57 #[.val (.ref a), .val (.ref b), .val (.int (Int32.ofNat o)), .val (.int (Int32.ofNat len)), .val .null, .val (.ref s.heap.size)] [])) := c14.trans (st15 _ (Steps.refl _))
  have ap := apart (Or.inr ⟨_, (wk W (.laysFinal "java/lang/String" "java/lang/String" "value" "[B"))⟩) (Or.inr ⟨_, (wk W (.laysFinal "java/lang/String" "java/lang/String" "coder" "B"))⟩) f1 f2 (t₁ := .array .byte) (t₂ := .byte) (by decide +kernel) (by decide +kernel) (by decide)
  have al := X8.warmed.alike.symm.trans X15.warmed.alike
  have n7 : T11.heap[s.heap.size]? = some N := by rw [q11]; exact n1.1
  exact ⟨T15, none, _, _, _, X15, by simp, rfl, by omega, (fun _ => rfl), ⟨rfl, _, N, bl15, ((Same.refl D _).set _ (by simp)).set _ (by simp), sl15, (Cell.slots_setSlot_ne _ ap).trans sl13, n1.keep al (p15.other hne (p13.other hne n7)), n2, by rw [al.findClass]; exact n3, n4, n5, fun y c h1 h2 => p15.other h1 (p13.other h1 (by rw [q11]; exact n6 y c h2)), by rw [p15.2.2, p13.2.2, q11]; exact z8⟩, fun fs hl => c16.trans (X15.returnOut hexec hret (hb hbytes d57) hl)⟩
end New4
namespace New1
def yN : MethodName := ⟨"java/lang/String", "<init>", "([C)V"⟩
abbrev yB : ByteArray := jdk_42_method_3_code
theorem d0 : decode yB 0 = .ok (.aload_n 0, 1) := by decide +kernel
theorem d1 : decode yB 1 = .ok (.aload_n 1, 1) := by decide +kernel
theorem d2 : decode yB 2 = .ok (.iconst 0, 1) := by decide +kernel
theorem d3 : decode yB 3 = .ok (.aload_n 1, 1) := by decide +kernel
theorem d4 : decode yB 4 = .ok (.arraylength, 1) := by decide +kernel
theorem d5 : decode yB 5 = .ok (.aconst_null, 1) := by decide +kernel
theorem d6 : decode yB 6 = .ok (.invokespecial 27, 3) := by decide +kernel
theorem d9 : decode yB 9 = .ok (.return_, 1) := by decide +kernel
def site : List Cond := [New4.tab] ++ initW "java/lang/String" 27 New4.yN
def tab : Cond := tabOf yN yB 2 none site
def P (a : Addr) (D : Cell) (fV fC : Field) (b : Addr) (A : Cell) (z : Int32) (args : Array Value) (s : State) : Prop := args = #[.ref a, .ref b] ∧ Blank "java/lang/String" a D s ∧ Found "java/lang/String" "value" "[B" fV s ∧ Found "java/lang/String" "coder" "B" fC s ∧ Ch b A s ∧ StaticIs s "java/lang/String" "COMPACT_STRINGS" "Z" (.int z) ∧ ¬ z = 0 ∧ 0 < A.slots.size ∧ A.slots.size ≤ 536870912 ∧ ∀ i, i < A.slots.size → ¬ 255 < cv A i
def E (a : Addr) (D : Cell) (fV fC : Field) (A : Cell) (r : Option Value) (s u : State) : Prop := Got a D fV fC A 0 A.slots.size r s u
/-- new String(chars), not empty, no char above 255: a Latin-1 String of their low bytes -/
theorem law (l : Launch) (a : Addr) (D : Cell) (fV fC : Field) (b : Addr) (A : Cell) (z : Int32) : Law l yN 2 1 3 52 yB 2 none site (P a D fV fC b A z) (E a D fV fC A) [⟨a, fC.slot⟩, ⟨a, fV.slot⟩] 1 A.slots.size := by
  refine Law.of_walk (plainFor_of_name (by decide +kernel)) (by decide +kernel) (by decide +kernel) (by decide) (fun _ _ h => by rw [h.1]; rfl) (fun _ U U' hal hh h => ⟨h.1, h.2.1.mv hal hh, h.2.2.1.al hal, h.2.2.2.1.al hal, h.2.2.2.2.1.mv hal hh, h.2.2.2.2.2.1.there hal hh, h.2.2.2.2.2.2⟩) (fun r U U' V V' h1 hal h2 h => Got.mv r U U' V V' h1 hal h2 h) ?_
  intro p e s m args below meth c s₁ X0 hexec hbytes hml hret hlk hnm hown hh0 W hP
  obtain ⟨rfl, hB, f1, f2, hA, s1, hz, l0, l2, hp⟩ := hP
  have c1 : Steps p.tables e below (s₁.setTop (entryFrame m #[.ref a, .ref b] 2)) (s₁.setTop (mkF m 0 #[.val (.ref a), .val (.ref b)] [])) := entry rfl
  have c2 : Steps p.tables e below (s₁.setTop (entryFrame m #[.ref a, .ref b] 2)) (s₁.setTop (mkF m 6 #[.val (.ref a), .val (.ref b)] [.null, .int (Int32.ofNat A.slots.size), .int 0, .ref b, .ref a])) := c1.trans (by
    refine XS.aloadN X0.here hexec rfl (hb hbytes d0) rfl rfl ?_
    refine XS.aloadN X0.here hexec rfl (hb hbytes d1) rfl rfl ?_
    refine iconstV X0.here hexec rfl 0 (hb hbytes d2) (by decide) ?_
    refine XS.aloadN X0.here hexec rfl (hb hbytes d3) rfl rfl ?_
    refine X0.alen hexec (hA.1.mv X0.warmed.alike hh0) rfl rfl (hb hbytes d4) ?_
    refine XS.aconstNull X0.here hexec rfl (hb hbytes d5) ?_
    exact Steps.refl _)
  obtain ⟨v3, T3, X3, E3, g3⟩ := X0.callN hexec (New4.law l a D fV fC b A z 0 A.slots.size) rfl hown (wks W (initW "java/lang/String" 27 New4.yN)) (W New4.tab (by simp only [site, List.mem_cons, List.mem_append, true_or, or_true])) (W := 0) (Nat.le_of_ble_eq_true rfl) (Nat.le_of_ble_eq_true rfl) (Nat.le_refl _) (by show 0 + A.slots.size ≤ A.slots.size; omega) (g := (mkF m 6 #[.val (.ref a), .val (.ref b)] [.null, .int (Int32.ofNat A.slots.size), .int (Int32.ofNat 0), .ref b, .ref a])) rfl (by rw [hml]; rfl) c2 (argsL := [.ref b, .int (Int32.ofNat 0), .int (Int32.ofNat A.slots.size), .null]) (rest := []) rfl rfl (by show 2 * 0 + 0 ≤ _; decide) (hb hbytes d6) (⟨rfl, hB.mv X0.warmed.alike hh0, f1.al X0.warmed.alike, f2.al X0.warmed.alike, hA.mv X0.warmed.alike hh0, s1.there X0.warmed.alike hh0, hz, l0, by omega, l2, fun i hi => by rw [Nat.zero_add]; exact hp i hi⟩)
  have e0 := Got.mv _ s₁ s _ _ hh0.symm (Vm.Alike.refl _) rfl E3
  obtain rfl := e0.1
  have c4 : Steps p.tables e below (s₁.setTop (entryFrame m #[.ref a, .ref b] 2)) (T3.setTop (mkF m 9 #[.val (.ref a), .val (.ref b)] [])) := g3
  exact ⟨T3, none, _, _, _, X3, by simp, rfl, by omega, (fun _ => rfl), e0, fun fs hl => c4.trans (X3.returnOut hexec hret (hb hbytes d9) hl)⟩
theorem pays {l : Launch} {R : Room} {p : Program} {e : Env} {below : List Frame} {s : State} {sargs : Array Value} {len W : Nat} (a : Addr) (D : Cell) (fV fC : Field) (b : Addr) (A : Cell) (z : Int32) (htab : tab.before sargs s = true) (hfr : 4 ≤ R.frames) (hlo : W + 65 ≤ R.locals) :
    Back l R p e below s sargs yN len W (fun A₁ a₁ => A₁.cells + 1 ≤ R.cells ∧ A₁.slots + A.slots.size ≤ R.slots ∧ P a D fV fC b A z a₁ A₁.U) (fun A₁ _ v₁ B₁ => E a D fV fC A v₁ A₁.U B₁.U ∧ B₁.locs = A₁.locs ++ [⟨a, fC.slot⟩, ⟨a, fV.slot⟩] ∧ B₁.cells = A₁.cells + 1 ∧ B₁.slots = A₁.slots + A.slots.size) :=
  (law l a D fV fC b A z).pays htab hfr (by omega)
end New1
/-- the byte, read back as charAt reads it, is the char -/
theorem lo8_mask {x : Int32} (h0 : ¬ x < 0) (h1 : ¬ 255 < x) : lo8 x &&& 255 = x := by
  have t : ∀ k : Fin 256, lo8 (Int32.ofNat k.val) &&& 255 = Int32.ofNat k.val := by decide +kernel
  rw [Int32.lt_iff_toInt_lt] at h0 h1
  have e0 : (0 : Int32).toInt = 0 := rfl
  have e1 : (255 : Int32).toInt = 255 := rfl
  obtain ⟨k, hk⟩ : ∃ k : Nat, x.toInt = k := ⟨x.toInt.toNat, by omega⟩
  have hx : x = Int32.ofNat k := Int32.toInt_inj.mp (by rw [hk, Int32.toInt_ofNat_small (by omega)])
  rw [hx]
  exact t ⟨k, by omega⟩
end StrChars
namespace StrChars.Road
open Jvm Sem ClassFile Op Lib Jvm.Stand Jvm.Free Jvm.Free.XT
open Jvm.Lib.Cold (StaticIs)
abbrev ST : String := "java/lang/String"
/-- every table word that New1's law asks, flat -/
abbrev words : List Jvm.Cond := [.code New1.yN New1.yB 2 none, .initialized ST, .methodLink ST 27 New4.yN, .instanceMethod New4.yN,
  .code New4.yN New4.yB 6 none, .fieldLink ST 38 ST "COMPACT_STRINGS" "Z", .laysFinal ST ST "value" "[B", .fieldLink ST 9 ST "value" "[B", .laysFinal ST ST "coder" "B", .fieldLink ST 15 ST "coder" "B",
  .methodLink ST 1 Lib.objectInit, .instanceMethod Lib.objectInit, .code Lib.objectInit ⟨#[0xb1]⟩ 1 none, .methodLink ST 177 Cmp3.yN, .static Cmp3.yN, .methodLink ST 47 CodL.yN, .static CodL.yN,
  .code Cmp3.yN Cmp3.yB 6 (some (.array .byte)), .initialized U16, .arrayClass .byte, .methodLink U16 115 Cmp5.yN, .static Cmp5.yN, .code Cmp5.yN Cmp5.yB 7 (some .int), .code CodL.yN CodL.yB 2 (some .byte)]
theorem tab_of {a : Array Value} {s : State} (h : ∀ w ∈ words, w.before a s = true) : New1.tab.before a s = true := by
  have h5 : Cmp5.tab.before a s = true := unparts (wk h (.code Cmp5.yN Cmp5.yB 7 (some .int))) (wks h (.initialized Cmp5.yN.cls :: Cmp5.site))
  have hc : CodL.tab.before a s = true := unparts (wk h (.code CodL.yN CodL.yB 2 (some .byte))) (wks h (.initialized CodL.yN.cls :: CodL.site))
  have q5 : ∀ w ∈ Cmp5.tab :: words, w.before a s = true := fun w hw => (List.mem_cons.mp hw).elim (fun e => e ▸ h5) (h w)
  have h3 : Cmp3.tab.before a s = true := unparts (wk q5 (.code Cmp3.yN Cmp3.yB 6 (some (.array .byte)))) (wks q5 (.initialized Cmp3.yN.cls :: Cmp3.site))
  have q3 : ∀ w ∈ Cmp3.tab :: CodL.tab :: words, w.before a s = true := fun w hw => (List.mem_cons.mp hw).elim (fun e => e ▸ h3) fun hw => (List.mem_cons.mp hw).elim (fun e => e ▸ hc) (h w)
  have h4 : New4.tab.before a s = true := unparts (wk q3 (.code New4.yN New4.yB 6 none)) (wks q3 (.initialized New4.yN.cls :: New4.site))
  have q4 : ∀ w ∈ New4.tab :: words, w.before a s = true := fun w hw => (List.mem_cons.mp hw).elim (fun e => e ▸ h4) (h w)
  exact unparts (wk q4 (.code New1.yN New1.yB 2 none)) (wks q4 (.initialized New1.yN.cls :: New1.site))
/-- the words ride from the start Z to the walk's own state -/
theorem moved {Z s : State} {a0 args : Array Value} (hZ : Z.Warmed39 s.vm) (hw : ∀ d ∈ words, d.before a0 Z = true) : ∀ d ∈ words, d.before args s = true := fun d hd => by
  have q := hw d hd
  have t : ∀ d ∈ words, d = .arrayClass .byte ∨ (d.onTables && d.keepsFace) = true := by decide +kernel
  rcases t d hd with rfl | t
  · exact RoadKit.mvA hZ q
  · exact RoadKit.mv hZ q t
/-- WHAT COMES BACK, over the tables of the start Z: h the heap at the call, h' behind it -/
def Q (Z : State) (x : Addr) (A : Cell) (h : Heap) (v : Option Value) (h' : Heap) (L : List Loc) : Prop := v = none ∧ (∀ y ∈ L, y.base = x) ∧ RoadKit.Keep h h' [x] ∧ h'.size = h.size + 1 ∧ RoadKit.Exa Z h' x ST ∧ RoadKit.Fld Z h' x ST "value" "[B" (.ref h.size) ∧ RoadKit.Fld Z h' x ST "coder" "B" (.int 0) ∧
  (∃ V : Cell, RoadKit.Arr Z h' h.size V .byte ∧ V.vm = .none ∧ Z.vm.findClass "[B" = some V.cls ∧ V.slots.size = A.slots.size ∧ ∀ j, j < A.slots.size → V.slots[j]? = some (.int (lo8 (cv A j)))) ∧
  ∀ (O n d : String) (w : Value), RoadKit.Fld Z h x O n d w → RoadKit.slotOf Z O n d ≠ RoadKit.slotOf Z ST "value" "[B" → RoadKit.slotOf Z O n d ≠ RoadKit.slotOf Z ST "coder" "B" → RoadKit.Fld Z h' x O n d w
/-- **new String(chars) AT A CALL, IN THE ROAD'S FORM**: for specialBack behind newO: x the fresh String, b the char[] with the cell A -/
theorem back {p : Program} {l : Launch} {e : Env} {R : Room} {s : State} {args : Array Value} {below : List Frame} {len W : Nat} {Z : State} {a0 : Array Value} {h : Heap} (hZ : Z.Warmed39 s.vm) (hw : ∀ d ∈ words, d.before a0 Z = true) {kI : Nat} (wi : (Jvm.Cond.instantiable ST kI).before a0 Z = true)
    {x b : Addr} {A : Cell} {z : Int32} {v0 c0 : Value} (E : RoadKit.Exa Z h x ST) (V : RoadKit.Fld Z h x ST "value" "[B" v0) (C : RoadKit.Fld Z h x ST "coder" "B" c0) (K : RoadKit.Arr Z h b A .char) (hty : Typed .char A) (S : RoadKit.Sta Z h ST "COMPACT_STRINGS" "Z" (.int z)) (hz : ¬ z = 0)
    (l0 : 0 < A.slots.size) (l2 : A.slots.size ≤ 536870912) (hp : ∀ i, i < A.slots.size → ¬ 255 < cv A i) (hfr : 4 ≤ R.frames) (hlo : W + 65 ≤ R.locals) :
    Back l R p e below s args New1.yN len W (fun P a => a = #[.ref x, .ref b] ∧ P.U.heap = h ∧ P.cells + 1 ≤ R.cells ∧ P.slots + A.slots.size ≤ R.slots)
      (fun P _ v B => ∃ L, Q Z x A h v B.U.heap L ∧ B.locs = P.locs ++ L ∧ B.cells = P.cells + 1 ∧ B.slots = P.slots + A.slots.size) := by
  intro m meth c P g ig mk a X hg hsize hdg hW hn hp'
  obtain ⟨rfl, rfl, r1, r2⟩ := hp'
  have al : Z.vm.Alike P.U.vm := hZ.alike.trans X.warmed.alike
  obtain ⟨D, cfV, kV, iV, fV, hD, gV, stV, knV, obV, asV, slV⟩ := id V
  obtain ⟨D', cfC, kC, iC, fC, hD', gC, stC, -, -, asC, slC⟩ := id C
  cases hD.symm.trans hD'
  obtain ⟨D2, kD, e1, e2, e3, e4, e5⟩ := id E
  cases hD.symm.trans e1
  obtain ⟨c2, k2, i1, i2, i3, -⟩ := Cond.instantiable_spec wi
  cases e2.symm.trans i1
  cases e3.symm.trans i2
  obtain ⟨kU, u1, u2⟩ := al.2.2 _ _ e3
  have hB : Blank ST x D P.U := ⟨hD, ⟨knV, fun q hq => by rw [hq] at obV; cases obV⟩, by rw [al.findClass]; exact e2, kU, u1, by rw [u2]; exact i3, by rw [u2]; exact e5 i3⟩
  have F1 : Found ST "value" "[B" fV P.U := ⟨SBG.found_only al ⟨cfV, kV, iV, gV⟩, stV⟩
  have F2 : Found ST "coder" "B" fC P.U := ⟨SBG.found_only al ⟨cfC, kC, iC, gC⟩, stC⟩
  have hA : Ch b A P.U := ⟨⟨K.1, State.isArrayOf_alike al K.2.1, K.2.2, by omega⟩, hty⟩
  have hS : StaticIs P.U ST "COMPACT_STRINGS" "Z" (.int z) := by
    obtain ⟨cfS, iS, kS, fS, st, cS, t1, t2, t3, t4, t5, t6, t7⟩ := S
    exact StaticIs.there (s := { Z with heap := P.U.heap }) ⟨cfS, iS, kS, fS, st, cS, t1, t2, t3, t4, t5, (fun q => by rw [q] at t6; cases t6), t7⟩ al rfl
  obtain ⟨v, B, X', ⟨⟨hv, E', V', q1, q2, q3, q4, q5, q6, q7, q8, q9, q10, q11⟩, hl, hc, hs⟩, st⟩ := New1.pays x D fV fC b A z (tab_of (moved hZ hw)) hfr hlo m meth c P g ig mk _ X hg hsize hdg hW hn ⟨r1, r2, rfl, hB, F1, F2, hA, hS, hz, l0, l2, hp⟩
  have al' : Z.vm.Alike B.U.vm := hZ.alike.trans X'.warmed.alike
  have hsz : E'.slots.size = D.slots.size := by
    obtain ⟨-, -, -, kB, w1, w2, w3⟩ := q1
    obtain ⟨kB', y1, y2⟩ := al'.2.2 _ _ e3
    rw [q2.2.1] at w1
    cases w1.symm.trans y1
    rw [w3, e5 i3, y2]
  refine ⟨v, B, X', ⟨_, ⟨hv, ?_, ⟨by omega, fun y cy hy hn' => q10 y cy (by simpa using hn') hy, fun y cy hy => ?_⟩, q11, ⟨E', _, q1.1, by rw [q2.2.1]; exact e2, by rw [q2.2.1]; exact e3, by rw [q2.1]; exact obV, fun _ => by rw [hsz]; exact e5 i3⟩,
    ⟨E', cfV, kV, iV, fV, q1.1, gV, stV, by rw [q2.1]; exact knV, by rw [q2.1]; exact obV, by rw [q2.2.1]; exact asV, q3⟩, ⟨E', cfC, kC, iC, fC, q1.1, gC, stC, by rw [q2.1]; exact knV, by rw [q2.1]; exact obV, by rw [q2.2.1]; exact asC, q4⟩,
    ⟨V', ⟨q5.1, State.isArrayOf_alike al'.symm q5.2.1, q5.2.2.1⟩, q6, by rw [← al'.findClass]; exact q7, q8, fun j hj => by have := q9 j hj; rwa [Nat.zero_add] at this⟩, fun O n d w F n1 n2 => ?_⟩, hl, hc, hs⟩, st⟩
  · intro y hy
    simp only [List.mem_cons, List.not_mem_nil, or_false] at hy
    rcases hy with rfl | rfl <;> rfl
  · by_cases q : y = x
    · subst q
      cases hD.symm.trans hy
      exact ⟨E', q1.1, q2.2.1, q2.1, hsz⟩
    · exact ⟨cy, q10 y cy q hy, rfl, rfl, rfl⟩
  · obtain ⟨D3, cf, k, i, f, g1, g2, g3, g4, g5, g6, g7⟩ := F
    cases hD.symm.trans g1
    simp only [RoadKit.slotOf, g2, gV, gC, Option.map_some, Option.getD_some] at n1 n2
    exact ⟨E', cf, k, i, f, q1.1, g2, g3, by rw [q2.1]; exact g4, by rw [q2.1]; exact g5, by rw [q2.2.1]; exact g6, by rw [q2.2.2 f.slot (by simp [n1, n2])]; exact g7⟩
end StrChars.Road
namespace StrChars.Road
open Jvm Sem ClassFile Op Lib Jvm.Stand Jvm.Free Jvm.Free.XT
/-- WHAT COMES BACK, the byte[] as a list of values -/
def QA (Z : State) (x : Addr) (zn : Int32) (cs : List Int32) (h : Heap) (v : Option Value) (h' : Heap) (L : List Loc) : Prop := v = none ∧ (∀ y ∈ L, y.base = x) ∧ RoadKit.Keep h h' [x] ∧ h'.size = h.size + 1 ∧ RoadKit.Exa Z h' x ST ∧ RoadKit.Fld Z h' x ST "value" "[B" (.ref h.size) ∧ RoadKit.Fld Z h' x ST "coder" "B" (.int 0) ∧
  (∃ kb, Z.vm.findClass "[B" = some kb ∧ RoadKit.Arv Z h' h.size kb .byte zn (cs.map fun c => .int (lo8 c)) (.int 0)) ∧
  ∀ (O n d : String) (w : Value), RoadKit.Fld Z h x O n d w → RoadKit.slotOf Z O n d ≠ RoadKit.slotOf Z ST "value" "[B" → RoadKit.slotOf Z O n d ≠ RoadKit.slotOf Z ST "coder" "B" → RoadKit.Fld Z h' x O n d w
/-- **new String(chars) AT A CALL, THE ARRAYS AS LISTS**: the char[] at b holds cs, not empty, no char above 255 -/
theorem backArv {p : Program} {l : Launch} {e : Env} {R : Room} {s : State} {args : Array Value} {below : List Frame} {len W : Nat} {Z : State} {a0 : Array Value} {h : Heap} (hZ : Z.Warmed39 s.vm) (hw : ∀ d ∈ words, d.before a0 Z = true) {kI : Nat} (wi : (Jvm.Cond.instantiable ST kI).before a0 Z = true)
    {x b : Addr} {k : ClassId} {zn z : Int32} {cs : List Int32} {dv v0 c0 : Value} (E : RoadKit.Exa Z h x ST) (V : RoadKit.Fld Z h x ST "value" "[B" v0) (C : RoadKit.Fld Z h x ST "coder" "B" c0) (K : RoadKit.Arv Z h b k .char zn (cs.map Value.int) dv) (S : RoadKit.Sta Z h ST "COMPACT_STRINGS" "Z" (.int z)) (hz : ¬ z = 0)
    (hlen : zn.toNatClampNeg = cs.length) (h0 : 0 < cs.length) (hbig : cs.length ≤ 536870912) (hall : ∀ c ∈ cs, ¬ 255 < c) (hfr : 4 ≤ R.frames) (hlo : W + 65 ≤ R.locals) :
    Back l R p e below s args New1.yN len W (fun P a => a = #[.ref x, .ref b] ∧ P.U.heap = h ∧ P.cells + 1 ≤ R.cells ∧ P.slots + cs.length ≤ R.slots)
      (fun P _ v B => ∃ L, QA Z x zn cs h v B.U.heap L ∧ B.locs = P.locs ++ L ∧ B.cells = P.cells + 1 ∧ B.slots = P.slots + cs.length) := by
  obtain ⟨A, K1, K2, K3, K4, K5, K6⟩ := K
  have e : A.slots.size = cs.length := K3.trans hlen
  have hat : ∀ (i : Nat) (hi : i < cs.length), A.slots[i]? = some (.int cs[i]) := fun i hi => by rw [K5 i (by omega)]; simp [List.getD_eq_getElem?_getD, hi]
  have hcv : ∀ (i : Nat) (hi : i < cs.length), cv A i = cs[i] := fun i hi => by unfold cv; rw [hat i hi]
  have hty : Typed .char A := fun i v hv => by
    have hi : i < A.slots.size := (Array.getElem?_eq_some_iff.mp hv).1
    have q := K5 i hi
    rw [hv] at q
    rw [Option.some.inj q]
    exact K6 i hi
  refine Back.mono (back hZ hw wi E V C K1 hty S hz (by omega) (by omega) (fun i hi => by rw [hcv i (by omega)]; exact hall _ (List.getElem_mem _)) hfr hlo) (fun P a hp => ⟨hp.1, hp.2.1, hp.2.2.1, by rw [e]; exact hp.2.2.2⟩) (fun P a v B hp hq => ?_)
  obtain ⟨L, ⟨q1, q2, q3, q4, q5, q6, q7, ⟨V', v1, v2, v3, v4, v5⟩, q9⟩, hl, hc, hs⟩ := hq
  refine ⟨L, ⟨q1, q2, q3, q4, q5, q6, q7, ⟨V'.cls, v3, V', v1, rfl, by rw [v4, e, hlen], K4, fun i hi => ?_, fun i hi => ?_⟩, q9⟩, hl, hc, by rw [hs, e]⟩
  · have hi' : i < cs.length := by omega
    rw [v5 i (by omega), hcv i hi']; simp [List.getD_eq_getElem?_getD, hi']
  · have hi' : i < cs.length := by omega
    simp only [List.getD_eq_getElem?_getD, List.getElem?_map, List.getElem?_eq_getElem hi', Option.map_some, Option.getD_some]
    exact fits_lo8 _
end StrChars.Road
namespace StrChars.Road
open Jvm Sem ClassFile Op Lib Jvm.Stand Jvm.Free Jvm.Free.XT
/-- WHAT COMES BACK, in the writer's own shape -/
def QV (Z : State) (x : Addr) (N : Int32) (bs : List Int32) (h : Heap) (n0 : Nat) (v : Option Value) (h' : Heap) (L : List Loc) : Prop := v = none ∧ RoadKit.Fr n0 L ∧ RoadKit.Keep h h' [x] ∧ RoadKit.Exa Z h' x ST ∧ RoadKit.Fld Z h' x ST "coder" "B" (.int 0) ∧
  ∃ (t : Addr) (kb : ClassId), n0 ≤ t ∧ h.size ≤ t ∧ ¬ t = x ∧ RoadKit.Fld Z h' x ST "value" "[B" (.ref t) ∧ RoadKit.Arv Z h' t kb .byte N (bs.map Value.int) (.int 0)
/-- **new String(chars) AT A CALL, FOR THE WRITER**: a char[] of n known ints, each 0 to 255 -/
theorem backV {p : Program} {l : Launch} {e : Env} {R : Room} {s : State} {args : Array Value} {below : List Frame} {len W : Nat} {Z : State} {a0 : Array Value} {h : Heap} (hZ : Z.Warmed39 s.vm) (hw : ∀ d ∈ words, d.before a0 Z = true) {kI : Nat} (wi : (Jvm.Cond.instantiable ST kI).before a0 Z = true)
    {x b : Addr} {kC : ClassId} {cs bs : List Int32} {d v0 c0 : Value} {z N : Int32} {n n0 : Nat} (hx0 : n0 ≤ x) (hh0 : n0 ≤ h.size) (E : RoadKit.Exa Z h x ST) (V : RoadKit.Fld Z h x ST "value" "[B" v0) (C : RoadKit.Fld Z h x ST "coder" "B" c0) (K : RoadKit.Arv Z h b kC .char N (cs.map Value.int) d) (S : RoadKit.Sta Z h ST "COMPACT_STRINGS" "Z" (.int z)) (hz : ¬ z = 0)
    (hn : cs.length = n) (hN : N = Int32.ofNat n) (l0 : 0 < n) (l2 : n ≤ 4000) (hp : ∀ c ∈ cs, ¬ c < 0 ∧ ¬ (255 : Int32) < c) (hb : bs = cs.map (fun c => c.toInt8.toInt32)) (hfr : 4 ≤ R.frames) (hlo : W + 65 ≤ R.locals) :
    Back l R p e below s args (⟨"java/lang/String", "<init>", "([C)V"⟩ : MethodName) len W (fun P a => a = #[.ref x, .ref b] ∧ P.U.heap = h ∧ P.cells + 1 ≤ R.cells ∧ P.slots + n ≤ R.slots)
      (fun P _ v B => ∃ L, QV Z x N bs h n0 v B.U.heap L ∧ B.locs = P.locs ++ L ∧ B.cells = P.cells + 1 ∧ B.slots = P.slots + n) := by
  subst hn hN hb
  refine Back.mono (backArv hZ hw wi E V C K S hz (n32 (by omega)) l0 (by omega) (fun c hc => (hp c hc).2) hfr hlo) (fun P a hp => hp) (fun P a v B hp hq => ?_)
  obtain ⟨L, ⟨q1, q2, q3, q4, q5, q6, q7, ⟨kb, v1, v2⟩, q9⟩, hl, hc, hs⟩ := hq
  exact ⟨L, ⟨q1, fun y hy => by rw [q2 y hy]; exact hx0, q3, q5, q7, h.size, kb, hh0, Nat.le_refl _, Nat.ne_of_gt E.lt, q6, by rw [List.map_map]; exact v2⟩, hl, hc, hs⟩
end StrChars.Road
namespace StrChars
open Jvm Sem ClassFile Op Lib Jvm.Stand Jvm.Free.XT Jvm.Free.ALB Jvm.Free.JM Jvm.Free
open Jvm.Lib.Cold (StaticIs)
def hi8 (x : Int32) : Int32 := lo8 (x >>> ((8 : Int32) &&& 31))
/-- what StringUTF16.getChar makes of two bytes -/
def pairCh (u v : Int32) : Int32 := (((u &&& 255) <<< ((0 : Int32) &&& 31)) ||| ((v &&& 255) <<< ((8 : Int32) &&& 31))).toUInt32.toUInt16.toUInt32.toInt32
theorem shr0 (c : Int32) : c >>> ((0 : Int32) &&& 31) = c := by
  have e : ((0 : Int32) &&& 31) = 0 := by decide
  rw [e]
  apply Int32.toBitVec_inj.mp
  rw [Int32.toBitVec_shiftRight]
  have e1 : ((0 : Int32).toBitVec.smod 32) = 0#32 := by decide
  rw [e1, BitVec.sshiftRight_eq']
  exact BitVec.sshiftRight_zero
theorem lo8_and (x : Int32) : (lo8 x &&& 255).toBitVec.toNat = x.toBitVec.toNat % 256 := by
  have h : (lo8 x).toBitVec = (x.toBitVec.signExtend 8).signExtend 32 := by rw [lo8, Int8.toBitVec_toInt32, Int32.toBitVec_toInt8]
  rw [Int32.toBitVec_and, BitVec.toNat_and, h]
  have e : ((x.toBitVec.signExtend 8).signExtend 32).toNat % 256 = x.toBitVec.toNat % 256 := by
    rw [BitVec.toNat_signExtend]
    have hlt := x.toBitVec.isLt
    simp only [BitVec.toNat_setWidth, BitVec.toNat_signExtend]
    split <;> split <;> omega
  rw [← e]
  exact Nat.and_two_pow_sub_one_eq_mod _ 8
theorem pair_says {c : Int32} (h0 : ¬ c < 0) (h1 : ¬ 65535 < c) : pairCh (lo8 c) (hi8 c) = c := by
  rw [Int32.lt_iff_toInt_lt] at h0 h1
  have e0 : (0 : Int32).toInt = 0 := rfl
  have e1 : (65535 : Int32).toInt = 65535 := rfl
  have hc : c.toInt = c.toBitVec.toNat := by
    have := c.toBitVec.isLt
    have e : c.toInt = c.toBitVec.toInt := rfl
    rw [e] at h0 h1
    rw [e]
    rw [BitVec.toInt_eq_toNat_cond] at h0 h1 ⊢
    split at h0 <;> split <;> omega
  have hn : c.toBitVec.toNat < 65536 := by omega
  have a1 := lo8_and c
  have a2 : (hi8 c &&& 255).toBitVec.toNat = c.toBitVec.toNat / 256 := by
    rw [hi8, lo8_and]
    have e : ((8 : Int32) &&& 31) = 8 := by decide
    rw [e, Int32.toBitVec_shiftRight]
    have e2 : ((8 : Int32).toBitVec.smod 32) = 8#32 := by decide
    rw [e2, BitVec.sshiftRight_eq', BitVec.toNat_sshiftRight_of_msb_false (by rw [BitVec.msb_eq_false_iff_two_mul_lt]; omega)]
    show c.toBitVec.toNat >>> 8 % 256 = _
    rw [Nat.shiftRight_eq_div_pow]
    omega
  unfold pairCh
  apply Int32.toBitVec_inj.mp
  apply BitVec.eq_of_toNat_eq
  have f0 : ((0 : Int32) &&& 31) = 0 := by decide
  have f8 : ((8 : Int32) &&& 31) = 8 := by decide
  rw [f0, f8]
  have g : (((lo8 c &&& 255) <<< (0 : Int32)) ||| ((hi8 c &&& 255) <<< (8 : Int32))).toBitVec.toNat = c.toBitVec.toNat := by
    rw [Int32.toBitVec_or, Int32.toBitVec_shiftLeft, Int32.toBitVec_shiftLeft]
    have s0 : ((0 : Int32).toBitVec.smod 32) = 0#32 := by decide
    have s8 : ((8 : Int32).toBitVec.smod 32) = 8#32 := by decide
    rw [s0, s8, BitVec.toNat_or]
    simp only [BitVec.shiftLeft_eq', BitVec.toNat_shiftLeft, a1, a2]
    show (c.toBitVec.toNat % 256) <<< 0 % 2 ^ 32 ||| (c.toBitVec.toNat / 256) <<< 8 % 2 ^ 32 = _
    rw [Nat.shiftLeft_zero, Nat.mod_eq_of_lt (show c.toBitVec.toNat % 256 < 2 ^ 32 by omega), Nat.mod_eq_of_lt (show (c.toBitVec.toNat / 256) <<< 8 < 2 ^ 32 by rw [Nat.shiftLeft_eq]; omega), Nat.or_comm, ← Nat.shiftLeft_add_eq_or_of_lt (by omega), Nat.shiftLeft_eq]
    omega
  show BitVec.toNat (((((lo8 c &&& 255) <<< (0 : Int32)) ||| ((hi8 c &&& 255) <<< (8 : Int32))).toBitVec.setWidth 16).setWidth 32) = _
  rw [BitVec.toNat_setWidth, BitVec.toNat_setWidth, g]
  omega
end StrChars
namespace StrChars
open Jvm Sem ClassFile Op Lib Jvm.Stand Jvm.Free.XT Jvm.Free.ALB Jvm.Free.JM Jvm.Free
open Jvm.Lib.Cold (StaticIs)
theorem shr1 {n : Nat} (h : 2 * n < 2 ^ 31) : Int32.ofNat (2 * n) >>> ((1 : Int32) &&& 31) = Int32.ofNat n := by
  have e : ((1 : Int32) &&& 31) = 1 := by decide
  rw [e]
  apply Int32.toBitVec_inj.mp
  rw [Int32.toBitVec_shiftRight]
  have e1 : ((1 : Int32).toBitVec.smod 32) = 1#32 := by decide
  have hm : (BitVec.ofNat 32 (2 * n)).toNat = 2 * n := by rw [BitVec.toNat_ofNat, Nat.mod_eq_of_lt (by omega)]
  rw [e1, BitVec.sshiftRight_eq']
  apply BitVec.eq_of_toNat_eq
  show ((BitVec.ofNat 32 (2 * n)).sshiftRight 1).toNat = (BitVec.ofNat 32 n).toNat
  rw [BitVec.toNat_sshiftRight_of_msb_false (by rw [BitVec.msb_eq_false_iff_two_mul_lt, hm]; omega), hm, BitVec.toNat_ofNat, Nat.shiftRight_eq_div_pow]
  omega
/-- charAt's cast of a byte read back -/
def chr8 (u : Int32) : Int32 := (u &&& 255).toUInt32.toUInt16.toUInt32.toInt32
theorem chr8_lo8 {c : Int32} (h0 : ¬ c < 0) (h1 : ¬ 255 < c) : chr8 (lo8 c) = c := by
  have t : ∀ k : Fin 256, (Int32.ofNat k.val).toUInt32.toUInt16.toUInt32.toInt32 = Int32.ofNat k.val := by decide +kernel
  unfold chr8
  rw [lo8_mask h0 h1]
  rw [Int32.lt_iff_toInt_lt] at h0 h1
  have e0 : (0 : Int32).toInt = 0 := rfl
  have e1 : (255 : Int32).toInt = 255 := rfl
  obtain ⟨k, hk⟩ : ∃ k : Nat, c.toInt = k := ⟨c.toInt.toNat, by omega⟩
  have hx : c = Int32.ofNat k := Int32.toInt_inj.mp (by rw [hk, Int32.toInt_ofNat_small (by omega)])
  rw [hx]
  exact t ⟨k, by omega⟩
theorem narrow_ch {c : Int32} (h0 : ¬ c < 0) (h1 : ¬ 65535 < c) : narrow .char (.int c) = .int c := by
  have q : narrow .char (.int (pairCh (lo8 c) (hi8 c))) = .int (pairCh (lo8 c) (hi8 c)) := narrow_c _
  rwa [pair_says h0 h1] at q
/-- the array's cell V codes the n chars f 0 .. f (n - 1) by the coder cd, as the JDK does: coder 1 just where some char is above 255 -/
def Cod (cd : Int32) (n : Nat) (f : Nat → Int32) (V : Cell) : Prop := (cd = 0 ∧ V.slots.size = n ∧ ∀ j, j < n → V.slots[j]? = some (.int (lo8 (f j))) ∧ ¬ 255 < f j) ∨ (cd = 1 ∧ V.slots.size = 2 * n ∧ (∀ j, j < n → V.slots[2 * j]? = some (.int (lo8 (f j))) ∧ V.slots[2 * j + 1]? = some (.int (hi8 (f j)))) ∧ ∃ j, j < n ∧ 255 < f j)
theorem Cod.cd {cd : Int32} {n : Nat} {f : Nat → Int32} {V : Cell} (h : Cod cd n f V) : cd = 0 ∨ cd = 1 := h.imp (fun q => q.1) fun q => q.1
theorem Cod.len {cd : Int32} {n : Nat} {f : Nat → Int32} {V : Cell} (h : Cod cd n f V) (hs : V.slots.size < 2 ^ 31) : Int32.ofNat V.slots.size >>> (cd &&& 31) = Int32.ofNat n := by
  rcases h with ⟨rfl, h, -⟩ | ⟨rfl, h, -⟩
  · rw [shr0, h]
  · rw [h, shr1 (by omega)]
/-- **x is a String of the n chars f 0 .. f (n - 1)**, Latin-1 or UTF-16; its array at t has the cell V -/
def Txt (x t : Addr) (V : Cell) (cd : Int32) (n : Nat) (f : Nat → Int32) (U : State) : Prop := Exact "java/lang/String" x U ∧ Has x "java/lang/String" "value" "[B" (.ref t) U ∧ Has x "java/lang/String" "coder" "B" (.int cd) U ∧ XT.Arr .byte t V U ∧ Cod cd n f V ∧ ∀ j, j < n → ¬ f j < 0 ∧ ¬ 65535 < f j
theorem Txt.mv {x t : Addr} {V : Cell} {cd : Int32} {n : Nat} {f : Nat → Int32} {U U' : State} (h : Txt x t V cd n f U) (hal : U.vm.Alike U'.vm) (hh : U'.heap = U.heap) : Txt x t V cd n f U' := ⟨h.1.mv hal hh, h.2.1.mv hal hh, h.2.2.1.mv hal hh, h.2.2.2.1.mv hal hh, h.2.2.2.2⟩
namespace Cdr
def yN : MethodName := ⟨"java/lang/String", "coder", "()B"⟩
abbrev yB : ByteArray := jdk_42_method_152_code
theorem d0 : decode yB 0 = .ok (.getstatic 38, 3) := by decide +kernel
theorem d3 : decode yB 3 = .ok (.ifCond (.eq) 10, 3) := by decide +kernel
theorem d6 : decode yB 6 = .ok (.aload_n 0, 1) := by decide +kernel
theorem d7 : decode yB 7 = .ok (.getfield 15, 3) := by decide +kernel
theorem d10 : decode yB 10 = .ok (.goto 4, 3) := by decide +kernel
theorem d14 : decode yB 14 = .ok (.ireturn, 1) := by decide +kernel
def site : List Cond := [.fieldLink "java/lang/String" 38 "java/lang/String" "COMPACT_STRINGS" "Z", .fieldLink "java/lang/String" 15 "java/lang/String" "coder" "B"]
def tab : Cond := tabOf yN yB 1 (some .byte) site
def P (x : Addr) (cd z : Int32) (args : Array Value) (s : State) : Prop := args = #[.ref x] ∧ Has x "java/lang/String" "coder" "B" (.int cd) s ∧ (cd = 0 ∨ cd = 1) ∧ StaticIs s "java/lang/String" "COMPACT_STRINGS" "Z" (.int z) ∧ ¬ z = 0
def E (cd : Int32) (r : Option Value) (s u : State) : Prop := XT.PureE (some (.int cd)) r s u
theorem law (l : Launch) (x : Addr) (cd z : Int32) : Law l yN 1 0 0 0 yB 1 (some .byte) site (P x cd z) (E cd) [] 0 0 := by
  refine Law.of_walk (plainFor_of_name (by decide +kernel)) (by decide +kernel) (by decide +kernel) (by decide) (fun _ _ h => by rw [h.1]; rfl) (fun _ U U' hal hh h => ⟨h.1, h.2.1.mv hal hh, h.2.2.1, h.2.2.2.1.there hal hh, h.2.2.2.2⟩) (fun r U U' V V' h1 hal h2 h => XT.PureE.mv r U U' V V' h1 hal h2 h) ?_
  intro p e s m args below meth c s₁ X0 hexec hbytes hml hret hlk hnm hown hh0 W hP
  obtain ⟨rfl, hx, hc, s1, hz⟩ := hP
  have c1 : Steps p.tables e below (s₁.setTop (entryFrame m #[.ref x] 1)) (s₁.setTop (mkF m 0 #[.val (.ref x)] [])) := entry rfl
  obtain ⟨T2, X2, q2, st2⟩ := X0.sget hexec hown (wk W (.fieldLink "java/lang/String" 38 "java/lang/String" "COMPACT_STRINGS" "Z")) s1 (fun _ _ h => by rw [hh0]; exact h) (g := (mkF m 0 #[.val (.ref x)] [])) rfl (hb hbytes d0)
  have hh2 := q2.trans hh0
  have c3 : Steps p.tables e below (s₁.setTop (entryFrame m #[.ref x] 1)) (T2.setTop (mkF m 7 #[.val (.ref x)] [.ref x])) := (c1.trans (st2 _ (Steps.refl _))).trans (by
    refine XS.ifNo X2.here hexec rfl (hb hbytes d3) rfl (i0_eq_f hz) ?_
    refine XS.aloadN X2.here hexec rfl (hb hbytes d6) rfl rfl ?_
    exact Steps.refl _)
  obtain ⟨T4, X4, q4, st4⟩ := X2.hget hexec hown (wk W (.fieldLink "java/lang/String" 15 "java/lang/String" "coder" "B")) (hx.mv X2.warmed.alike hh2) (g := (mkF m 7 #[.val (.ref x)] [.ref x])) rfl (rest := []) rfl (hb hbytes d7)
  have c5 : Steps p.tables e below (s₁.setTop (entryFrame m #[.ref x] 1)) (T4.setTop (mkF m 14 #[.val (.ref x)] [.int cd])) := (c3.trans (st4 _ (Steps.refl _))).trans (by
    refine XS.goto X4.here hexec rfl (pc0 := 10) rfl (hb hbytes d10) (by decide) rfl ?_
    exact Steps.refl _)
  exact ⟨T4, some (.int cd), _, _, _, X4, rfl, rfl, rfl, (fun h => by cases h), ⟨rfl, q4.trans hh2⟩, fun fs hl => c5.trans (X4.ireturnOut hexec hret (by rcases hc with rfl | rfl <;> rfl) (Or.inr (Or.inr (Or.inl rfl))) (hb hbytes d14) hl)⟩
end Cdr
namespace Len
def yN : MethodName := ⟨"java/lang/String", "length", "()I"⟩
abbrev yB : ByteArray := jdk_42_method_54_code
theorem d0 : decode yB 0 = .ok (.aload_n 0, 1) := by decide +kernel
theorem d1 : decode yB 1 = .ok (.getfield 9, 3) := by decide +kernel
theorem d4 : decode yB 4 = .ok (.arraylength, 1) := by decide +kernel
theorem d5 : decode yB 5 = .ok (.aload_n 0, 1) := by decide +kernel
theorem d6 : decode yB 6 = .ok (.invokevirtual 335, 3) := by decide +kernel
theorem d9 : decode yB 9 = .ok (.ishr, 1) := by decide +kernel
theorem d10 : decode yB 10 = .ok (.ireturn, 1) := by decide +kernel
def site : List Cond := [.fieldLink "java/lang/String" 9 "java/lang/String" "value" "[B", Cdr.tab] ++ virtW "java/lang/String" 335 "java/lang/String" Cdr.yN Cdr.yN
def tab : Cond := tabOf yN yB 1 (some .int) site
def P (x t : Addr) (V : Cell) (cd : Int32) (n : Nat) (f : Nat → Int32) (z : Int32) (args : Array Value) (s : State) : Prop := args = #[.ref x] ∧ Txt x t V cd n f s ∧ StaticIs s "java/lang/String" "COMPACT_STRINGS" "Z" (.int z) ∧ ¬ z = 0
def E (n : Nat) (r : Option Value) (s u : State) : Prop := XT.PureE (some (.int (Int32.ofNat n))) r s u
/-- length() of a String of n chars, in either coding -/
theorem law (l : Launch) (x t : Addr) (V : Cell) (cd : Int32) (n : Nat) (f : Nat → Int32) (z : Int32) : Law l yN 1 0 1 13 yB 1 (some .int) site (P x t V cd n f z) (E n) [] 0 0 := by
  refine Law.of_walk (plainFor_of_name (by decide +kernel)) (by decide +kernel) (by decide +kernel) (by decide) (fun _ _ h => by rw [h.1]; rfl) (fun _ U U' hal hh h => ⟨h.1, h.2.1.mv hal hh, h.2.2.1.there hal hh, h.2.2.2⟩) (fun r U U' V V' h1 hal h2 h => XT.PureE.mv r U U' V V' h1 hal h2 h) ?_
  intro p e s m args below meth c s₁ X0 hexec hbytes hml hret hlk hnm hown hh0 W hP
  obtain ⟨rfl, hx, s1, hz⟩ := hP
  have v31 := hx.2.2.2.1.2.2.2
  have c1 : Steps p.tables e below (s₁.setTop (entryFrame m #[.ref x] 1)) (s₁.setTop (mkF m 1 #[.val (.ref x)] [.ref x])) := Steps.trans (entry rfl) (by
    show Steps p.tables e below (s₁.setTop (mkF m 0 #[.val (.ref x)] [])) _
    refine XS.aloadN X0.here hexec rfl (hb hbytes d0) rfl rfl ?_
    exact Steps.refl _)
  obtain ⟨T2, X2, q2, st2⟩ := X0.hget hexec hown (wk W (.fieldLink "java/lang/String" 9 "java/lang/String" "value" "[B")) (hx.mv X0.warmed.alike hh0).2.1 (g := (mkF m 1 #[.val (.ref x)] [.ref x])) rfl (rest := []) rfl (hb hbytes d1)
  have hh2 := q2.trans hh0
  have hx2 := hx.mv X2.warmed.alike hh2
  have c3 : Steps p.tables e below (s₁.setTop (entryFrame m #[.ref x] 1)) (T2.setTop (mkF m 6 #[.val (.ref x)] [.ref x, .int (Int32.ofNat V.slots.size)])) := (c1.trans (st2 _ (Steps.refl _))).trans (by
    refine X2.alen hexec hx2.2.2.2.1 rfl rfl (hb hbytes d4) ?_
    refine XS.aloadN X2.here hexec rfl (hb hbytes d5) rfl rfl ?_
    exact Steps.refl _)
  obtain ⟨v4, T4, X4, E4, g4⟩ := X2.callV hexec (Cdr.law l x cd z) hown (wks W (virtW "java/lang/String" 335 "java/lang/String" Cdr.yN Cdr.yN)) rfl (by decide) (wk W Cdr.tab) (W := 1) (Nat.le_of_ble_eq_true rfl) (Nat.le_of_ble_eq_true rfl) (Nat.le_refl _) (Nat.le_refl _) (hx2.1.fc X2.warmed.alike) hx2.1.is (g := (mkF m 6 #[.val (.ref x)] [.ref x, .int (Int32.ofNat V.slots.size)])) rfl (by rw [hml]; rfl) c3 (argsL := []) (rest := [.int (Int32.ofNat V.slots.size)]) rfl rfl (by show 2 * 0 + (1 + 0) ≤ _; decide) (hb hbytes d6) (⟨rfl, hx2.2.2.1, hx.2.2.2.2.1.cd, s1.there X2.warmed.alike hh2, hz⟩)
  obtain ⟨rfl, q4⟩ := E4
  have c5 : Steps p.tables e below (s₁.setTop (entryFrame m #[.ref x] 1)) (T4.setTop (mkF m 10 #[.val (.ref x)] [.int (Int32.ofNat V.slots.size >>> (cd &&& 31))])) := Steps.trans g4 (by
    refine ishr X4.here hexec rfl (hb hbytes d9) rfl ?_
    exact Steps.refl _)
  rw [hx.2.2.2.2.1.len v31] at c5
  exact ⟨T4, some (.int (Int32.ofNat n)), _, _, _, X4, rfl, rfl, rfl, (fun h => by cases h), ⟨rfl, q4.trans hh2⟩, fun fs hl => c5.trans (X4.ireturnOut hexec hret rfl (Or.inl rfl) (hb hbytes d10) hl)⟩
theorem pays {l : Launch} {R : Room} {p : Program} {e : Env} {below : List Frame} {s : State} {sargs : Array Value} {len W : Nat} (x t : Addr) (V : Cell) (cd : Int32) (n : Nat) (f : Nat → Int32) (z : Int32) (htab : tab.before sargs s = true) (hfr : 2 ≤ R.frames) (hlo : W + 25 ≤ R.locals) :
    Back l R p e below s sargs yN len W (fun A₁ a₁ => A₁.cells + 0 ≤ R.cells ∧ A₁.slots + 0 ≤ R.slots ∧ P x t V cd n f z a₁ A₁.U) (fun A₁ _ v₁ B₁ => E n v₁ A₁.U B₁.U ∧ B₁.locs = A₁.locs ++ [] ∧ B₁.cells = A₁.cells + 0 ∧ B₁.slots = A₁.slots + 0) :=
  (law l x t V cd n f z).pays htab hfr (by omega)
end Len
namespace IsL
def yN : MethodName := ⟨"java/lang/String", "isLatin1", "()Z"⟩
abbrev yB : ByteArray := jdk_42_method_154_code
theorem d0 : decode yB 0 = .ok (.getstatic 38, 3) := by decide +kernel
theorem d3 : decode yB 3 = .ok (.ifCond (.eq) 14, 3) := by decide +kernel
theorem d6 : decode yB 6 = .ok (.aload_n 0, 1) := by decide +kernel
theorem d7 : decode yB 7 = .ok (.getfield 15, 3) := by decide +kernel
theorem d10 : decode yB 10 = .ok (.ifCond (.ne) 7, 3) := by decide +kernel
theorem d13 : decode yB 13 = .ok (.iconst 1, 1) := by decide +kernel
theorem d14 : decode yB 14 = .ok (.goto 4, 3) := by decide +kernel
theorem d17 : decode yB 17 = .ok (.iconst 0, 1) := by decide +kernel
theorem d18 : decode yB 18 = .ok (.ireturn, 1) := by decide +kernel
def site : List Cond := [.fieldLink "java/lang/String" 38 "java/lang/String" "COMPACT_STRINGS" "Z", .fieldLink "java/lang/String" 15 "java/lang/String" "coder" "B"]
def tab : Cond := tabOf yN yB 1 (some .boolean) site
def P (x : Addr) (cd z : Int32) (args : Array Value) (s : State) : Prop := args = #[.ref x] ∧ Has x "java/lang/String" "coder" "B" (.int cd) s ∧ (cd = 0 ∨ cd = 1) ∧ StaticIs s "java/lang/String" "COMPACT_STRINGS" "Z" (.int z) ∧ ¬ z = 0
def E (cd : Int32) (r : Option Value) (s u : State) : Prop := XT.PureE (some (.int (1 - cd))) r s u
theorem law (l : Launch) (x : Addr) (cd z : Int32) : Law l yN 1 0 0 0 yB 1 (some .boolean) site (P x cd z) (E cd) [] 0 0 := by
  refine Law.of_walk (plainFor_of_name (by decide +kernel)) (by decide +kernel) (by decide +kernel) (by decide) (fun _ _ h => by rw [h.1]; rfl) (fun _ U U' hal hh h => ⟨h.1, h.2.1.mv hal hh, h.2.2.1, h.2.2.2.1.there hal hh, h.2.2.2.2⟩) (fun r U U' V V' h1 hal h2 h => XT.PureE.mv r U U' V V' h1 hal h2 h) ?_
  intro p e s m args below meth c s₁ X0 hexec hbytes hml hret hlk hnm hown hh0 W hP
  obtain ⟨rfl, hx, hc, s1, hz⟩ := hP
  have c1 : Steps p.tables e below (s₁.setTop (entryFrame m #[.ref x] 1)) (s₁.setTop (mkF m 0 #[.val (.ref x)] [])) := entry rfl
  obtain ⟨T2, X2, q2, st2⟩ := X0.sget hexec hown (wk W (.fieldLink "java/lang/String" 38 "java/lang/String" "COMPACT_STRINGS" "Z")) s1 (fun _ _ h => by rw [hh0]; exact h) (g := (mkF m 0 #[.val (.ref x)] [])) rfl (hb hbytes d0)
  have hh2 := q2.trans hh0
  have c3 : Steps p.tables e below (s₁.setTop (entryFrame m #[.ref x] 1)) (T2.setTop (mkF m 7 #[.val (.ref x)] [.ref x])) := (c1.trans (st2 _ (Steps.refl _))).trans (by
    refine XS.ifNo X2.here hexec rfl (hb hbytes d3) rfl (i0_eq_f hz) ?_
    refine XS.aloadN X2.here hexec rfl (hb hbytes d6) rfl rfl ?_
    exact Steps.refl _)
  obtain ⟨T4, X4, q4, st4⟩ := X2.hget hexec hown (wk W (.fieldLink "java/lang/String" 15 "java/lang/String" "coder" "B")) (hx.mv X2.warmed.alike hh2) (g := (mkF m 7 #[.val (.ref x)] [.ref x])) rfl (rest := []) rfl (hb hbytes d7)
  have c5 : Steps p.tables e below (s₁.setTop (entryFrame m #[.ref x] 1)) (T4.setTop (mkF m 10 #[.val (.ref x)] [.int cd])) := c3.trans (st4 _ (Steps.refl _))
  have c6 : Steps p.tables e below (s₁.setTop (entryFrame m #[.ref x] 1)) (T4.setTop (mkF m 18 #[.val (.ref x)] [.int (1 - cd)])) := by
    rcases hc with rfl | rfl
    · exact c5.trans (by
        refine XS.ifNo X4.here hexec rfl (hb hbytes d10) rfl (i0_ne_f rfl) ?_
        refine iconstV X4.here hexec rfl 1 (hb hbytes d13) (by decide) ?_
        refine XS.goto X4.here hexec rfl (pc0 := 14) rfl (hb hbytes d14) (by decide) rfl ?_
        exact Steps.refl _)
    · exact c5.trans (by
        refine XS.ifYes X4.here hexec rfl (pc0 := 10) rfl (hb hbytes d10) rfl (i0_ne_t (by decide)) (by decide) rfl ?_
        refine iconstV X4.here hexec rfl 0 (hb hbytes d17) (by decide) ?_
        exact Steps.refl _)
  exact ⟨T4, some (.int (1 - cd)), _, _, _, X4, rfl, rfl, rfl, (fun h => by cases h), ⟨rfl, q4.trans hh2⟩, fun fs hl => c6.trans (X4.ireturnOut hexec hret (by rcases hc with rfl | rfl <;> rfl) (Or.inr (Or.inl rfl)) (hb hbytes d18) hl)⟩
end IsL
namespace LChA
def yN : MethodName := ⟨"java/lang/StringLatin1", "charAt", "([BI)C"⟩
abbrev yB : ByteArray := jdk_43_method_2_code
theorem d0 : decode yB 0 = .ok (.iload_n 1, 1) := by decide +kernel
theorem d1 : decode yB 1 = .ok (.aload_n 0, 1) := by decide +kernel
theorem d2 : decode yB 2 = .ok (.arraylength, 1) := by decide +kernel
theorem d3 : decode yB 3 = .ok (.invokestatic 9, 3) := by decide +kernel
theorem d6 : decode yB 6 = .ok (.aload_n 0, 1) := by decide +kernel
theorem d7 : decode yB 7 = .ok (.iload_n 1, 1) := by decide +kernel
theorem d8 : decode yB 8 = .ok (.baload, 1) := by decide +kernel
theorem d9 : decode yB 9 = .ok (.sipush 255, 3) := by decide +kernel
theorem d12 : decode yB 12 = .ok (.iand, 1) := by decide +kernel
theorem d13 : decode yB 13 = .ok (.i2c, 1) := by decide +kernel
theorem d14 : decode yB 14 = .ok (.ireturn, 1) := by decide +kernel
def site : List Cond := [JO.Str_checkIndex.tab] ++ staticW "java/lang/StringLatin1" 9 JO.Str_checkIndex.yN
def tab : Cond := tabOf yN yB 2 (some .char) site
def P (t : Addr) (V : Cell) (i : Nat) (u : Int32) (fm : Value) (args : Array Value) (s : State) : Prop := args = #[.ref t, .int (Int32.ofNat i)] ∧ XT.Arr .byte t V s ∧ V.slots[i]? = some (.int u) ∧ (StaticIs s "jdk/internal/util/Preconditions" "SIOOBE_FORMATTER" "Ljava/util/function/BiFunction;" fm ∧ fm.isRef = true)
def E (u : Int32) (r : Option Value) (s w : State) : Prop := XT.PureE (some (.int (chr8 u))) r s w
theorem law (l : Launch) (t : Addr) (V : Cell) (i : Nat) (u : Int32) (fm : Value) : Law l yN 2 2 2 27 yB 2 (some .char) site (P t V i u fm) (E u) [] 0 0 := by
  refine Law.of_walk (plainFor_of_name (by decide +kernel)) (by decide +kernel) (by decide +kernel) (by decide) (fun _ _ h => by rw [h.1]; rfl) (fun _ U U' hal hh h => ⟨h.1, h.2.1.mv hal hh, h.2.2.1, h.2.2.2.1.there hal hh, h.2.2.2.2⟩) (fun r U U' V V' h1 hal h2 h => XT.PureE.mv r U U' V V' h1 hal h2 h) ?_
  intro p e s m args below meth c s₁ X0 hexec hbytes hml hret hlk hnm hown hh0 W hP
  obtain ⟨rfl, hV, hu, s1, rf⟩ := hP
  have v31 := hV.2.2.2
  have hi : i < V.slots.size := (Array.getElem?_eq_some_iff.mp hu).1
  have c1 : Steps p.tables e below (s₁.setTop (entryFrame m #[.ref t, .int (Int32.ofNat i)] 2)) (s₁.setTop (mkF m 0 #[.val (.ref t), .val (.int (Int32.ofNat i))] [])) := entry rfl
  have c2 : Steps p.tables e below (s₁.setTop (entryFrame m #[.ref t, .int (Int32.ofNat i)] 2)) (s₁.setTop (mkF m 3 #[.val (.ref t), .val (.int (Int32.ofNat i))] [.int (Int32.ofNat V.slots.size), .int (Int32.ofNat i)])) := c1.trans (by
    refine XS.iloadN X0.here hexec rfl (hb hbytes d0) rfl ?_
    refine XS.aloadN X0.here hexec rfl (hb hbytes d1) rfl rfl ?_
    refine X0.alen hexec (hV.mv X0.warmed.alike hh0) rfl rfl (hb hbytes d2) ?_
    exact Steps.refl _)
  obtain ⟨v3, T3, X3, E3, g3⟩ := X0.callS hexec (JO.Str_checkIndex.law l (Int32.ofNat i) (Int32.ofNat V.slots.size) fm) hown (wks W (staticW "java/lang/StringLatin1" 9 JO.Str_checkIndex.yN)) (wk W JO.Str_checkIndex.tab) (W := 0) (Nat.le_of_ble_eq_true rfl) (Nat.le_of_ble_eq_true rfl) (Nat.le_refl _) (Nat.le_refl _) (g := (mkF m 3 #[.val (.ref t), .val (.int (Int32.ofNat i))] [.int (Int32.ofNat V.slots.size), .int (Int32.ofNat i)])) rfl (by rw [hml]; rfl) c2 (argsL := [.int (Int32.ofNat i), .int (Int32.ofNat V.slots.size)]) (rest := []) rfl rfl (by show 2 * 0 + 0 ≤ _; decide) (hb hbytes d3) (⟨rfl, rf, s1.there X0.warmed.alike hh0, Int32.ofNat_not_neg (by omega), lt32 v31 hi⟩)
  obtain ⟨rfl, q3⟩ := E3
  have hh3 := q3.trans hh0
  have c4 : Steps p.tables e below (s₁.setTop (entryFrame m #[.ref t, .int (Int32.ofNat i)] 2)) (T3.setTop (mkF m 14 #[.val (.ref t), .val (.int (Int32.ofNat i))] [.int (chr8 u)])) := Steps.trans g3 (by
    refine XS.aloadN X3.here hexec rfl (hb hbytes d6) rfl rfl ?_
    refine XS.iloadN X3.here hexec rfl (hb hbytes d7) rfl ?_
    refine X3.aget hexec (hV.mv X3.warmed.alike hh3) rfl hu rfl rfl (hb hbytes d8) ?_
    refine sipushV X3.here hexec rfl 255 (hb hbytes d9) (by decide) ?_
    refine XS.iand X3.here hexec rfl (hb hbytes d12) rfl ?_
    refine i2c X3.here hexec rfl (hb hbytes d13) rfl ?_
    exact Steps.refl _)
  exact ⟨T3, some (.int (chr8 u)), _, _, _, X3, rfl, rfl, rfl, (fun h => by cases h), ⟨rfl, hh3⟩, fun fs hl => c4.trans (X3.ireturnOut hexec hret (narrow_c _) (Or.inr (Or.inr (Or.inr (Or.inl rfl)))) (hb hbytes d14) hl)⟩
end LChA
end StrChars
namespace StrChars.Road
open Jvm Sem ClassFile Op Lib Jvm.Stand Jvm.Free Jvm.Free.XT
open Jvm.Lib.Cold (StaticIs)
theorem consq {a : Array Value} {s : State} {c : Jvm.Cond} {L : List Jvm.Cond} (h0 : c.before a s = true) (h : ∀ w ∈ L, w.before a s = true) : ∀ w ∈ c :: L, w.before a s = true := fun w hw => (List.mem_cons.mp hw).elim (fun e => e ▸ h0) (h w)
/-- the words of String.length(), either coding -/
abbrev wordsLen : List Jvm.Cond := [.code Len.yN Len.yB 1 (some .int), .initialized ST, .fieldLink ST 9 ST "value" "[B", .fieldLink ST 38 ST "COMPACT_STRINGS" "Z", .fieldLink ST 15 ST "coder" "B", .code Cdr.yN Cdr.yB 1 (some .byte), .methodLink ST 335 Cdr.yN, .declares Cdr.yN, .selects ST Cdr.yN Cdr.yN, .instanceMethod Cdr.yN]
theorem tabLen_of {a : Array Value} {s : State} (h : ∀ w ∈ wordsLen, w.before a s = true) : Len.tab.before a s = true := by
  have hc : Cdr.tab.before a s = true := unparts (wk h (.code Cdr.yN Cdr.yB 1 (some .byte))) (wks h (.initialized Cdr.yN.cls :: Cdr.site))
  have q := consq hc h
  exact unparts (wk q (.code Len.yN Len.yB 1 (some .int))) (wks q (.initialized Len.yN.cls :: Len.site))
theorem movedLen {Z s : State} {a0 args : Array Value} (hZ : Z.Warmed39 s.vm) (hw : ∀ d ∈ wordsLen, d.before a0 Z = true) : ∀ d ∈ wordsLen, d.before args s = true := fun d hd => by
  have q := hw d hd
  have t : ∀ d ∈ wordsLen, d = .arrayClass .byte ∨ (d.onTables && d.keepsFace) = true := by decide +kernel
  rcases t d hd with rfl | t
  · exact RoadKit.mvA hZ q
  · exact RoadKit.mv hZ q t
/-- the bytes of the chars cs, low before high -/
def wideBytes : List Int32 → List Value
  | [] => []
  | c :: cs => .int (lo8 c) :: .int (hi8 c) :: wideBytes cs
theorem wide_lo (d : Value) : ∀ (cs : List Int32) (j : Nat), j < cs.length → (wideBytes cs).getD (2 * j) d = .int (lo8 (cs.getD j 0))
  | [], j, h => absurd h (Nat.not_lt_zero j)
  | c :: cs, 0, _ => rfl
  | c :: cs, j + 1, h => by
    have q := wide_lo d cs j (by simpa using h)
    rw [show 2 * (j + 1) = 2 * j + 1 + 1 from by omega]
    simpa [wideBytes] using q
theorem wide_hi (d : Value) : ∀ (cs : List Int32) (j : Nat), j < cs.length → (wideBytes cs).getD (2 * j + 1) d = .int (hi8 (cs.getD j 0))
  | [], j, h => absurd h (Nat.not_lt_zero j)
  | c :: cs, 0, _ => rfl
  | c :: cs, j + 1, h => by
    have q := wide_hi d cs j (by simpa using h)
    rw [show 2 * (j + 1) + 1 = 2 * j + 1 + 1 + 1 from by omega]
    simpa [wideBytes] using q
theorem low_at (d : Value) (cs : List Int32) (j : Nat) (h : j < cs.length) : (cs.map fun c => Value.int (lo8 c)).getD j d = .int (lo8 (cs.getD j 0)) := by
  simp [List.getD_eq_getElem?_getD, h]
/-- an array of N2 bytes vs codes the chars cs by the coder cd -/
def CodA (cs : List Int32) (cd N2 : Int32) (vs : List Value) : Prop := (cd = 0 ∧ N2 = Int32.ofNat cs.length ∧ vs = (cs.map fun c => Value.int (lo8 c)) ∧ ∀ c ∈ cs, ¬ 255 < c) ∨ (cd = 1 ∧ N2 = Int32.ofNat (2 * cs.length) ∧ vs = wideBytes cs ∧ ∃ c ∈ cs, 255 < c)
theorem CodA.cod {cs : List Int32} {cd N2 : Int32} {vs : List Value} {V : Cell} (h : CodA cs cd N2 vs) (hn : 2 * cs.length < 2 ^ 31) (hs : V.slots.size = N2.toNatClampNeg) (hv : RoadKit.Has V vs (.int 0)) : Cod cd cs.length (fun j => cs.getD j 0) V := by
  rcases h with ⟨rfl, rfl, rfl, h⟩ | ⟨rfl, rfl, rfl, c, hc, hw⟩
  · rw [n32 (by omega)] at hs
    exact Or.inl ⟨rfl, hs, fun j hj => ⟨by rw [hv j (by omega), low_at _ _ _ hj], by
      have e : cs.getD j 0 = cs[j] := by simp [List.getD_eq_getElem?_getD, hj]
      show ¬ 255 < cs.getD j 0
      rw [e]; exact h _ (List.getElem_mem _)⟩⟩
  · rw [n32 (by omega)] at hs
    obtain ⟨j, hj, rfl⟩ := List.getElem_of_mem hc
    exact Or.inr ⟨rfl, hs, fun j hj => ⟨by rw [hv _ (by omega), wide_lo _ _ _ hj], by rw [hv _ (by omega), wide_hi _ _ _ hj]⟩, j, hj, by
      have e : cs.getD j 0 = cs[j] := by simp [List.getD_eq_getElem?_getD, hj]
      show 255 < cs.getD j 0
      rw [e]; exact hw⟩
/-- an object of exactly java/lang/String, its two fields found: as the laws ask it -/
theorem strObj {Z U : State} {a0 : Array Value} {kI : Nat} (wi : (Jvm.Cond.instantiable ST kI).before a0 Z = true) (al : Z.vm.Alike U.vm) {x : Addr} {v0 c0 : Value} (E : RoadKit.Exa Z U.heap x ST) (V : RoadKit.Fld Z U.heap x ST "value" "[B" v0) (C : RoadKit.Fld Z U.heap x ST "coder" "B" c0) :
    ∃ (D : Cell) (fV fC : Field), Blank ST x D U ∧ Found ST "value" "[B" fV U ∧ Found ST "coder" "B" fC U ∧ D.slots[fV.slot]? = some v0 ∧ D.slots[fC.slot]? = some c0 ∧ RoadKit.slotOf Z ST "value" "[B" = fV.slot ∧ RoadKit.slotOf Z ST "coder" "B" = fC.slot := by
  obtain ⟨D, cfV, kV, iV, fV, hD, gV, stV, knV, obV, asV, slV⟩ := V
  obtain ⟨D', cfC, kC, iC, fC, hD', gC, stC, -, -, asC, slC⟩ := C
  cases hD.symm.trans hD'
  obtain ⟨D2, kD, e1, e2, e3, e4, e5⟩ := E
  cases hD.symm.trans e1
  obtain ⟨c2, k2, i1, i2, i3, -⟩ := Cond.instantiable_spec wi
  cases e2.symm.trans i1
  cases e3.symm.trans i2
  obtain ⟨kU, u1, u2⟩ := al.2.2 _ _ e3
  exact ⟨D, fV, fC, ⟨hD, ⟨knV, fun q hq => by rw [hq] at obV; cases obV⟩, by rw [al.findClass]; exact e2, kU, u1, by rw [u2]; exact i3, by rw [u2]; exact e5 i3⟩, ⟨SBG.found_only al ⟨cfV, kV, iV, gV⟩, stV⟩, ⟨SBG.found_only al ⟨cfC, kC, iC, gC⟩, stC⟩, slV, slC, by simp [RoadKit.slotOf, gV], by simp [RoadKit.slotOf, gC]⟩
theorem sta_is {Z U : State} (al : Z.vm.Alike U.vm) {C n d : String} {v : Value} (S : RoadKit.Sta Z U.heap C n d v) : StaticIs U C n d v := by
  obtain ⟨cfS, iS, kS, fS, st, cS, t1, t2, t3, t4, t5, t6, t7⟩ := S
  exact StaticIs.there (s := { Z with heap := U.heap }) ⟨cfS, iS, kS, fS, st, cS, t1, t2, t3, t4, t5, (fun q => by rw [q] at t6; cases t6), t7⟩ al rfl
/-- **length() OF SUCH A STRING** -/
theorem lenW {p : Program} {l : Launch} {e : Env} {R : Room} {s : State} {args : Array Value} {below : List Frame} {len W : Nat} {Z : State} {a0 : Array Value} {h : Heap} (hZ : Z.Warmed39 s.vm) (hw : ∀ d ∈ wordsLen, d.before a0 Z = true) {kI : Nat} (wi : (Jvm.Cond.instantiable ST kI).before a0 Z = true)
    {x t : Addr} {kb : ClassId} {cs : List Int32} {cd N2 z : Int32} {vs : List Value} (E : RoadKit.Exa Z h x ST) (V : RoadKit.Fld Z h x ST "value" "[B" (.ref t)) (C : RoadKit.Fld Z h x ST "coder" "B" (.int cd)) (K : RoadKit.Arv Z h t kb .byte N2 vs (.int 0)) (hc : CodA cs cd N2 vs) (hb : ∀ c ∈ cs, ¬ c < 0 ∧ ¬ (65535 : Int32) < c)
    (S : RoadKit.Sta Z h ST "COMPACT_STRINGS" "Z" (.int z)) (hz : ¬ z = 0) (l2 : cs.length ≤ 4000) (hfr : 2 ≤ R.frames) (hlo : W + 25 ≤ R.locals) :
    Back l R p e below s args (⟨"java/lang/String", "length", "()I"⟩ : MethodName) len W (fun P a => a = #[.ref x] ∧ P.U.heap = h ∧ P.cells + 0 ≤ R.cells ∧ P.slots + 0 ≤ R.slots)
      (fun P _ v B => ∃ L, (v = some (.int (Int32.ofNat cs.length)) ∧ L = [] ∧ B.U.heap = h) ∧ B.locs = P.locs ++ L ∧ B.cells = P.cells + 0 ∧ B.slots = P.slots + 0) := by
  obtain ⟨A, K1, K2, K3, K4, K5, K6⟩ := K
  have hcod := hc.cod (by omega) K3 K5
  intro m meth c P g ig mk a X hg hsize hdg hW hn hp'
  obtain ⟨rfl, rfl, r1, r2⟩ := hp'
  have al : Z.vm.Alike P.U.vm := hZ.alike.trans X.warmed.alike
  obtain ⟨D, fV, fC, hB, F1, F2, g1, g2, -, -⟩ := strObj wi al E V C
  have hx : Txt x t A cd cs.length (fun j => cs.getD j 0) P.U := ⟨⟨_, hB.2.2.1, D, hB.1, rfl, by cases q : D.vm <;> first | rfl | exact absurd q (hB.2.1.2 _)⟩, Has.of hB F1 g1, Has.of hB F2 g2, ⟨K1.1, State.isArrayOf_alike al K1.2.1, K1.2.2, by rcases hcod with ⟨-, q, -⟩ | ⟨-, q, -⟩ <;> omega⟩, hcod, fun j hj => by
    have e : cs.getD j 0 = cs[j] := by simp [List.getD_eq_getElem?_getD, hj]
    show ¬ cs.getD j 0 < 0 ∧ ¬ 65535 < cs.getD j 0
    rw [e]; exact hb _ (List.getElem_mem _)⟩
  obtain ⟨v, B, X', ⟨⟨hv, hh⟩, hl, hk, hs⟩, st⟩ := Len.pays x t A cd cs.length (fun j => cs.getD j 0) z (tabLen_of (movedLen hZ hw)) hfr hlo m meth c P g ig mk _ X hg hsize hdg hW hn ⟨r1, r2, rfl, hx, sta_is al S, hz⟩
  exact ⟨v, B, X', ⟨[], ⟨hv, rfl, hh⟩, hl, hk, hs⟩, st⟩
end StrChars.Road
namespace StrChars
open Jvm Sem ClassFile Op Lib Jvm.Stand Jvm.Free.XT Jvm.Free.ALB Jvm.Free.JM Jvm.Free
open Jvm.Lib.Cold (StaticIs)
/-- what place i of a byte[]'s cell holds -/
def yv (A : Cell) (i : Nat) : Int32 := match A.slots[i]? with | some (.int x) => x | _ => 0
theorem yv_get {a : Addr} {A : Cell} {U : State} (h : XT.Arr .byte a A U) (ht : Typed .byte A) {i : Nat} (hi : i < A.slots.size) : A.slots[i]? = some (.int (yv A i)) := by
  have e := Array.getElem?_eq_getElem hi
  have f := ht i _ e
  unfold yv; rw [e]
  generalize A.slots[i] = v at f
  cases v <;> simp [fits] at f ⊢
/-- the two arrays are equal, place for place -/
def EqC (A B : Cell) : Prop := A.slots.size = B.slots.size ∧ ∀ i, i < A.slots.size → yv A i = yv B i
/-- a boolean that says whether p -/
def Says01 (q : Prop) (r : Option Value) (s u : State) : Prop := ∃ v : Int32, r = some (.int v) ∧ u.heap = s.heap ∧ ((v = 1 ∧ q) ∨ (v = 0 ∧ ¬ q))
theorem Says01.mv {q : Prop} : ∀ r (U U' V V' : State), U'.heap = U.heap → V.vm.Alike V'.vm → V'.heap = V.heap → Says01 q r U V → Says01 q r U' V' :=
  fun r U U' V V' h1 _ h2 ⟨v, a, b, c⟩ => ⟨v, a, by rw [h1, h2]; exact b, c⟩
namespace LEq
def yN : MethodName := ⟨"java/lang/StringLatin1", "equals", "([B[B)Z"⟩
abbrev yB : ByteArray := jdk_43_method_13_code
theorem d0 : decode yB 0 = .ok (.aload_n 0, 1) := by decide +kernel
theorem d1 : decode yB 1 = .ok (.arraylength, 1) := by decide +kernel
theorem d2 : decode yB 2 = .ok (.aload_n 1, 1) := by decide +kernel
theorem d3 : decode yB 3 = .ok (.arraylength, 1) := by decide +kernel
theorem d4 : decode yB 4 = .ok (.if_icmp (.ne) 30, 3) := by decide +kernel
theorem d7 : decode yB 7 = .ok (.iconst 0, 1) := by decide +kernel
theorem d8 : decode yB 8 = .ok (.istore_n 2, 1) := by decide +kernel
theorem d9 : decode yB 9 = .ok (.iload_n 2, 1) := by decide +kernel
theorem d10 : decode yB 10 = .ok (.aload_n 0, 1) := by decide +kernel
theorem d11 : decode yB 11 = .ok (.arraylength, 1) := by decide +kernel
theorem d12 : decode yB 12 = .ok (.if_icmp (.ge) 20, 3) := by decide +kernel
theorem d15 : decode yB 15 = .ok (.aload_n 0, 1) := by decide +kernel
theorem d16 : decode yB 16 = .ok (.iload_n 2, 1) := by decide +kernel
theorem d17 : decode yB 17 = .ok (.baload, 1) := by decide +kernel
theorem d18 : decode yB 18 = .ok (.aload_n 1, 1) := by decide +kernel
theorem d19 : decode yB 19 = .ok (.iload_n 2, 1) := by decide +kernel
theorem d20 : decode yB 20 = .ok (.baload, 1) := by decide +kernel
theorem d21 : decode yB 21 = .ok (.if_icmp (.eq) 5, 3) := by decide +kernel
theorem d24 : decode yB 24 = .ok (.iconst 0, 1) := by decide +kernel
theorem d25 : decode yB 25 = .ok (.ireturn, 1) := by decide +kernel
theorem d26 : decode yB 26 = .ok (.iinc 2 1, 3) := by decide +kernel
theorem d29 : decode yB 29 = .ok (.goto (-20), 3) := by decide +kernel
theorem d32 : decode yB 32 = .ok (.iconst 1, 1) := by decide +kernel
theorem d33 : decode yB 33 = .ok (.ireturn, 1) := by decide +kernel
theorem d34 : decode yB 34 = .ok (.iconst 0, 1) := by decide +kernel
theorem d35 : decode yB 35 = .ok (.ireturn, 1) := by decide +kernel
def site : List Cond := []
def tab : Cond := tabOf yN yB 3 (some .boolean) site
def P (a : Addr) (A : Cell) (b : Addr) (B : Cell) (args : Array Value) (s : State) : Prop := args = #[.ref a, .ref b] ∧ XT.Arr .byte a A s ∧ Typed .byte A ∧ XT.Arr .byte b B s ∧ Typed .byte B
/-- whether two byte[] are equal, place for place -/
theorem law (l : Launch) (a : Addr) (A : Cell) (b : Addr) (B : Cell) : Law l yN 2 2 0 0 yB 3 (some .boolean) site (P a A b B) (Says01 (EqC A B)) [] 0 0 := by
  refine Law.of_walk (plainFor_of_name (by decide +kernel)) (by decide +kernel) (by decide +kernel) (by decide) (fun _ _ h => by rw [h.1]; rfl) (fun _ U U' hal hh h => ⟨h.1, h.2.1.mv hal hh, h.2.2.1, h.2.2.2.1.mv hal hh, h.2.2.2.2⟩) (fun r U U' V V' h1 hal h2 h => Says01.mv r U U' V V' h1 hal h2 h) ?_
  intro p e s m args below meth c s₁ X0 hexec hbytes hml hret hlk hnm hown hh0 W hP
  obtain ⟨rfl, hA, tA, hB, tB⟩ := hP
  have a31 := hA.2.2.2
  have b31 := hB.2.2.2
  have hA0 := hA.mv X0.warmed.alike hh0
  have hB0 := hB.mv X0.warmed.alike hh0
  have c1 : Steps p.tables e below (s₁.setTop (entryFrame m #[.ref a, .ref b] 3)) (s₁.setTop (mkF m 0 #[.val (.ref a), .val (.ref b), .unset] [])) := entry rfl
  have c2 : Steps p.tables e below (s₁.setTop (entryFrame m #[.ref a, .ref b] 3)) (s₁.setTop (mkF m 4 #[.val (.ref a), .val (.ref b), .unset] [.int (Int32.ofNat B.slots.size), .int (Int32.ofNat A.slots.size)])) := c1.trans (by
    refine XS.aloadN X0.here hexec rfl (hb hbytes d0) rfl rfl ?_
    refine X0.alen hexec hA0 rfl rfl (hb hbytes d1) ?_
    refine XS.aloadN X0.here hexec rfl (hb hbytes d2) rfl rfl ?_
    refine X0.alen hexec hB0 rfl rfl (hb hbytes d3) ?_
    exact Steps.refl _)
  by_cases hs : A.slots.size = B.slots.size
  · have c3 : Steps p.tables e below (s₁.setTop (entryFrame m #[.ref a, .ref b] 3)) (s₁.setTop (mkF m 9 #[.val (.ref a), .val (.ref b), .val (.int 0)] [])) := c2.trans (by
      refine XS.icmpNo X0.here hexec rfl (hb hbytes d4) rfl (ii_ne_f (by rw [hs])) ?_
      refine iconstV X0.here hexec rfl 0 (hb hbytes d7) (by decide) ?_
      refine XS.istoreN X0.here hexec rfl (hb hbytes d8) rfl rfl ?_
      exact Steps.refl _)
    have loop : ∀ (r i : Nat), i + r = A.slots.size → (∀ j, j < i → yv A j = yv B j) → Steps p.tables e below (s₁.setTop (entryFrame m #[.ref a, .ref b] 3)) (s₁.setTop (mkF m 9 #[.val (.ref a), .val (.ref b), .val (.int (Int32.ofNat i))] [])) → ∃ (pc : Nat) (Ls : Array Slot) (v : Int32), (pc = 25 ∨ pc = 33) ∧ ((v = 1 ∧ EqC A B) ∨ (v = 0 ∧ ¬ EqC A B)) ∧ Steps p.tables e below (s₁.setTop (entryFrame m #[.ref a, .ref b] 3)) (s₁.setTop (mkF m pc Ls [.int v])) := by
      intro r
      induction r with
      | zero =>
        intro i hi he cl
        exact ⟨33, _, 1, Or.inr rfl, Or.inl ⟨rfl, hs, fun j hj => he j (by omega)⟩, cl.trans (by
          refine XS.iloadN X0.here hexec rfl (hb hbytes d9) rfl ?_
          refine XS.aloadN X0.here hexec rfl (hb hbytes d10) rfl rfl ?_
          refine X0.alen hexec hA0 rfl rfl (hb hbytes d11) ?_
          refine XS.icmpYes X0.here hexec rfl (pc0 := 12) rfl (hb hbytes d12) rfl (ii_ge_t (nlt32 (by omega) (by omega))) (by decide) rfl ?_
          refine iconstV X0.here hexec rfl 1 (hb hbytes d32) (by decide) ?_
          exact Steps.refl _)⟩
      | succ r ih =>
        intro i hi he cl
        have c4 : Steps p.tables e below (s₁.setTop (entryFrame m #[.ref a, .ref b] 3)) (s₁.setTop (mkF m 21 #[.val (.ref a), .val (.ref b), .val (.int (Int32.ofNat i))] [.int (yv B i), .int (yv A i)])) := cl.trans (by
          refine XS.iloadN X0.here hexec rfl (hb hbytes d9) rfl ?_
          refine XS.aloadN X0.here hexec rfl (hb hbytes d10) rfl rfl ?_
          refine X0.alen hexec hA0 rfl rfl (hb hbytes d11) ?_
          refine XS.icmpNo X0.here hexec rfl (hb hbytes d12) rfl (ii_ge_f (lt32 (by omega) (by omega))) ?_
          refine XS.aloadN X0.here hexec rfl (hb hbytes d15) rfl rfl ?_
          refine XS.iloadN X0.here hexec rfl (hb hbytes d16) rfl ?_
          refine X0.aget hexec hA0 rfl (yv_get hA tA (i := i) (by omega)) rfl rfl (hb hbytes d17) ?_
          refine XS.aloadN X0.here hexec rfl (hb hbytes d18) rfl rfl ?_
          refine XS.iloadN X0.here hexec rfl (hb hbytes d19) rfl ?_
          refine X0.aget hexec hB0 rfl (yv_get hB tB (i := i) (by omega)) rfl rfl (hb hbytes d20) ?_
          exact Steps.refl _)
        by_cases hv : yv A i = yv B i
        · have c5 : Steps p.tables e below (s₁.setTop (entryFrame m #[.ref a, .ref b] 3)) (s₁.setTop (mkF m 9 #[.val (.ref a), .val (.ref b), .val (.int (Int32.ofNat i + 1))] [])) := c4.trans (by
            refine XS.icmpYes X0.here hexec rfl (pc0 := 21) rfl (hb hbytes d21) rfl (ii_eq_t hv) (by decide) rfl ?_
            refine iincV X0.here hexec rfl 1 (hb hbytes d26) (by decide) rfl rfl ?_
            refine XS.goto X0.here hexec rfl (pc0 := 29) rfl (hb hbytes d29) (by decide) rfl ?_
            exact Steps.refl _)
          rw [succ32] at c5
          exact ih (i + 1) (by omega) (fun j hj => by
            by_cases e : j = i
            · rw [e]; exact hv
            · exact he j (by omega)) c5
        · exact ⟨25, _, 0, Or.inl rfl, Or.inr ⟨rfl, fun q => hv (q.2 i (by omega))⟩, c4.trans (by
            refine XS.icmpNo X0.here hexec rfl (hb hbytes d21) rfl (ii_eq_f hv) ?_
            refine iconstV X0.here hexec rfl 0 (hb hbytes d24) (by decide) ?_
            exact Steps.refl _)⟩
    obtain ⟨pc, Ls, v, hpc, hv, cz⟩ := loop A.slots.size 0 (by omega) (fun j hj => absurd hj (Nat.not_lt_zero j)) c3
    have nv : narrow .boolean (.int v) = .int v := by rcases hv with ⟨rfl, -⟩ | ⟨rfl, -⟩ <;> rfl
    rcases hpc with rfl | rfl
    · exact ⟨s₁, some (.int v), _, _, _, X0, rfl, rfl, rfl, (fun h => by cases h), ⟨v, rfl, hh0, hv⟩, fun fs hl => cz.trans (X0.ireturnOut hexec hret nv (Or.inr (Or.inl rfl)) (hb hbytes d25) hl)⟩
    · exact ⟨s₁, some (.int v), _, _, _, X0, rfl, rfl, rfl, (fun h => by cases h), ⟨v, rfl, hh0, hv⟩, fun fs hl => cz.trans (X0.ireturnOut hexec hret nv (Or.inr (Or.inl rfl)) (hb hbytes d33) hl)⟩
  · have c3 : Steps p.tables e below (s₁.setTop (entryFrame m #[.ref a, .ref b] 3)) (s₁.setTop (mkF m 35 #[.val (.ref a), .val (.ref b), .unset] [.int 0])) := c2.trans (by
      refine XS.icmpYes X0.here hexec rfl (pc0 := 4) rfl (hb hbytes d4) rfl (ii_ne_t (ne32 a31 b31 hs)) (by decide) rfl ?_
      refine iconstV X0.here hexec rfl 0 (hb hbytes d34) (by decide) ?_
      exact Steps.refl _)
    exact ⟨s₁, some (.int 0), _, _, _, X0, rfl, rfl, rfl, (fun h => by cases h), ⟨0, rfl, hh0, Or.inr ⟨rfl, fun q => hs q.1⟩⟩, fun fs hl => c3.trans (X0.ireturnOut hexec hret rfl (Or.inr (Or.inl rfl)) (hb hbytes d35) hl)⟩
end LEq
theorem Cod.ty {cd : Int32} {n : Nat} {f : Nat → Int32} {V : Cell} (h : Cod cd n f V) : Typed .byte V := fun i v hv => by
  have hi : i < V.slots.size := (Array.getElem?_eq_some_iff.mp hv).1
  rcases h with ⟨-, k1, k2⟩ | ⟨-, k1, k2, -⟩
  · rw [(k2 i (by omega)).1] at hv; cases hv; exact fits_lo8 _
  · rcases Nat.mod_two_eq_zero_or_one i with e | e
    · obtain ⟨j, rfl⟩ : ∃ j, i = 2 * j := ⟨i / 2, by omega⟩
      rw [(k2 j (by omega)).1] at hv; cases hv; exact fits_lo8 _
    · obtain ⟨j, rfl⟩ : ∃ j, i = 2 * j + 1 := ⟨i / 2, by omega⟩
      rw [(k2 j (by omega)).2] at hv; cases hv; exact fits_lo8 _
/-- the same text -/
def SameT (n : Nat) (f : Nat → Int32) (k : Nat) (g : Nat → Int32) : Prop := n = k ∧ ∀ j, j < n → f j = g j
theorem lo8_inj {x y : Int32} (h0 : ¬ x < 0) (h1 : ¬ 255 < x) (k0 : ¬ y < 0) (k1 : ¬ 255 < y) (h : lo8 x = lo8 y) : x = y := by
  rw [← lo8_mask h0 h1, ← lo8_mask k0 k1, h]
/-- arrays coded by one coder are equal just where the texts are -/
theorem Cod.eqv {cd : Int32} {n k : Nat} {f g : Nat → Int32} {V V' : Cell} (h : Cod cd n f V) (h' : Cod cd k g V') (hf : ∀ j, j < n → ¬ f j < 0 ∧ ¬ 65535 < f j) (hg : ∀ j, j < k → ¬ g j < 0 ∧ ¬ 65535 < g j) : EqC V V' ↔ SameT n f k g := by
  have yvv : ∀ {W : Cell} {i : Nat} {x : Int32}, W.slots[i]? = some (.int x) → yv W i = x := fun q => by unfold yv; rw [q]
  rcases h with ⟨rfl, k1, k2⟩ | ⟨rfl, k1, k2, -⟩
  · rcases h' with ⟨-, m1, m2⟩ | ⟨e, -⟩
    · constructor
      · rintro ⟨e1, e2⟩
        refine ⟨by omega, fun j hj => ?_⟩
        have q := e2 j (by omega)
        rw [yvv (k2 j hj).1, yvv (m2 j (by omega)).1] at q
        exact lo8_inj (hf j hj).1 (k2 j hj).2 (hg j (by omega)).1 (m2 j (by omega)).2 q
      · rintro ⟨rfl, e2⟩
        refine ⟨by omega, fun j hj => ?_⟩
        rw [yvv (k2 j (by omega)).1, yvv (m2 j (by omega)).1, e2 j (by omega)]
    · exact absurd e (by decide)
  · rcases h' with ⟨e, -⟩ | ⟨-, m1, m2, -⟩
    · exact absurd e (by decide)
    · constructor
      · rintro ⟨e1, e2⟩
        refine ⟨by omega, fun j hj => ?_⟩
        have q1 := e2 (2 * j) (by omega)
        have q2 := e2 (2 * j + 1) (by omega)
        rw [yvv (k2 j hj).1, yvv (m2 j (by omega)).1] at q1
        rw [yvv (k2 j hj).2, yvv (m2 j (by omega)).2] at q2
        rw [← pair_says (hf j hj).1 (hf j hj).2, ← pair_says (hg j (by omega)).1 (hg j (by omega)).2, q1, q2]
      · rintro ⟨rfl, e2⟩
        refine ⟨by omega, fun i hi => ?_⟩
        rcases Nat.mod_two_eq_zero_or_one i with e | e
        · obtain ⟨j, rfl⟩ : ∃ j, i = 2 * j := ⟨i / 2, by omega⟩
          rw [yvv (k2 j (by omega)).1, yvv (m2 j (by omega)).1, e2 j (by omega)]
        · obtain ⟨j, rfl⟩ : ∃ j, i = 2 * j + 1 := ⟨i / 2, by omega⟩
          rw [yvv (k2 j (by omega)).2, yvv (m2 j (by omega)).2, e2 j (by omega)]
/-- two codings differ: so do the texts -/
theorem Cod.dif {cd cd' : Int32} {n k : Nat} {f g : Nat → Int32} {V V' : Cell} (h : Cod cd n f V) (h' : Cod cd' k g V') (hne : ¬ cd = cd') : ¬ SameT n f k g := by
  rintro ⟨rfl, e⟩
  rcases h with ⟨rfl, -, k2⟩ | ⟨rfl, -, -, j, hj, hw⟩
  · rcases h' with ⟨rfl, -⟩ | ⟨-, -, -, j, hj, hw⟩
    · exact hne rfl
    · exact (k2 j hj).2 (by rw [e j hj]; exact hw)
  · rcases h' with ⟨-, -, m2⟩ | ⟨rfl, -⟩
    · exact (m2 j hj).2 (by rw [← e j hj]; exact hw)
    · exact hne rfl
/-- an object of exactly C is an instance of C -/
theorem cinst {p : Program} {l : Launch} {e : Env} {R : Room} {s : State} {m : MethodId} {args : Array Value} {below : List Frame} {meth : Method} {c : Code} {T : State} {locs : List Loc} {cells slots : Nat} (X : Stand p l e R s m args below meth c T locs cells slots) (hexec : p.tables.exec = Jvm.exec) {own C : String} {index : Nat} (hown : s.vm.findClass own = some m.cls) (hlink : (Cond.classLink own index C).before args s = true) {a : Addr} (hE : Exact C a T)
    {g : JFrame} (hg : g.method = m) {rest : List Value} (hstack : g.stack = .ref a :: rest) (hdg : decode c.code g.pc = .ok (.instanceof index, 3)) :
    ∃ T', Stand p l e R s m args below meth c T' locs cells slots ∧ T'.heap = T.heap ∧ ∀ target, Steps p.tables e below (T'.setTop { g with pc := g.pc + 3, stack := .int 1 :: rest }) target → Steps p.tables e below (T.setTop g) target := by
  obtain ⟨cB, h1, D, h2, h3, h4⟩ := hE
  have h1' : s.vm.findClass C = some cB := by rw [← X.warmed.alike.findClass]; exact h1
  obtain ⟨vm', X', st⟩ := X.instanceofYes hexec hown hlink h2 h4 h1' (by rw [h3]; exact Jvm.Free.SB.assignable_self _ _) hg hstack hdg
  exact ⟨_, X', rfl, st⟩
theorem cself {p : Program} {l : Launch} {e : Env} {R : Room} {s : State} {m : MethodId} {args : Array Value} {below : List Frame} {meth : Method} {c : Code} {T : State} {locs : List Loc} {cells slots : Nat} (X : Stand p l e R s m args below meth c T locs cells slots) (hexec : p.tables.exec = Jvm.exec) {own C : String} {index : Nat} (hown : s.vm.findClass own = some m.cls) (hlink : (Cond.classLink own index C).before args s = true) {a : Addr} (hE : Exact C a T)
    {g : JFrame} (hg : g.method = m) {rest : List Value} (hstack : g.stack = .ref a :: rest) (hdg : decode c.code g.pc = .ok (.checkcast index, 3)) :
    ∃ T', Stand p l e R s m args below meth c T' locs cells slots ∧ T'.heap = T.heap ∧ ∀ target, Steps p.tables e below (T'.setTop { g with pc := g.pc + 3, stack := .ref a :: rest }) target → Steps p.tables e below (T.setTop g) target := by
  obtain ⟨cB, h1, D, h2, h3, h4⟩ := hE
  have h1' : s.vm.findClass C = some cB := by rw [← X.warmed.alike.findClass]; exact h1
  obtain ⟨vm', X', st⟩ := X.checkcastYes hexec hown hlink h2 h4 h1' (by rw [h3]; exact Jvm.Free.SB.assignable_self _ _) hg hstack hdg
  exact ⟨_, X', rfl, fun t h => st t (by rw [← hstack] at h; exact h)⟩
namespace SEq
def yN : MethodName := ⟨"java/lang/String", "equals", "(Ljava/lang/Object;)Z"⟩
abbrev yB : ByteArray := jdk_42_method_66_code
theorem d0 : decode yB 0 = .ok (.aload_n 0, 1) := by decide +kernel
theorem d1 : decode yB 1 = .ok (.aload_n 1, 1) := by decide +kernel
theorem d2 : decode yB 2 = .ok (.if_acmp (.ne) 5, 3) := by decide +kernel
theorem d5 : decode yB 5 = .ok (.iconst 1, 1) := by decide +kernel
theorem d6 : decode yB 6 = .ok (.ireturn, 1) := by decide +kernel
theorem d7 : decode yB 7 = .ok (.aload_n 1, 1) := by decide +kernel
theorem d8 : decode yB 8 = .ok (.instanceof 10, 3) := by decide +kernel
theorem d11 : decode yB 11 = .ok (.ifCond (.eq) 43, 3) := by decide +kernel
theorem d14 : decode yB 14 = .ok (.aload_n 1, 1) := by decide +kernel
theorem d15 : decode yB 15 = .ok (.checkcast 10, 3) := by decide +kernel
theorem d18 : decode yB 18 = .ok (.astore_n 2, 1) := by decide +kernel
theorem d19 : decode yB 19 = .ok (.getstatic 38, 3) := by decide +kernel
theorem d22 : decode yB 22 = .ok (.ifCond (.eq) 14, 3) := by decide +kernel
theorem d25 : decode yB 25 = .ok (.aload_n 0, 1) := by decide +kernel
theorem d26 : decode yB 26 = .ok (.getfield 15, 3) := by decide +kernel
theorem d29 : decode yB 29 = .ok (.aload_n 2, 1) := by decide +kernel
theorem d30 : decode yB 30 = .ok (.getfield 15, 3) := by decide +kernel
theorem d33 : decode yB 33 = .ok (.if_icmp (.ne) 21, 3) := by decide +kernel
theorem d36 : decode yB 36 = .ok (.aload_n 0, 1) := by decide +kernel
theorem d37 : decode yB 37 = .ok (.getfield 9, 3) := by decide +kernel
theorem d40 : decode yB 40 = .ok (.aload_n 2, 1) := by decide +kernel
theorem d41 : decode yB 41 = .ok (.getfield 9, 3) := by decide +kernel
theorem d44 : decode yB 44 = .ok (.invokestatic 541, 3) := by decide +kernel
theorem d47 : decode yB 47 = .ok (.ifCond (.eq) 7, 3) := by decide +kernel
theorem d50 : decode yB 50 = .ok (.iconst 1, 1) := by decide +kernel
theorem d51 : decode yB 51 = .ok (.goto 4, 3) := by decide +kernel
theorem d54 : decode yB 54 = .ok (.iconst 0, 1) := by decide +kernel
theorem d55 : decode yB 55 = .ok (.ireturn, 1) := by decide +kernel
def site : List Cond := [.classLink "java/lang/String" 10 "java/lang/String", .fieldLink "java/lang/String" 38 "java/lang/String" "COMPACT_STRINGS" "Z", .fieldLink "java/lang/String" 15 "java/lang/String" "coder" "B", .fieldLink "java/lang/String" 9 "java/lang/String" "value" "[B", LEq.tab] ++ staticW "java/lang/String" 541 LEq.yN
def tab : Cond := tabOf yN yB 3 (some .boolean) site
def P (x t : Addr) (V : Cell) (cd : Int32) (n : Nat) (f : Nat → Int32) (y t' : Addr) (V' : Cell) (cd' : Int32) (k : Nat) (g : Nat → Int32) (z : Int32) (args : Array Value) (s : State) : Prop := args = #[.ref x, .ref y] ∧ Txt x t V cd n f s ∧ Txt y t' V' cd' k g s ∧ StaticIs s "java/lang/String" "COMPACT_STRINGS" "Z" (.int z) ∧ ¬ z = 0
/-- equals(Object) of two Strings: whether the texts are the same -/
theorem law (l : Launch) (x t : Addr) (V : Cell) (cd : Int32) (n : Nat) (f : Nat → Int32) (y t' : Addr) (V' : Cell) (cd' : Int32) (k : Nat) (g : Nat → Int32) (z : Int32) : Law l yN 2 1 1 14 yB 3 (some .boolean) site (P x t V cd n f y t' V' cd' k g z) (Says01 (SameT n f k g)) [] 0 0 := by
  refine Law.of_walk (plainFor_of_name (by decide +kernel)) (by decide +kernel) (by decide +kernel) (by decide) (fun _ _ h => by rw [h.1]; rfl) (fun _ U U' hal hh h => ⟨h.1, h.2.1.mv hal hh, h.2.2.1.mv hal hh, h.2.2.2.1.there hal hh, h.2.2.2.2⟩) (fun r U U' V V' h1 hal h2 h => Says01.mv r U U' V V' h1 hal h2 h) ?_
  intro p e s m args below meth c s₁ X0 hexec hbytes hml hret hlk hnm hown hh0 W hP
  obtain ⟨rfl, hx, hy, s1, hz⟩ := hP
  have c1 : Steps p.tables e below (s₁.setTop (entryFrame m #[.ref x, .ref y] 3)) (s₁.setTop (mkF m 2 #[.val (.ref x), .val (.ref y), .unset] [.ref y, .ref x])) := Steps.trans (entry rfl) (by
    show Steps p.tables e below (s₁.setTop (mkF m 0 #[.val (.ref x), .val (.ref y), .unset] [])) _
    refine XS.aloadN X0.here hexec rfl (hb hbytes d0) rfl rfl ?_
    refine XS.aloadN X0.here hexec rfl (hb hbytes d1) rfl rfl ?_
    exact Steps.refl _)
  by_cases hxy : x = y
  · have c2 : Steps p.tables e below (s₁.setTop (entryFrame m #[.ref x, .ref y] 3)) (s₁.setTop (mkF m 6 #[.val (.ref x), .val (.ref y), .unset] [.int 1])) := c1.trans (by
      refine acmpNo X0.here hexec rfl (hb hbytes d2) rfl rfl rfl (by simp [acmp, hxy]) ?_
      refine iconstV X0.here hexec rfl 1 (hb hbytes d5) (by decide) ?_
      exact Steps.refl _)
    subst hxy
    have ec : cd = cd' := by
      obtain ⟨D, fd, a1, a2, a3⟩ := hx.2.2.1
      obtain ⟨D', fd', b1, b2, b3⟩ := hy.2.2.1
      cases a1.symm.trans b1
      obtain ⟨q1, q2, q3, q4⟩ := a2.1
      obtain ⟨r1, r2, r3, r4⟩ := b2.1
      cases q4.symm.trans r4
      cases a3.symm.trans b3; rfl
    have et : t = t' := by
      obtain ⟨D, fd, a1, a2, a3⟩ := hx.2.1
      obtain ⟨D', fd', b1, b2, b3⟩ := hy.2.1
      cases a1.symm.trans b1
      obtain ⟨q1, q2, q3, q4⟩ := a2.1
      obtain ⟨r1, r2, r3, r4⟩ := b2.1
      cases q4.symm.trans r4
      cases a3.symm.trans b3; rfl
    subst ec et
    have ev : V = V' := by cases hx.2.2.2.1.1.symm.trans hy.2.2.2.1.1; rfl
    subst ev
    have hs : SameT n f k g := (Cod.eqv hx.2.2.2.2.1 hy.2.2.2.2.1 hx.2.2.2.2.2 hy.2.2.2.2.2).mp ⟨rfl, fun _ _ => rfl⟩
    exact ⟨s₁, some (.int 1), _, _, _, X0, rfl, rfl, rfl, (fun h => by cases h), ⟨1, rfl, hh0, Or.inl ⟨rfl, hs⟩⟩, fun fs hl => c2.trans (X0.ireturnOut hexec hret rfl (Or.inr (Or.inl rfl)) (hb hbytes d6) hl)⟩
  · have c2 : Steps p.tables e below (s₁.setTop (entryFrame m #[.ref x, .ref y] 3)) (s₁.setTop (mkF m 8 #[.val (.ref x), .val (.ref y), .unset] [.ref y])) := c1.trans (by
      refine acmpYes X0.here hexec rfl (pc0 := 2) rfl (hb hbytes d2) rfl rfl rfl (by simp [acmp, hxy]) (by decide) rfl ?_
      refine XS.aloadN X0.here hexec rfl (hb hbytes d7) rfl rfl ?_
      exact Steps.refl _)
    obtain ⟨T3, X3, q3, st3⟩ := cinst X0 hexec hown (wk W (.classLink "java/lang/String" 10 "java/lang/String")) (hy.mv X0.warmed.alike hh0).1 (g := (mkF m 8 #[.val (.ref x), .val (.ref y), .unset] [.ref y])) rfl (rest := []) rfl (hb hbytes d8)
    have hh3 := q3.trans hh0
    have c4 : Steps p.tables e below (s₁.setTop (entryFrame m #[.ref x, .ref y] 3)) (T3.setTop (mkF m 15 #[.val (.ref x), .val (.ref y), .unset] [.ref y])) := (c2.trans (st3 _ (Steps.refl _))).trans (by
      refine XS.ifNo X3.here hexec rfl (hb hbytes d11) rfl (i0_eq_f (by decide)) ?_
      refine XS.aloadN X3.here hexec rfl (hb hbytes d14) rfl rfl ?_
      exact Steps.refl _)
    obtain ⟨T5, X5, q5, st5⟩ := cself X3 hexec hown (wk W (.classLink "java/lang/String" 10 "java/lang/String")) (hy.mv X3.warmed.alike hh3).1 (g := (mkF m 15 #[.val (.ref x), .val (.ref y), .unset] [.ref y])) rfl (rest := []) rfl (hb hbytes d15)
    have hh5 := q5.trans hh3
    have c6 : Steps p.tables e below (s₁.setTop (entryFrame m #[.ref x, .ref y] 3)) (T5.setTop (mkF m 19 #[.val (.ref x), .val (.ref y), .val (.ref y)] [])) := (c4.trans (st5 _ (Steps.refl _))).trans (by
      refine XS.astoreN X5.here hexec rfl (hb hbytes d18) rfl rfl rfl ?_
      exact Steps.refl _)
    obtain ⟨T7, X7, q7, st7⟩ := X5.sget hexec hown (wk W (.fieldLink "java/lang/String" 38 "java/lang/String" "COMPACT_STRINGS" "Z")) s1 (fun _ _ h => by rw [hh5]; exact h) (g := (mkF m 19 #[.val (.ref x), .val (.ref y), .val (.ref y)] [])) rfl (hb hbytes d19)
    have hh7 := q7.trans hh5
    have c8 : Steps p.tables e below (s₁.setTop (entryFrame m #[.ref x, .ref y] 3)) (T7.setTop (mkF m 26 #[.val (.ref x), .val (.ref y), .val (.ref y)] [.ref x])) := (c6.trans (st7 _ (Steps.refl _))).trans (by
      refine XS.ifNo X7.here hexec rfl (hb hbytes d22) rfl (i0_eq_f hz) ?_
      refine XS.aloadN X7.here hexec rfl (hb hbytes d25) rfl rfl ?_
      exact Steps.refl _)
    obtain ⟨T9, X9, q9, st9⟩ := X7.hget hexec hown (wk W (.fieldLink "java/lang/String" 15 "java/lang/String" "coder" "B")) (hx.mv X7.warmed.alike hh7).2.2.1 (g := (mkF m 26 #[.val (.ref x), .val (.ref y), .val (.ref y)] [.ref x])) rfl (rest := []) rfl (hb hbytes d26)
    have hh9 := q9.trans hh7
    have c10 : Steps p.tables e below (s₁.setTop (entryFrame m #[.ref x, .ref y] 3)) (T9.setTop (mkF m 30 #[.val (.ref x), .val (.ref y), .val (.ref y)] [.ref y, .int cd])) := (c8.trans (st9 _ (Steps.refl _))).trans (by
      refine XS.aloadN X9.here hexec rfl (hb hbytes d29) rfl rfl ?_
      exact Steps.refl _)
    obtain ⟨T11, X11, q11, st11⟩ := X9.hget hexec hown (wk W (.fieldLink "java/lang/String" 15 "java/lang/String" "coder" "B")) (hy.mv X9.warmed.alike hh9).2.2.1 (g := (mkF m 30 #[.val (.ref x), .val (.ref y), .val (.ref y)] [.ref y, .int cd])) rfl (rest := [.int cd]) rfl (hb hbytes d30)
    have hh11 := q11.trans hh9
    have c12 : Steps p.tables e below (s₁.setTop (entryFrame m #[.ref x, .ref y] 3)) (T11.setTop (mkF m 33 #[.val (.ref x), .val (.ref y), .val (.ref y)] [.int cd', .int cd])) := c10.trans (st11 _ (Steps.refl _))
    by_cases hcd : cd = cd'
    · subst hcd
      have c13 : Steps p.tables e below (s₁.setTop (entryFrame m #[.ref x, .ref y] 3)) (T11.setTop (mkF m 37 #[.val (.ref x), .val (.ref y), .val (.ref y)] [.ref x])) := c12.trans (by
        refine XS.icmpNo X11.here hexec rfl (hb hbytes d33) rfl (ii_ne_f rfl) ?_
        refine XS.aloadN X11.here hexec rfl (hb hbytes d36) rfl rfl ?_
        exact Steps.refl _)
      obtain ⟨T14, X14, q14, st14⟩ := X11.hget hexec hown (wk W (.fieldLink "java/lang/String" 9 "java/lang/String" "value" "[B")) (hx.mv X11.warmed.alike hh11).2.1 (g := (mkF m 37 #[.val (.ref x), .val (.ref y), .val (.ref y)] [.ref x])) rfl (rest := []) rfl (hb hbytes d37)
      have hh14 := q14.trans hh11
      have c15 : Steps p.tables e below (s₁.setTop (entryFrame m #[.ref x, .ref y] 3)) (T14.setTop (mkF m 41 #[.val (.ref x), .val (.ref y), .val (.ref y)] [.ref y, .ref t])) := (c13.trans (st14 _ (Steps.refl _))).trans (by
        refine XS.aloadN X14.here hexec rfl (hb hbytes d40) rfl rfl ?_
        exact Steps.refl _)
      obtain ⟨T16, X16, q16, st16⟩ := X14.hget hexec hown (wk W (.fieldLink "java/lang/String" 9 "java/lang/String" "value" "[B")) (hy.mv X14.warmed.alike hh14).2.1 (g := (mkF m 41 #[.val (.ref x), .val (.ref y), .val (.ref y)] [.ref y, .ref t])) rfl (rest := [.ref t]) rfl (hb hbytes d41)
      have hh16 := q16.trans hh14
      have c17 : Steps p.tables e below (s₁.setTop (entryFrame m #[.ref x, .ref y] 3)) (T16.setTop (mkF m 44 #[.val (.ref x), .val (.ref y), .val (.ref y)] [.ref t', .ref t])) := c15.trans (st16 _ (Steps.refl _))
      obtain ⟨v18, T18, X18, E18, g18⟩ := X16.callS hexec (LEq.law l t V t' V') hown (wks W (staticW "java/lang/String" 541 LEq.yN)) (wk W LEq.tab) (W := 0) (Nat.le_of_ble_eq_true rfl) (Nat.le_of_ble_eq_true rfl) (Nat.le_refl _) (Nat.le_refl _) (g := (mkF m 44 #[.val (.ref x), .val (.ref y), .val (.ref y)] [.ref t', .ref t])) rfl (by rw [hml]; rfl) c17 (argsL := [.ref t, .ref t']) (rest := []) rfl rfl (by show 2 * 0 + 0 ≤ _; decide) (hb hbytes d44) (⟨rfl, hx.2.2.2.1.mv X16.warmed.alike hh16, hx.2.2.2.2.1.ty, hy.2.2.2.1.mv X16.warmed.alike hh16, hy.2.2.2.2.1.ty⟩)
      obtain ⟨v, rfl, q18, hv⟩ := E18
      have iff := Cod.eqv hx.2.2.2.2.1 hy.2.2.2.2.1 hx.2.2.2.2.2 hy.2.2.2.2.2
      rcases hv with ⟨rfl, he⟩ | ⟨rfl, he⟩
      · have c19 : Steps p.tables e below (s₁.setTop (entryFrame m #[.ref x, .ref y] 3)) (T18.setTop (mkF m 55 #[.val (.ref x), .val (.ref y), .val (.ref y)] [.int 1])) := Steps.trans g18 (by
          refine XS.ifNo X18.here hexec rfl (hb hbytes d47) rfl (i0_eq_f (by decide)) ?_
          refine iconstV X18.here hexec rfl 1 (hb hbytes d50) (by decide) ?_
          refine XS.goto X18.here hexec rfl (pc0 := 51) rfl (hb hbytes d51) (by decide) rfl ?_
          exact Steps.refl _)
        exact ⟨T18, some (.int 1), _, _, _, X18, rfl, rfl, rfl, (fun h => by cases h), ⟨1, rfl, q18.trans hh16, Or.inl ⟨rfl, iff.mp he⟩⟩, fun fs hl => c19.trans (X18.ireturnOut hexec hret rfl (Or.inr (Or.inl rfl)) (hb hbytes d55) hl)⟩
      · have c19 : Steps p.tables e below (s₁.setTop (entryFrame m #[.ref x, .ref y] 3)) (T18.setTop (mkF m 55 #[.val (.ref x), .val (.ref y), .val (.ref y)] [.int 0])) := Steps.trans g18 (by
          refine XS.ifYes X18.here hexec rfl (pc0 := 47) rfl (hb hbytes d47) rfl (i0_eq_t rfl) (by decide) rfl ?_
          refine iconstV X18.here hexec rfl 0 (hb hbytes d54) (by decide) ?_
          exact Steps.refl _)
        exact ⟨T18, some (.int 0), _, _, _, X18, rfl, rfl, rfl, (fun h => by cases h), ⟨0, rfl, q18.trans hh16, Or.inr ⟨rfl, fun q => he (iff.mpr q)⟩⟩, fun fs hl => c19.trans (X18.ireturnOut hexec hret rfl (Or.inr (Or.inl rfl)) (hb hbytes d55) hl)⟩
    · have c13 : Steps p.tables e below (s₁.setTop (entryFrame m #[.ref x, .ref y] 3)) (T11.setTop (mkF m 55 #[.val (.ref x), .val (.ref y), .val (.ref y)] [.int 0])) := c12.trans (by
        refine XS.icmpYes X11.here hexec rfl (pc0 := 33) rfl (hb hbytes d33) rfl (ii_ne_t hcd) (by decide) rfl ?_
        refine iconstV X11.here hexec rfl 0 (hb hbytes d54) (by decide) ?_
        exact Steps.refl _)
      exact ⟨T11, some (.int 0), _, _, _, X11, rfl, rfl, rfl, (fun h => by cases h), ⟨0, rfl, hh11, Or.inr ⟨rfl, Cod.dif hx.2.2.2.2.1 hy.2.2.2.2.1 hcd⟩⟩, fun fs hl => c13.trans (X11.ireturnOut hexec hret rfl (Or.inr (Or.inl rfl)) (hb hbytes d55) hl)⟩
theorem pays {l : Launch} {R : Room} {p : Program} {e : Env} {below : List Frame} {s : State} {sargs : Array Value} {len W : Nat} (x t : Addr) (V : Cell) (cd : Int32) (n : Nat) (f : Nat → Int32) (y t' : Addr) (V' : Cell) (cd' : Int32) (k : Nat) (g : Nat → Int32) (z : Int32) (htab : tab.before sargs s = true) (hfr : 2 ≤ R.frames) (hlo : W + 28 ≤ R.locals) :
    Back l R p e below s sargs yN len W (fun A₁ a₁ => A₁.cells + 0 ≤ R.cells ∧ A₁.slots + 0 ≤ R.slots ∧ P x t V cd n f y t' V' cd' k g z a₁ A₁.U) (fun A₁ _ v₁ B₁ => Says01 (SameT n f k g) v₁ A₁.U B₁.U ∧ B₁.locs = A₁.locs ++ [] ∧ B₁.cells = A₁.cells + 0 ∧ B₁.slots = A₁.slots + 0) :=
  (law l x t V cd n f y t' V' cd' k g z).pays htab hfr (by omega)
end SEq
end StrChars
namespace StrChars.Road
open Jvm Sem ClassFile Op Lib Jvm.Stand Jvm.Free Jvm.Free.XT
open Jvm.Lib.Cold (StaticIs)
/-- the words of String.equals(Object) -/
abbrev wordsEq : List Jvm.Cond := [.code SEq.yN SEq.yB 3 (some .boolean), .initialized ST, .classLink ST 10 ST, .fieldLink ST 38 ST "COMPACT_STRINGS" "Z", .fieldLink ST 15 ST "coder" "B", .fieldLink ST 9 ST "value" "[B", .methodLink ST 541 LEq.yN, .static LEq.yN, .code LEq.yN LEq.yB 3 (some .boolean), .initialized "java/lang/StringLatin1"]
theorem tabEq_of {a : Array Value} {s : State} (h : ∀ w ∈ wordsEq, w.before a s = true) : SEq.tab.before a s = true := by
  have hl : LEq.tab.before a s = true := unparts (wk h (.code LEq.yN LEq.yB 3 (some .boolean))) (wks h (.initialized LEq.yN.cls :: LEq.site))
  have q := consq hl h
  exact unparts (wk q (.code SEq.yN SEq.yB 3 (some .boolean))) (wks q (.initialized SEq.yN.cls :: SEq.site))
theorem movedEq {Z s : State} {a0 args : Array Value} (hZ : Z.Warmed39 s.vm) (hw : ∀ d ∈ wordsEq, d.before a0 Z = true) : ∀ d ∈ wordsEq, d.before args s = true := fun d hd => by
  have t : ∀ d ∈ wordsEq, (d.onTables && d.keepsFace) = true := by decide +kernel
  exact RoadKit.mv hZ (hw d hd) (t d hd)
/-- the road's facts of a String, as the laws ask it -/
theorem txt_of {Z U : State} {a0 : Array Value} {kI : Nat} (wi : (Jvm.Cond.instantiable ST kI).before a0 Z = true) (al : Z.vm.Alike U.vm) {x t : Addr} {kb : ClassId} {cs : List Int32} {cd N2 : Int32} {vs : List Value} (E : RoadKit.Exa Z U.heap x ST) (V : RoadKit.Fld Z U.heap x ST "value" "[B" (.ref t)) (C : RoadKit.Fld Z U.heap x ST "coder" "B" (.int cd)) (K : RoadKit.Arv Z U.heap t kb .byte N2 vs (.int 0)) (hc : CodA cs cd N2 vs) (hb : ∀ c ∈ cs, ¬ c < 0 ∧ ¬ (65535 : Int32) < c) (l2 : cs.length ≤ 4000) :
    ∃ A, Txt x t A cd cs.length (fun j => cs.getD j 0) U := by
  obtain ⟨A, K1, K2, K3, K4, K5, K6⟩ := K
  have hcod := hc.cod (by omega) K3 K5
  obtain ⟨D, fV, fC, hB, F1, F2, g1, g2, -, -⟩ := strObj wi al E V C
  exact ⟨A, ⟨_, hB.2.2.1, D, hB.1, rfl, by cases q : D.vm <;> first | rfl | exact absurd q (hB.2.1.2 _)⟩, Has.of hB F1 g1, Has.of hB F2 g2, ⟨K1.1, State.isArrayOf_alike al K1.2.1, K1.2.2, by rcases hcod with ⟨-, q, -⟩ | ⟨-, q, -⟩ <;> omega⟩, hcod, fun j hj => by
    have e : cs.getD j 0 = cs[j] := by simp [List.getD_eq_getElem?_getD, hj]
    show ¬ cs.getD j 0 < 0 ∧ ¬ 65535 < cs.getD j 0
    rw [e]; exact hb _ (List.getElem_mem _)⟩
theorem same_list (cs ds : List Int32) : SameT cs.length (fun j => cs.getD j 0) ds.length (fun j => ds.getD j 0) ↔ cs = ds := by
  constructor
  · rintro ⟨e, q⟩
    refine List.ext_getElem e fun j h1 h2 => ?_
    have := q j h1
    simpa [List.getD_eq_getElem?_getD, h1, h2] using this
  · rintro rfl
    exact ⟨rfl, fun _ _ => rfl⟩
/-- **equals(Object) OF TWO SUCH STRINGS**: 1 just where the chars are the same -/
theorem eqW {p : Program} {l : Launch} {e : Env} {R : Room} {s : State} {args : Array Value} {below : List Frame} {len W : Nat} {Z : State} {a0 : Array Value} {h : Heap} (hZ : Z.Warmed39 s.vm) (hw : ∀ d ∈ wordsEq, d.before a0 Z = true) {kI : Nat} (wi : (Jvm.Cond.instantiable ST kI).before a0 Z = true)
    {x t : Addr} {kb : ClassId} {cs : List Int32} {cd N2 : Int32} {vs : List Value} (E : RoadKit.Exa Z h x ST) (V : RoadKit.Fld Z h x ST "value" "[B" (.ref t)) (C : RoadKit.Fld Z h x ST "coder" "B" (.int cd)) (K : RoadKit.Arv Z h t kb .byte N2 vs (.int 0)) (hc : CodA cs cd N2 vs) (hb : ∀ c ∈ cs, ¬ c < 0 ∧ ¬ (65535 : Int32) < c) (l2 : cs.length ≤ 4000)
    {y t' : Addr} {kb' : ClassId} {ds : List Int32} {cd' N2' : Int32} {vs' : List Value} (E' : RoadKit.Exa Z h y ST) (V' : RoadKit.Fld Z h y ST "value" "[B" (.ref t')) (C' : RoadKit.Fld Z h y ST "coder" "B" (.int cd')) (K' : RoadKit.Arv Z h t' kb' .byte N2' vs' (.int 0)) (hc' : CodA ds cd' N2' vs') (hb' : ∀ c ∈ ds, ¬ c < 0 ∧ ¬ (65535 : Int32) < c) (l2' : ds.length ≤ 4000)
    {z : Int32} (S : RoadKit.Sta Z h ST "COMPACT_STRINGS" "Z" (.int z)) (hz : ¬ z = 0) (hfr : 2 ≤ R.frames) (hlo : W + 28 ≤ R.locals) :
    Back l R p e below s args (⟨"java/lang/String", "equals", "(Ljava/lang/Object;)Z"⟩ : MethodName) len W (fun P a => a = #[.ref x, .ref y] ∧ P.U.heap = h ∧ P.cells + 0 ≤ R.cells ∧ P.slots + 0 ≤ R.slots)
      (fun P _ v B => ∃ L, (((v = some (.int 1) ∧ cs = ds) ∨ (v = some (.int 0) ∧ ¬ cs = ds)) ∧ L = [] ∧ B.U.heap = h) ∧ B.locs = P.locs ++ L ∧ B.cells = P.cells + 0 ∧ B.slots = P.slots + 0) := by
  intro m meth c P g ig mk a X hg hsize hdg hW hn hp'
  obtain ⟨rfl, rfl, r1, r2⟩ := hp'
  have al : Z.vm.Alike P.U.vm := hZ.alike.trans X.warmed.alike
  obtain ⟨A, hx⟩ := txt_of wi al E V C K hc hb l2
  obtain ⟨A', hy⟩ := txt_of wi al E' V' C' K' hc' hb' l2'
  obtain ⟨v, B, X', ⟨⟨w, hv, hh, hq⟩, hl, hk, hs⟩, st⟩ := SEq.pays x t A cd cs.length (fun j => cs.getD j 0) y t' A' cd' ds.length (fun j => ds.getD j 0) z (tabEq_of (movedEq hZ hw)) hfr hlo m meth c P g ig mk _ X hg hsize hdg hW hn ⟨r1, r2, rfl, hx, hy, sta_is al S, hz⟩
  refine ⟨v, B, X', ⟨[], ⟨?_, rfl, hh⟩, hl, hk, hs⟩, st⟩
  rcases hq with ⟨rfl, q⟩ | ⟨rfl, q⟩
  · exact Or.inl ⟨hv, (same_list cs ds).mp q⟩
  · exact Or.inr ⟨hv, fun e => q ((same_list cs ds).mpr e)⟩
end StrChars.Road
namespace StrChars
open Jvm Sem ClassFile Op Lib Jvm.Stand Jvm.Free.XT Jvm.Free.ALB Jvm.Free.JM Jvm.Free
open Jvm.Lib.Cold (StaticIs)
namespace ChN
def yN : MethodName := ⟨"java/lang/String", "charAt", "(I)C"⟩
abbrev yB : ByteArray := jdk_42_method_56_code
theorem d0 : decode yB 0 = .ok (.aload_n 0, 1) := by decide +kernel
theorem d1 : decode yB 1 = .ok (.invokevirtual 492, 3) := by decide +kernel
theorem d4 : decode yB 4 = .ok (.ifCond (.eq) 12, 3) := by decide +kernel
theorem d7 : decode yB 7 = .ok (.aload_n 0, 1) := by decide +kernel
theorem d8 : decode yB 8 = .ok (.getfield 9, 3) := by decide +kernel
theorem d11 : decode yB 11 = .ok (.iload_n 1, 1) := by decide +kernel
theorem d12 : decode yB 12 = .ok (.invokestatic 495, 3) := by decide +kernel
theorem d15 : decode yB 15 = .ok (.ireturn, 1) := by decide +kernel
def site : List Cond := [.fieldLink "java/lang/String" 9 "java/lang/String" "value" "[B", IsL.tab, LChA.tab] ++ virtW "java/lang/String" 492 "java/lang/String" IsL.yN IsL.yN ++ staticW "java/lang/String" 495 LChA.yN
def tab : Cond := tabOf yN yB 2 (some .char) site
def P (x t : Addr) (V : Cell) (n : Nat) (f : Nat → Int32) (z : Int32) (fm : Value) (i : Nat) (args : Array Value) (s : State) : Prop := args = #[.ref x, .int (Int32.ofNat i)] ∧ Txt x t V 0 n f s ∧ i < n ∧ StaticIs s "java/lang/String" "COMPACT_STRINGS" "Z" (.int z) ∧ ¬ z = 0 ∧ StaticIs s "jdk/internal/util/Preconditions" "SIOOBE_FORMATTER" "Ljava/util/function/BiFunction;" fm ∧ fm.isRef = true
def E (f : Nat → Int32) (i : Nat) (r : Option Value) (s u : State) : Prop := XT.PureE (some (.int (f i))) r s u
/-- charAt(i) of a Latin-1 String of n chars, i < n: f i -/
theorem law (l : Launch) (x t : Addr) (V : Cell) (n : Nat) (f : Nat → Int32) (z : Int32) (fm : Value) (i : Nat) : Law l yN 2 1 3 40 yB 2 (some .char) site (P x t V n f z fm i) (E f i) [] 0 0 := by
  refine Law.of_walk (plainFor_of_name (by decide +kernel)) (by decide +kernel) (by decide +kernel) (by decide) (fun _ _ h => by rw [h.1]; rfl) (fun _ U U' hal hh h => ⟨h.1, h.2.1.mv hal hh, h.2.2.1, h.2.2.2.1.there hal hh, h.2.2.2.2.1, h.2.2.2.2.2.1.there hal hh, h.2.2.2.2.2.2⟩) (fun r U U' V V' h1 hal h2 h => XT.PureE.mv r U U' V V' h1 hal h2 h) ?_
  intro p e s m args below meth c s₁ X0 hexec hbytes hml hret hlk hnm hown hh0 W hP
  obtain ⟨rfl, hx, hi, s1, hz, s3, rf⟩ := hP
  have v31 := hx.2.2.2.1.2.2.2
  have hr := hx.2.2.2.2.2 i hi
  have hx0 := hx.mv X0.warmed.alike hh0
  have c1 : Steps p.tables e below (s₁.setTop (entryFrame m #[.ref x, .int (Int32.ofNat i)] 2)) (s₁.setTop (mkF m 1 #[.val (.ref x), .val (.int (Int32.ofNat i))] [.ref x])) := Steps.trans (entry rfl) (by
    show Steps p.tables e below (s₁.setTop (mkF m 0 #[.val (.ref x), .val (.int (Int32.ofNat i))] [])) _
    refine XS.aloadN X0.here hexec rfl (hb hbytes d0) rfl rfl ?_
    exact Steps.refl _)
  obtain ⟨v2, T2, X2, E2, g2⟩ := X0.callV hexec (IsL.law l x 0 z) hown (wks W (virtW "java/lang/String" 492 "java/lang/String" IsL.yN IsL.yN)) rfl (by decide) (wk W IsL.tab) (W := 0) (Nat.le_of_ble_eq_true rfl) (Nat.le_of_ble_eq_true rfl) (Nat.le_refl _) (Nat.le_refl _) (hx0.1.fc X0.warmed.alike) hx0.1.is (g := (mkF m 1 #[.val (.ref x), .val (.int (Int32.ofNat i))] [.ref x])) rfl (by rw [hml]; rfl) c1 (argsL := []) (rest := []) rfl rfl (by show 2 * 0 + 0 ≤ _; decide) (hb hbytes d1) (⟨rfl, hx0.2.2.1, hx.2.2.2.2.1.cd, s1.there X0.warmed.alike hh0, hz⟩)
  obtain ⟨rfl, q2⟩ := E2
  have hh2 := q2.trans hh0
  have hx2 := hx.mv X2.warmed.alike hh2
  obtain ⟨-, k1, k2⟩ | ⟨k0, -⟩ := hx.2.2.2.2.1
  · have c3 : Steps p.tables e below (s₁.setTop (entryFrame m #[.ref x, .int (Int32.ofNat i)] 2)) (T2.setTop (mkF m 8 #[.val (.ref x), .val (.int (Int32.ofNat i))] [.ref x])) := Steps.trans g2 (by
      refine XS.ifNo X2.here hexec rfl (hb hbytes d4) rfl (i0_eq_f (by decide)) ?_
      refine XS.aloadN X2.here hexec rfl (hb hbytes d7) rfl rfl ?_
      exact Steps.refl _)
    obtain ⟨T4, X4, q4, st4⟩ := X2.hget hexec hown (wk W (.fieldLink "java/lang/String" 9 "java/lang/String" "value" "[B")) hx2.2.1 (g := (mkF m 8 #[.val (.ref x), .val (.int (Int32.ofNat i))] [.ref x])) rfl (rest := []) rfl (hb hbytes d8)
    have hh4 := q4.trans hh2
    have c5 : Steps p.tables e below (s₁.setTop (entryFrame m #[.ref x, .int (Int32.ofNat i)] 2)) (T4.setTop (mkF m 12 #[.val (.ref x), .val (.int (Int32.ofNat i))] [.int (Int32.ofNat i), .ref t])) := (c3.trans (st4 _ (Steps.refl _))).trans (by
      refine XS.iloadN X4.here hexec rfl (hb hbytes d11) rfl ?_
      exact Steps.refl _)
    obtain ⟨v6, T6, X6, E6, g6⟩ := X4.callS hexec (LChA.law l t V i (lo8 (f i)) fm) hown (wks W (staticW "java/lang/String" 495 LChA.yN)) (wk W LChA.tab) (W := 0) (Nat.le_of_ble_eq_true rfl) (Nat.le_of_ble_eq_true rfl) (Nat.le_refl _) (Nat.le_refl _) (g := (mkF m 12 #[.val (.ref x), .val (.int (Int32.ofNat i))] [.int (Int32.ofNat i), .ref t])) rfl (by rw [hml]; rfl) c5 (argsL := [.ref t, .int (Int32.ofNat i)]) (rest := []) rfl rfl (by show 2 * 0 + 0 ≤ _; decide) (hb hbytes d12) (⟨rfl, hx.2.2.2.1.mv X4.warmed.alike hh4, (k2 i hi).1, s3.there X4.warmed.alike hh4, rf⟩)
    obtain ⟨rfl, q6⟩ := E6
    rw [chr8_lo8 hr.1 (k2 i hi).2] at g6
    exact ⟨T6, some (.int (f i)), _, _, _, X6, rfl, rfl, rfl, (fun h => by cases h), ⟨rfl, q6.trans hh4⟩, fun fs hl => Steps.trans g6 (X6.ireturnOut hexec hret (narrow_ch hr.1 hr.2) (Or.inr (Or.inr (Or.inr (Or.inl rfl)))) (hb hbytes d15) hl)⟩
  · exact absurd k0 (by decide)
theorem pays {l : Launch} {R : Room} {p : Program} {e : Env} {below : List Frame} {s : State} {sargs : Array Value} {len W : Nat} (x t : Addr) (V : Cell) (n : Nat) (f : Nat → Int32) (z : Int32) (fm : Value) (i : Nat) (htab : tab.before sargs s = true) (hfr : 4 ≤ R.frames) (hlo : W + 53 ≤ R.locals) :
    Back l R p e below s sargs yN len W (fun A₁ a₁ => A₁.cells + 0 ≤ R.cells ∧ A₁.slots + 0 ≤ R.slots ∧ P x t V n f z fm i a₁ A₁.U) (fun A₁ _ v₁ B₁ => E f i v₁ A₁.U B₁.U ∧ B₁.locs = A₁.locs ++ [] ∧ B₁.cells = A₁.cells + 0 ∧ B₁.slots = A₁.slots + 0) :=
  (law l x t V n f z fm i).pays htab hfr (by omega)
end ChN
end StrChars
namespace StrChars.Road
open Jvm Sem ClassFile Op Lib Jvm.Stand Jvm.Free Jvm.Free.XT
open Jvm.Lib.Cold (StaticIs)
/-- the words of String.charAt(int), the Latin-1 road alone -/
abbrev wordsChN : List Jvm.Cond := [.code ChN.yN ChN.yB 2 (some .char), .initialized ST, .fieldLink ST 9 ST "value" "[B", .fieldLink ST 38 ST "COMPACT_STRINGS" "Z", .fieldLink ST 15 ST "coder" "B", .code IsL.yN IsL.yB 1 (some .boolean), .methodLink ST 492 IsL.yN, .declares IsL.yN, .selects ST IsL.yN IsL.yN, .instanceMethod IsL.yN,
  .methodLink ST 495 LChA.yN, .static LChA.yN, .code LChA.yN LChA.yB 2 (some .char), .initialized "java/lang/StringLatin1", .methodLink "java/lang/StringLatin1" 9 JO.Str_checkIndex.yN, .static JO.Str_checkIndex.yN, .code JO.Str_checkIndex.yN JO.Str_checkIndex.yB 2 none,
  .fieldLink ST 1053 "jdk/internal/util/Preconditions" "SIOOBE_FORMATTER" "Ljava/util/function/BiFunction;", .methodLink ST 1059 JC.PreCheck.yN, .static JC.PreCheck.yN, .code JC.PreCheck.yN JC.PreCheck.yB 3 (some .int), .initialized "jdk/internal/util/Preconditions"]
theorem tabChN_of {a : Array Value} {s : State} (h : ∀ w ∈ wordsChN, w.before a s = true) : ChN.tab.before a s = true := by
  have hp : JC.PreCheck.tab.before a s = true := unparts (wk h (.code JC.PreCheck.yN JC.PreCheck.yB 3 (some .int))) (wks h (.initialized JC.PreCheck.yN.cls :: JC.PreCheck.site))
  have qk := consq hp h
  have hk : JO.Str_checkIndex.tab.before a s = true := unparts (wk qk (.code JO.Str_checkIndex.yN JO.Str_checkIndex.yB 2 none)) (wks qk (.initialized JO.Str_checkIndex.yN.cls :: JO.Str_checkIndex.site))
  have ql := consq hk h
  have hl : LChA.tab.before a s = true := unparts (wk ql (.code LChA.yN LChA.yB 2 (some .char))) (wks ql (.initialized LChA.yN.cls :: LChA.site))
  have hi : IsL.tab.before a s = true := unparts (wk h (.code IsL.yN IsL.yB 1 (some .boolean))) (wks h (.initialized IsL.yN.cls :: IsL.site))
  have q := consq hi (consq hl h)
  exact unparts (wk q (.code ChN.yN ChN.yB 2 (some .char))) (wks q (.initialized ChN.yN.cls :: ChN.site))
theorem movedChN {Z s : State} {a0 args : Array Value} (hZ : Z.Warmed39 s.vm) (hw : ∀ d ∈ wordsChN, d.before a0 Z = true) : ∀ d ∈ wordsChN, d.before args s = true := fun d hd => by
  have t : ∀ d ∈ wordsChN, (d.onTables && d.keepsFace) = true := by decide +kernel
  exact RoadKit.mv hZ (hw d hd) (t d hd)
/-- **charAt(i) OF A LATIN-1 STRING**, i < n: the char -/
theorem chN {p : Program} {l : Launch} {e : Env} {R : Room} {s : State} {args : Array Value} {below : List Frame} {len W : Nat} {Z : State} {a0 : Array Value} {h : Heap} (hZ : Z.Warmed39 s.vm) (hw : ∀ d ∈ wordsChN, d.before a0 Z = true) {kI : Nat} (wi : (Jvm.Cond.instantiable ST kI).before a0 Z = true)
    {x t : Addr} {kb : ClassId} {cs : List Int32} {N2 z : Int32} {vs : List Value} {fm : Value} {i : Nat} {j : Int32} (E : RoadKit.Exa Z h x ST) (V : RoadKit.Fld Z h x ST "value" "[B" (.ref t)) (C : RoadKit.Fld Z h x ST "coder" "B" (.int 0)) (K : RoadKit.Arv Z h t kb .byte N2 vs (.int 0)) (hc : CodA cs 0 N2 vs) (hb : ∀ c ∈ cs, ¬ c < 0 ∧ ¬ (65535 : Int32) < c)
    (S : RoadKit.Sta Z h ST "COMPACT_STRINGS" "Z" (.int z)) (hz : ¬ z = 0) (F : RoadKit.Sta Z h "jdk/internal/util/Preconditions" "SIOOBE_FORMATTER" "Ljava/util/function/BiFunction;" fm) (rf : fm.isRef = true) (l2 : cs.length ≤ 4000) (hi : i < cs.length) (hj : j = Int32.ofNat i) (hfr : 4 ≤ R.frames) (hlo : W + 53 ≤ R.locals) :
    Back l R p e below s args (⟨"java/lang/String", "charAt", "(I)C"⟩ : MethodName) len W (fun P a => a = #[.ref x, .int j] ∧ P.U.heap = h ∧ P.cells + 0 ≤ R.cells ∧ P.slots + 0 ≤ R.slots)
      (fun P _ v B => ∃ L, (v = some (.int (cs.getD i 0)) ∧ L = [] ∧ B.U.heap = h) ∧ B.locs = P.locs ++ L ∧ B.cells = P.cells + 0 ∧ B.slots = P.slots + 0) := by
  subst hj
  intro m meth c P g ig mk a X hg hsize hdg hW hn hp'
  obtain ⟨rfl, rfl, r1, r2⟩ := hp'
  have al : Z.vm.Alike P.U.vm := hZ.alike.trans X.warmed.alike
  obtain ⟨A, hx⟩ := txt_of wi al E V C K hc hb l2
  obtain ⟨v, B, X', ⟨⟨hv, hh⟩, hl, hk, hs⟩, st⟩ := ChN.pays x t A cs.length (fun j => cs.getD j 0) z fm i (tabChN_of (movedChN hZ hw)) hfr hlo m meth c P g ig mk _ X hg hsize hdg hW hn ⟨r1, r2, rfl, hx, hi, sta_is al S, hz, sta_is al F, rf⟩
  exact ⟨v, B, X', ⟨[], ⟨hv, rfl, hh⟩, hl, hk, hs⟩, st⟩
/-- what backV says of its String, as the contracts of this text ask it: cs's low bytes, coder 0 -/
theorem codOf {cs : List Int32} {n : Nat} (hn : cs.length = n) (hb : ∀ c ∈ cs, ¬ 255 < c) : CodA cs 0 (Int32.ofNat n) ((cs.map lo8).map Value.int) := Or.inl ⟨rfl, by rw [hn], by simp [List.map_map, Function.comp_def], hb⟩
end StrChars.Road
end Jvm.Pilot.@@N@@
namespace Jvm.Pilot.@@N@@
open Jvm Jvm.ClassFile Sem Op Lib Jvm.Free Jvm.Stand Jvm.LawKit Jvm.RoadKit Bundle Jvm.Pilot.@@N@@.Jvm.D
/-- what is reached from S1 is reached from S0 -/
abbrev own_K (tb : Tables) (e : Env) (below : List Frame) (S0 S1 : State) : Prop := ∀ t, Steps tb e below S1 t → Steps tb e below S0 t
section Own
variable {p : Program} {l : Launch} {e : Env} {R : Room} {s : State} {m : MethodId} {args : Array Value} {below : List Frame} {meth : Method} {c : Code} {T : State} {locs : List Loc} {cells slots : Nat} {Z : State} {h h' : Heap}
theorem own_lremM {g : JFrame} {target : State} (X : Stand p l e R s m args below meth c T locs cells slots) (hx : p.tables.exec = Jvm.exec) (hg : g.method = m) {x y : Int64} {rest : List Value} (hd : decode c.code g.pc = .ok (.lrem, 1)) (hs : g.stack = .long y :: .long x :: rest) (hy : y ≠ 0)
    (hr : Steps p.tables e below (T.setTop { g with pc := g.pc + 1, stack := .long (x % y) :: rest }) target) : Steps p.tables e below (T.setTop g) target := by
  have q : x - x / y * y = x % y := lrem_mod x y
  exact XS.lrem X.here hx hg hd hs hy (by rw [q]; exact hr)
/-- a static field rides over a write to cells that hold no statics -/
theorem own_staKeep {C n d : String} {w : Value} {ws : List Addr} (F : Sta Z h C n d w) (K : Keep h h' ws) (q : ∀ x ∈ ws, ∀ cell : Cell, h[x]? = some cell → cell.vm.isStatics = false) : Sta Z h' C n d w := by
  obtain ⟨cf, i, k, f, st, cell, h1, h2, h3, h4, h5, h6, h7⟩ := F
  refine ⟨cf, i, k, f, st, cell, h1, h2, h3, h4, K.2.1 st cell h5 (fun hm => ?_), h6, h7⟩
  rw [q st hm cell h5] at h6; cases h6
theorem own_exaNo {a : Addr} {C : String} (E : Exa Z h a C) : ∀ cell : Cell, h[a]? = some cell → cell.vm.isStatics = false := fun cell q => by
  obtain ⟨c1, _, h1, -, -, h4, -⟩ := E
  cases h1.symm.trans q; exact h4
theorem own_selPriv {y : MethodName} {n : Nat} (wi : (Jvm.Cond.instantiable y.cls n).before args s = true) (wp : s.PrivateAt y) (hinst : (Jvm.Cond.instanceMethod y).before args s = true) (hy : y.cls ≠ "java/lang/invoke/MethodHandle" ∧ y.cls ≠ "java/lang/invoke/VarHandle") : (Jvm.Cond.selects y.cls y y).before args s = true := by
  obtain ⟨c, k, h1, h2, -, h4, -⟩ := Cond.instantiable_spec wi
  exact selects_self_of_private h1 h2 (Bool.or_eq_false_iff.mp h4).1 wp hinst hy
/-- a static that holds an object exactly of a class, out of the case's words -/
theorem own_stat {C n d D : String} (hx : (Jvm.Cond.exactly (.static C n d) D).value args Z none Z [] = some true) (w1 : (Jvm.Cond.initialized C).before args Z = true) (w2 : (Jvm.Cond.laysStatic C n d).before args Z = true) :
    ∃ a, Sta Z Z.heap C n d (.ref a) ∧ Exa Z Z.heap a D ∧ (Term.static C n d).eval args Z none [] Z = some (.ref a) := by
  obtain ⟨a, ev⟩ := exa_v hx
  exact ⟨a, Sta.start ev (Or.inr ⟨w1, w2⟩), Exa.start ev hx, ev⟩
theorem own_fldI {t : Term} {a : Addr} {O n d : String} {k : Int32} (ev : t.eval args Z none [] Z = some (.ref a)) (hq : (Jvm.Cond.eq (.field t O n d) (.int k)).value args Z none Z [] = some true) : Fld Z Z.heap a O n d (.int k) := by
  have q := Cond.eq_int (Cond.before_iff.mpr hq) rfl
  rw [fld_at ev] at q
  exact Fld.start q
theorem own_fldJ {t : Term} {a : Addr} {O n d : String} {k : Int64} (ev : t.eval args Z none [] Z = some (.ref a)) (hq : (Jvm.Cond.eq (.field t O n d) (.long k)).value args Z none Z [] = some true) : Fld Z Z.heap a O n d (.long k) := by
  have q := Cond.eq_long (Cond.before_iff.mpr hq) rfl
  rw [fld_at ev] at q
  exact Fld.start q
end Own
theorem own_wS {a0 : Array Value} {Z : State} (hw : ∀ d ∈ tables_1, d.before a0 Z = true) : ∀ a ∈ Bundle.stringAtoms, a.before a0 Z = true := by
  intro a ha
  simp only [Bundle.stringAtoms, Bundle.sN, List.mem_cons, List.not_mem_nil, or_false] at ha
  rcases ha with rfl | rfl | rfl | rfl | rfl | rfl | rfl
  · exact (hw _ (List.mem_of_getElem? (i := 14) rfl))
  · exact (hw _ (List.mem_of_getElem? (i := 13) rfl))
  · exact (hw _ (List.mem_of_getElem? (i := 30) rfl))
  · exact (hw _ (List.mem_of_getElem? (i := 40) rfl))
  · exact (hw _ (List.mem_of_getElem? (i := 38) rfl))
  · exact (hw _ (List.mem_of_getElem? (i := 46) rfl))
  · exact (hw _ (List.mem_of_getElem? (i := 47) rfl))
theorem own_wV {a0 : Array Value} {Z : State} (hw : ∀ d ∈ tables_1, d.before a0 Z = true) : ∀ d ∈ StrChars.Road.words, d.before a0 Z = true := fun d hd => hw d ((by decide +kernel : ∀ d ∈ StrChars.Road.words, d ∈ tables_1) d hd)
theorem own_wL {a0 : Array Value} {Z : State} (hw : ∀ d ∈ tables_1, d.before a0 Z = true) : ∀ d ∈ StrChars.Road.wordsLen, d.before a0 Z = true := fun d hd => hw d ((by decide +kernel : ∀ d ∈ StrChars.Road.wordsLen, d ∈ tables_1) d hd)
theorem own_wC {a0 : Array Value} {Z : State} (hw : ∀ d ∈ tables_1, d.before a0 Z = true) : ∀ d ∈ StrChars.Road.wordsChN, d.before a0 Z = true := fun d hd => hw d ((by decide +kernel : ∀ d ∈ StrChars.Road.wordsChN, d ∈ tables_1) d hd)
theorem own_wE {a0 : Array Value} {Z : State} (hw : ∀ d ∈ tables_1, d.before a0 Z = true) : ∀ d ∈ StrChars.Road.wordsEq, d.before a0 Z = true := fun d hd => hw d ((by decide +kernel : ∀ d ∈ StrChars.Road.wordsEq, d ∈ tables_1) d hd)
theorem own_lit7 : (∀ c ∈ "value".toList, c.toNat < 256) := by decide +kernel
theorem own_lit61 : (∀ c ∈ "._:/-".toList, c.toNat < 256) ∧ "._:/-".toList.map (fun c => Value.int (Jvm.Lit.byteI c.toNat.toUInt16)) = ([.int 46, .int 95, .int 58, .int 47, .int 45] : List Value) := ⟨by decide +kernel, by first | rfl | decide +kernel⟩
theorem own_EW {a0 : Array Value} {Z : State} (hw : ∀ d ∈ tables_1, d.before a0 Z = true) : EW Z a0 consts_1 := EW.cons (hw _ (List.mem_of_getElem? (i := 45) rfl)) own_lit7 (EW.cons (hw _ (List.mem_of_getElem? (i := 124) rfl)) own_lit61.1 EW.nil)
def own_Str (Z : State) (h : Heap) (x t : Addr) (kb : ClassId) (cs : List Int32) : Prop := Exa Z h x "java/lang/String" ∧ Fld Z h x "java/lang/String" "value" "[B" (.ref t) ∧ Fld Z h x "java/lang/String" "coder" "B" (.int 0) ∧ Arv Z h t kb .byte (Int32.ofNat cs.length) ((cs.map (fun c => c.toInt8.toInt32)).map Value.int) (.int 0)
theorem own_Str.ext {Z : State} {h h' : Heap} {x t : Addr} {kb : ClassId} {cs : List Int32} (F : own_Str Z h x t kb cs) (E : Ext h h') : own_Str Z h' x t kb cs := ⟨F.1.ext E, F.2.1.ext E, F.2.2.1.ext E, F.2.2.2.ext E⟩
theorem own_Str.keep {Z : State} {h h' : Heap} {x t : Addr} {kb : ClassId} {cs : List Int32} {ws : List Addr} (F : own_Str Z h x t kb cs) (K : Keep h h' ws) (q : x ∉ ws) (r : t ∉ ws) : own_Str Z h' x t kb cs := ⟨F.1.keep K, F.2.1.keep K q, F.2.2.1.keep K q, F.2.2.2.keep K r⟩
theorem own_Str.ne {Z : State} {h : Heap} {x t a : Addr} {kb : ClassId} {cs : List Int32} {a0 : Array Value} (F : own_Str Z h x t kb cs) (E : Exa Z h a "com/example/ferrolho/ferrolho/lock/LockName") (w : (Jvm.Cond.instantiable "com/example/ferrolho/ferrolho/lock/LockName" 1).before a0 Z = true) : x ≠ a ∧ t ≠ a := ⟨Exa.ne F.1 E (by decide), fun q => Exa.neArv E F.2.2.2 w q.symm⟩
theorem own_extRefl (h : Heap) : Ext h h := ⟨Nat.le_refl _, fun _ _ q => q⟩
theorem own_extOfKeep {h h' : Heap} (K : Keep h h' []) : Ext h h' := ⟨K.1, fun a c q => K.2.1 a c q nin0⟩
theorem own_i0 : (0 : Int32).toInt = 0 := by decide
theorem own_i255 : (255 : Int32).toInt = 255 := by decide
def own_ok (c : Int32) : Prop := (65 ≤ c.toInt ∧ c.toInt ≤ 90) ∨ (97 ≤ c.toInt ∧ c.toInt ≤ 122) ∨ (48 ≤ c.toInt ∧ c.toInt ≤ 57) ∨ c.toInt = 46 ∨ c.toInt = 95 ∨ c.toInt = 58 ∨ c.toInt = 47 ∨ c.toInt = 45
def own_p5 (c : Int32) : Prop := c = 46 ∨ c = 95 ∨ c = 58 ∨ c = 47 ∨ c = 45
theorem own_p5_of {c : Int32} (h : c.toInt = 46 ∨ c.toInt = 95 ∨ c.toInt = 58 ∨ c.toInt = 47 ∨ c.toInt = 45) : own_p5 c := by
  unfold own_p5
  rw [← Int32.toInt_inj, ← Int32.toInt_inj, ← Int32.toInt_inj, ← Int32.toInt_inj, ← Int32.toInt_inj]
  exact h
theorem own_bd {c : Int32} (h : own_ok c) : ¬ c < 0 ∧ ¬ (255 : Int32) < c := by
  unfold own_ok at h
  rw [Int32.lt_iff_toInt_lt, Int32.lt_iff_toInt_lt, own_i0, own_i255]
  omega
theorem own_up {cs : List Int32} (h : ∀ c ∈ cs, ¬ c < 0 ∧ ¬ (255 : Int32) < c) : ∀ c ∈ cs, ¬ c < 0 ∧ ¬ (65535 : Int32) < c := fun c hc => by
  have q := h c hc
  have t : (65535 : Int32).toInt = 65535 := by decide
  refine ⟨q.1, ?_⟩
  have q2 := q.2
  rw [Int32.lt_iff_toInt_lt, own_i255] at q2
  rw [Int32.lt_iff_toInt_lt, t]
  omega
theorem own_nar {c : Int32} (h : ¬ c < 0 ∧ ¬ (255 : Int32) < c) : nar .char c = c := by
  obtain ⟨h1, h2⟩ := h
  rw [Int32.lt_iff_toInt_lt, own_i0] at h1
  rw [Int32.lt_iff_toInt_lt, own_i255] at h2
  have q := c_i2c c
  rw [← Int32.toInt_inj]
  show (c.toUInt32.toUInt16.toUInt32.toInt32).toInt = c.toInt
  omega
theorem own_narc (y : Int32) : narrow .char (.int (y.toUInt32.toUInt16.toUInt32.toInt32)) = .int (y.toUInt32.toUInt16.toUInt32.toInt32) := by
  first | (simp only [narrow, UInt32.toUInt32_toInt32, UInt16.toUInt16_toUInt32]; done) | (simp [narrow]; done)
theorem own_i2c {y : Int32} (h0 : 0 ≤ y.toInt) (h1 : y.toInt < 256) : y.toUInt32.toUInt16.toUInt32.toInt32 = y := by
  have q := c_i2c y
  rw [← Int32.toInt_inj]
  omega
def own_alk (k : Int32) : Int32 := if k < (26 : Int32) then ((65 : Int32) + k) else if k < (52 : Int32) then ((97 : Int32) + (k - (26 : Int32))) else if k < (62 : Int32) then ((48 : Int32) + (k - (52 : Int32))) else if k = (62 : Int32) then (46 : Int32) else if k = (63 : Int32) then (95 : Int32) else if k = (64 : Int32) then (58 : Int32) else if k = (65 : Int32) then (47 : Int32) else (45 : Int32)
theorem own_rng (q : Int32) : 0 ≤ ((q &&& (2147483647 : Int32)) % (67 : Int32)).toInt ∧ ((q &&& (2147483647 : Int32)) % (67 : Int32)).toInt < 67 := by
  have h1 := c_mask q 2147483647 31 (by decide) (by decide)
  have h2 := c_irem (q &&& 2147483647) 67 67 (by decide)
  omega
theorem own_a1 {k : Int32} (h0 : 0 ≤ k.toInt) (c1 : k < (26 : Int32)) : ((65 : Int32) + k).toInt = 65 + k.toInt := by
  have a := c_iadd 65 k
  have t : (65 : Int32).toInt = 65 := by decide
  have t2 : (26 : Int32).toInt = 26 := by decide
  have r := rng32 ((65 : Int32) + k)
  rw [Int32.lt_iff_toInt_lt] at c1
  omega
theorem own_a2 {k : Int32} (h0 : 0 ≤ k.toInt) (c1 : ¬ k < (26 : Int32)) (c2 : k < (52 : Int32)) : ((97 : Int32) + (k - (26 : Int32))).toInt = 71 + k.toInt := by
  have a := c_isub k 26
  have b := c_iadd 97 (k - 26)
  have t : (97 : Int32).toInt = 97 := by decide
  have t2 : (26 : Int32).toInt = 26 := by decide
  have t3 : (52 : Int32).toInt = 52 := by decide
  have r := rng32 (k - (26 : Int32))
  have r2 := rng32 ((97 : Int32) + (k - (26 : Int32)))
  rw [Int32.lt_iff_toInt_lt] at c1 c2
  omega
theorem own_a3 {k : Int32} (h0 : 0 ≤ k.toInt) (c1 : ¬ k < (52 : Int32)) (c2 : k < (62 : Int32)) : ((48 : Int32) + (k - (52 : Int32))).toInt = k.toInt - 4 := by
  have a := c_isub k 52
  have b := c_iadd 48 (k - 52)
  have t : (48 : Int32).toInt = 48 := by decide
  have t2 : (62 : Int32).toInt = 62 := by decide
  have t3 : (52 : Int32).toInt = 52 := by decide
  have r := rng32 (k - (52 : Int32))
  have r2 := rng32 ((48 : Int32) + (k - (52 : Int32)))
  rw [Int32.lt_iff_toInt_lt] at c1 c2
  omega
theorem own_alk_ok {k : Int32} (h0 : 0 ≤ k.toInt) (h1 : k.toInt < 67) : own_ok (own_alk k) := by
  unfold own_alk
  have t1 : (26 : Int32).toInt = 26 := by decide
  have t2 : (52 : Int32).toInt = 52 := by decide
  have t3 : (62 : Int32).toInt = 62 := by decide
  by_cases c1 : k < (26 : Int32)
  · rw [if_pos c1]
    have a := own_a1 h0 c1
    rw [Int32.lt_iff_toInt_lt] at c1
    unfold own_ok
    omega
  · rw [if_neg c1]
    by_cases c2 : k < (52 : Int32)
    · rw [if_pos c2]
      have a := own_a2 h0 c1 c2
      rw [Int32.lt_iff_toInt_lt] at c1 c2
      unfold own_ok
      omega
    · rw [if_neg c2]
      by_cases c3 : k < (62 : Int32)
      · rw [if_pos c3]
        have a := own_a3 h0 c2 c3
        rw [Int32.lt_iff_toInt_lt] at c2 c3
        unfold own_ok
        omega
      · rw [if_neg c3]
        unfold own_ok
        split
        · decide
        · split
          · decide
          · split
            · decide
            · split
              · decide
              · decide
def own_pos (c : Int32) : Int32 := if c = 46 then 0 else if c = 95 then 1 else if c = 58 then 2 else if c = 47 then 3 else 4
theorem own_pos_ge (c : Int32) : ¬ own_pos c < (0 : Int32) := by
  unfold own_pos
  split
  · decide
  · split
    · decide
    · split
      · decide
      · split
        · decide
        · decide
def own_cs (c0 c1 len : Int32) : List Int32 := if len = (1 : Int32) then [c0] else [c0, c1]
def own_eq (cs ds : List Int32) : Int32 := if cs = ds then 1 else 0
theorem own_eqv {v : Option Value} {cs ds : List Int32} (h : (v = some (.int 1) ∧ cs = ds) ∨ (v = some (.int 0) ∧ ¬ cs = ds)) : v = some (.int (own_eq cs ds)) := by
  unfold own_eq
  rcases h with ⟨rfl, q⟩ | ⟨rfl, q⟩
  · rw [if_pos q]
  · rw [if_neg q]
theorem own_eq1 {cs ds : List Int32} (h : cs = ds) : own_eq cs ds = 1 := if_pos h
theorem own_eq0 {cs ds : List Int32} (h : ¬ cs = ds) : own_eq cs ds = 0 := if_neg h
theorem own_eqn {cs ds : List Int32} (h : ¬ own_eq cs ds = (0 : Int32)) : own_eq cs ds = 1 := by
  by_cases q : cs = ds
  · exact own_eq1 q
  · exact absurd (own_eq0 q) h
theorem own_eqc (cs ds : List Int32) : own_eq cs ds = own_eq ds cs := by
  by_cases q : cs = ds
  · rw [q]
  · rw [own_eq0 q, own_eq0 (fun e => q e.symm)]
theorem own_csIff {a0 a1 b0 b1 la lb : Int32} (ha : la = (1 : Int32) ∨ la = (2 : Int32)) (hbc : lb = (1 : Int32) ∨ lb = (2 : Int32)) : own_cs a0 a1 la = own_cs b0 b1 lb ↔ (la = lb ∧ a0 = b0 ∧ (la = (1 : Int32) ∨ a1 = b1)) := by
  unfold own_cs
  rcases ha with rfl | rfl <;> rcases hbc with rfl | rfl <;> simp
theorem own_len (y : Int32) : ((1 : Int32) + (y &&& (1 : Int32))) = (1 : Int32) ∨ ((1 : Int32) + (y &&& (1 : Int32))) = (2 : Int32) := by
  have h := c_mask y 1 1 (by decide) (by decide)
  have h2 := c_iadd 1 (y &&& 1)
  have r := rng32 ((1 : Int32) + (y &&& 1))
  have t1 : (1 : Int32).toInt = 1 := by decide
  have t2 : (2 : Int32).toInt = 2 := by decide
  rw [← Int32.toInt_inj, ← Int32.toInt_inj]
  omega
theorem own_csok {c0 c1 len : Int32} (h0 : own_ok c0) (h1 : own_ok c1) (hl : len = (1 : Int32) ∨ len = (2 : Int32)) : (∃ d0, own_cs c0 c1 len = [d0] ∧ own_ok d0) ∨ (∃ d0 d1, own_cs c0 c1 len = [d0, d1] ∧ own_ok d0 ∧ own_ok d1) := by
  unfold own_cs
  rcases hl with rfl | rfl
  · exact Or.inl ⟨c0, by simp, h0⟩
  · exact Or.inr ⟨c0, c1, by simp, h0, h1⟩
theorem own_csb {cs : List Int32} (h : (∃ d0, cs = [d0] ∧ own_ok d0) ∨ (∃ d0 d1, cs = [d0, d1] ∧ own_ok d0 ∧ own_ok d1)) : (∀ c ∈ cs, ¬ c < 0 ∧ ¬ (255 : Int32) < c) ∧ cs.length ≤ 4000 := by
  rcases h with ⟨d0, rfl, k0⟩ | ⟨d0, d1, rfl, k0, k1⟩
  · refine ⟨fun c hc => ?_, by simp⟩
    simp only [List.mem_cons, List.not_mem_nil, or_false] at hc
    subst hc; exact own_bd k0
  · refine ⟨fun c hc => ?_, by simp⟩
    simp only [List.mem_cons, List.not_mem_nil, or_false] at hc
    rcases hc with rfl | rfl
    · exact own_bd k0
    · exact own_bd k1
theorem own_notLN {a0 : Array Value} {Z : State} (hw : ∀ d ∈ tables_1, d.before a0 Z = true) : ∃ c t, Z.vm.findClass "java/lang/String" = some c ∧ Z.vm.findClass "com/example/ferrolho/ferrolho/lock/LockName" = some t ∧ Z.vm.assignable c t = false := by
  have w1 := (hw _ (List.mem_of_getElem? (i := 122) rfl))
  have w2 := (hw _ (List.mem_of_getElem? (i := 123) rfl))
  obtain ⟨t, kt, g1, g2, g3, g4, -⟩ := Cond.instantiable_spec (hw _ (List.mem_of_getElem? (i := 6) rfl))
  have g5 : kt.isInterface = false := (Bool.or_eq_false_iff.mp g4).1
  obtain ⟨co, ko, o1, o2, o3, -, -⟩ := Cond.noSuperclass_spec w2
  have no : ∀ fuel, Z.vm.isSubclassAux fuel co t = false := fun fuel => by
    have ne := ids_ne o1 g1 (by decide)
    cases fuel with
    | zero => rfl
    | succ f => simp [Vm.isSubclassAux, ne, o2, o3]
  obtain ⟨c, h0⟩ := found_sup w1
  obtain ⟨p, k, kp, h1, h2, h3, h4, h5, -, h7⟩ := Cond.superclass_spec h0 w1
  cases o1.symm.trans h1
  have ne := ids_ne h0 g1 (by decide)
  have ns : ∀ fuel, Z.vm.isSubclassAux fuel c t = false := fun fuel => by
    cases fuel with
    | zero => rfl
    | succ f => simp [Vm.isSubclassAux, ne, h2, h4, no]
  refine ⟨c, t, h0, g1, ?_⟩
  show Z.vm.assignableAux (255 + 1) c t = false
  simp [Vm.assignableAux, ne, h2, g2, h5, g3, g5, Vm.isSubclass, ns]
theorem own_cdP : StrChars.Road.CodA ([46, 95, 58, 47, 45] : List Int32) 0 (5 : Int32) ([.int 46, .int 95, .int 58, .int 47, .int 45] : List Value) := StrChars.Road.codOf (cs := ([46, 95, 58, 47, 45] : List Int32)) (n := 5) rfl (by decide)
theorem own_pb : ∀ c ∈ ([46, 95, 58, 47, 45] : List Int32), ¬ c < 0 ∧ ¬ (65535 : Int32) < c := by decide
theorem own_pn0 : plainName "java/lang/String" = true := by first | (simp [plainName, overriddenIn]; done) | decide +kernel
theorem own_d16_0 : decode jdk_42_method_154_code 0 = .ok (.getstatic 38, 3) := by decide +kernel
theorem own_d16_3 : decode jdk_42_method_154_code 3 = .ok (.ifCond .eq 14, 3) := by decide +kernel
theorem own_d16_6 : decode jdk_42_method_154_code 6 = .ok (.aload_n 0, 1) := by decide +kernel
theorem own_d16_7 : decode jdk_42_method_154_code 7 = .ok (.getfield 15, 3) := by decide +kernel
theorem own_d16_10 : decode jdk_42_method_154_code 10 = .ok (.ifCond .ne 7, 3) := by decide +kernel
theorem own_d16_13 : decode jdk_42_method_154_code 13 = .ok (.iconst 1, 1) := by decide +kernel
theorem own_d16_14 : decode jdk_42_method_154_code 14 = .ok (.goto 4, 3) := by decide +kernel
theorem own_d16_18 : decode jdk_42_method_154_code 18 = .ok (.ireturn, 1) := by decide +kernel
theorem own_ef1 (m : MethodId) (y0 : Addr) : entryFrame m #[(.ref y0)] 1 = mkF m 0 #[.val (.ref y0)] [] := by first | (simp [entryFrame, mkF, argsToLocals, Value.category]; done) | rfl
def Q1 (Z : State) (x1 : Addr) (G1 : Int32) (h0 : Heap) (n0 : Nat) (v : Option Value) (h : Heap) (L : List Loc) : Prop := v = some (.int 1) ∧ Fr n0 L ∧ h = h0
set_option maxRecDepth 65536 in
set_option maxHeartbeats 40000000 in
theorem rm1 (l : Launch) (Z : State) (a0 : Array Value) (hw : ∀ d ∈ tables_1, d.before a0 Z = true) (ws : List Jvm.Cond) (x1 : Addr) (G1 : Int32) (h0 : Heap) (n0 : Nat) (O2 : Sta Z Z.heap "java/lang/String" "COMPACT_STRINGS" "Z" (.int G1)) (P5 : ¬ G1 = (0 : Int32)) (XO : Old Z n0 h0) (LC : Fld Z h0 x1 "java/lang/String" "coder" "B" (.int 0)) :
    MetFree l (⟨"java/lang/String", "isLatin1", "()Z"⟩ : MethodName) (head1 (Jvm.Cond.code (⟨"java/lang/String", "isLatin1", "()Z"⟩ : MethodName) jdk_42_method_154_code 1 (some .boolean) :: ws) ({ frames := 0, cells := 0, slots := 0, locals := 0 } : Room)) (fun aaz U => aaz = #[(.ref x1)] ∧ Z.Warmed39 U.vm ∧ U.heap = h0) (fun _ _ _ _ _ => True) (fun _ U o U' => ∃ v L, o = .returned v ∧ Q1 Z x1 G1 h0 n0 v U'.heap L ∧ FrameEnd U o U' L ({ frames := 0, cells := 0, slots := 0, locals := 0 } : Room).cells ({ frames := 0, cells := 0, slots := 0, locals := 0 } : Room).slots) := by
  refine MetFree.of_bodySF (plainFor_of_name own_pn0) hisR ?_
  intro p e s m args below meth cde s₁ Bd hml0 hP hK
  obtain ⟨rfl, hZ, hh⟩ := hP
  have hx := Bd.exec
  have hby := Bd.bytes
  have hml : cde.maxLocals = 1 := hml0
  have hown : s.vm.findClass "java/lang/String" = some m.cls := findClass_of_methodNamed Bd.named
  have hnm := (name_of_methodNamed Bd.named Bd.method).1
  have X0 : Stand p l e ({ frames := 0, cells := 0, slots := 0, locals := 0 } : Room) s m #[(.ref x1)] below meth cde s₁ [] 0 0 := Stand.of_body Bd
  have e0 : s₁.heap = h0 := by rw [← hh, Bd.state]; rfl
  have N0 := Fr.nil n0
  have k : own_K p.tables e below (s₁.setTop (entryFrame m #[(.ref x1)] 1)) (s₁.setTop (mkF m 0 #[.val (.ref x1)] [])) := fun t h => castTop (own_ef1 m x1) h
  obtain ⟨T1, X1, e1, st1⟩ := getS2 X0 hx hZ hown (host := "") (Or.inl (hw _ (List.mem_of_getElem? (i := 25) rfl))) Via.refl e0 (O2.ext XO.2) (g := (mkF m 0 #[.val (.ref x1)] [])) rfl (hb hby own_d16_0)
  replace k : own_K p.tables e below (s₁.setTop (entryFrame m #[(.ref x1)] 1)) (T1.setTop (mkF m 3 #[.val (.ref x1)] [(.int G1)])) := fun t h => k t (st1 _ h)
  replace k : own_K p.tables e below (s₁.setTop (entryFrame m #[(.ref x1)] 1)) (T1.setTop (mkF m 6 #[.val (.ref x1)] [])) := fun t h => k t (XS.ifNo X1.here hx rfl (hb hby own_d16_3) rfl ((if0 _ _).trans (feq P5).1) h)
  replace k : own_K p.tables e below (s₁.setTop (entryFrame m #[(.ref x1)] 1)) (T1.setTop (mkF m 7 #[.val (.ref x1)] [(.ref x1)])) := fun t h => k t (XS.aloadN X1.here hx rfl (hb hby own_d16_6) rfl rfl h)
  obtain ⟨T2, X2, e2, st2⟩ := getF X1 hx hZ hown (host := "") (Or.inl (hw _ (List.mem_of_getElem? (i := 37) rfl))) Via.refl e1 LC (g := (mkF m 7 #[.val (.ref x1)] [(.ref x1)])) rfl rfl (hb hby own_d16_7)
  replace k : own_K p.tables e below (s₁.setTop (entryFrame m #[(.ref x1)] 1)) (T2.setTop (mkF m 10 #[.val (.ref x1)] [(.int (0 : Int32))])) := fun t h => k t (st2 _ h)
  replace k : own_K p.tables e below (s₁.setTop (entryFrame m #[(.ref x1)] 1)) (T2.setTop (mkF m 13 #[.val (.ref x1)] [])) := fun t h => k t (XS.ifNo X2.here hx rfl (hb hby own_d16_10) rfl ((if0 _ _).trans (teq rfl).2) h)
  replace k : own_K p.tables e below (s₁.setTop (entryFrame m #[(.ref x1)] 1)) (T2.setTop (mkF m 14 #[.val (.ref x1)] [(.int (1 : Int32))])) := fun t h => k t (XS.iconst X2.here hx rfl (hb hby own_d16_13) h)
  replace k : own_K p.tables e below (s₁.setTop (entryFrame m #[(.ref x1)] 1)) (T2.setTop (mkF m 18 #[.val (.ref x1)] [(.int (1 : Int32))])) := fun t h => k t (XS.goto X2.here hx rfl (pc0 := 14) (pc' := 18) rfl (hb hby own_d16_14) (by decide) (by decide) h)
  obtain ⟨fs, hr, hrun, hended, hW, hsame⟩ := X2.leave (v := some (.int (1 : Int32))) (fun h => by rw [Bd.returns] at h; cases h) Bd.notSynchronized
  refine ⟨_, _, k _ (retOut X2 hx Bd.returns rfl (Or.inl ⟨rfl, by simp, _, rfl⟩) (hb hby own_d16_18) hr), hrun, hended, _, _, rfl, ?_, ⟨_, rfl⟩, hW, hsame.mono (by decide) (by decide)⟩
  show Q1 Z x1 G1 h0 n0 _ T2.heap _
  rw [e2]
  exact ⟨rfl, N0, rfl⟩
theorem own_pn1 : plainName "java/lang/StringLatin1" = true := by first | (simp [plainName, overriddenIn]; done) | decide +kernel
theorem own_d29_0 : decode jdk_43_method_4_code 0 = .ok (.iload_n 0, 1) := by decide +kernel
theorem own_d29_1 : decode jdk_43_method_4_code 1 = .ok (.ifCond .lt 14, 3) := by decide +kernel
theorem own_d29_4 : decode jdk_43_method_4_code 4 = .ok (.iload_n 0, 1) := by decide +kernel
theorem own_d29_5 : decode jdk_43_method_4_code 5 = .ok (.sipush 255, 3) := by decide +kernel
theorem own_d29_8 : decode jdk_43_method_4_code 8 = .ok (.if_icmp .gt 7, 3) := by decide +kernel
theorem own_d29_11 : decode jdk_43_method_4_code 11 = .ok (.iconst 1, 1) := by decide +kernel
theorem own_d29_12 : decode jdk_43_method_4_code 12 = .ok (.goto 4, 3) := by decide +kernel
theorem own_d29_16 : decode jdk_43_method_4_code 16 = .ok (.ireturn, 1) := by decide +kernel
theorem own_ef2 (m : MethodId) (y0 : Int32) : entryFrame m #[(.int y0)] 1 = mkF m 0 #[.val (.int y0)] [] := by first | (simp [entryFrame, mkF, argsToLocals, Value.category]; done) | rfl
def Q2 (Z : State) (c : Int32) (h0 : Heap) (n0 : Nat) (v : Option Value) (h : Heap) (L : List Loc) : Prop := v = some (.int 1) ∧ Fr n0 L ∧ h = h0
set_option maxRecDepth 65536 in
set_option maxHeartbeats 40000000 in
theorem rm2 (l : Launch) (Z : State) (a0 : Array Value) (hw : ∀ d ∈ tables_1, d.before a0 Z = true) (ws : List Jvm.Cond) (c : Int32) (h0 : Heap) (n0 : Nat) (c0 : ¬ c < (0 : Int32)) (c1 : ¬ (255 : Int32) < c) :
    MetFree l (⟨"java/lang/StringLatin1", "canEncode", "(I)Z"⟩ : MethodName) (head1 (Jvm.Cond.code (⟨"java/lang/StringLatin1", "canEncode", "(I)Z"⟩ : MethodName) jdk_43_method_4_code 1 (some .boolean) :: ws) ({ frames := 0, cells := 0, slots := 0, locals := 0 } : Room)) (fun aaz U => aaz = #[(.int c)] ∧ Z.Warmed39 U.vm ∧ U.heap = h0) (fun _ _ _ _ _ => True) (fun _ U o U' => ∃ v L, o = .returned v ∧ Q2 Z c h0 n0 v U'.heap L ∧ FrameEnd U o U' L ({ frames := 0, cells := 0, slots := 0, locals := 0 } : Room).cells ({ frames := 0, cells := 0, slots := 0, locals := 0 } : Room).slots) := by
  refine MetFree.of_bodySF (plainFor_of_name own_pn1) hisR ?_
  intro p e s m args below meth cde s₁ Bd hml0 hP hK
  obtain ⟨rfl, hZ, hh⟩ := hP
  have hx := Bd.exec
  have hby := Bd.bytes
  have hml : cde.maxLocals = 1 := hml0
  have hown : s.vm.findClass "java/lang/StringLatin1" = some m.cls := findClass_of_methodNamed Bd.named
  have hnm := (name_of_methodNamed Bd.named Bd.method).1
  have X0 : Stand p l e ({ frames := 0, cells := 0, slots := 0, locals := 0 } : Room) s m #[(.int c)] below meth cde s₁ [] 0 0 := Stand.of_body Bd
  have e0 : s₁.heap = h0 := by rw [← hh, Bd.state]; rfl
  have N0 := Fr.nil n0
  have k : own_K p.tables e below (s₁.setTop (entryFrame m #[(.int c)] 1)) (s₁.setTop (mkF m 0 #[.val (.int c)] [])) := fun t h => castTop (own_ef2 m c) h
  replace k : own_K p.tables e below (s₁.setTop (entryFrame m #[(.int c)] 1)) (s₁.setTop (mkF m 1 #[.val (.int c)] [(.int c)])) := fun t h => k t (XS.iloadN X0.here hx rfl (hb hby own_d29_0) rfl h)
  replace k : own_K p.tables e below (s₁.setTop (entryFrame m #[(.int c)] 1)) (s₁.setTop (mkF m 4 #[.val (.int c)] [])) := fun t h => k t (XS.ifNo X0.here hx rfl (hb hby own_d29_1) rfl ((if0 _ _).trans (flt c0).1) h)
  replace k : own_K p.tables e below (s₁.setTop (entryFrame m #[(.int c)] 1)) (s₁.setTop (mkF m 5 #[.val (.int c)] [(.int c)])) := fun t h => k t (XS.iloadN X0.here hx rfl (hb hby own_d29_4) rfl h)
  replace k : own_K p.tables e below (s₁.setTop (entryFrame m #[(.int c)] 1)) (s₁.setTop (mkF m 8 #[.val (.int c)] [(.int (255 : Int32)), (.int c)])) := fun t h => k t (XS.sipush X0.here hx rfl (hb hby own_d29_5) h)
  replace k : own_K p.tables e below (s₁.setTop (entryFrame m #[(.int c)] 1)) (s₁.setTop (mkF m 11 #[.val (.int c)] [])) := fun t h => k t (XS.icmpNo X0.here hx rfl (hb hby own_d29_8) rfl (flt c1).2.2.1 h)
  replace k : own_K p.tables e below (s₁.setTop (entryFrame m #[(.int c)] 1)) (s₁.setTop (mkF m 12 #[.val (.int c)] [(.int (1 : Int32))])) := fun t h => k t (XS.iconst X0.here hx rfl (hb hby own_d29_11) h)
  replace k : own_K p.tables e below (s₁.setTop (entryFrame m #[(.int c)] 1)) (s₁.setTop (mkF m 16 #[.val (.int c)] [(.int (1 : Int32))])) := fun t h => k t (XS.goto X0.here hx rfl (pc0 := 12) (pc' := 16) rfl (hb hby own_d29_12) (by decide) (by decide) h)
  obtain ⟨fs, hr, hrun, hended, hW, hsame⟩ := X0.leave (v := some (.int (1 : Int32))) (fun h => by rw [Bd.returns] at h; cases h) Bd.notSynchronized
  refine ⟨_, _, k _ (retOut X0 hx Bd.returns rfl (Or.inl ⟨rfl, by simp, _, rfl⟩) (hb hby own_d29_16) hr), hrun, hended, _, _, rfl, ?_, ⟨_, rfl⟩, hW, hsame.mono (by decide) (by decide)⟩
  show Q2 Z c h0 n0 _ s₁.heap _
  rw [e0]
  exact ⟨rfl, N0, rfl⟩
theorem own_d30_0 : decode jdk_29_method_65_code 0 = .ok (.iload_n 0, 1) := by decide +kernel
theorem own_d30_1 : decode jdk_29_method_65_code 1 = .ok (.iload_n 1, 1) := by decide +kernel
theorem own_d30_2 : decode jdk_29_method_65_code 2 = .ok (.if_icmp .lt 7, 3) := by decide +kernel
theorem own_d30_5 : decode jdk_29_method_65_code 5 = .ok (.iload_n 0, 1) := by decide +kernel
theorem own_d30_6 : decode jdk_29_method_65_code 6 = .ok (.goto 4, 3) := by decide +kernel
theorem own_d30_10 : decode jdk_29_method_65_code 10 = .ok (.ireturn, 1) := by decide +kernel
theorem own_ef3 (m : MethodId) (y0 : Int32) (y1 : Int32) : entryFrame m #[(.int y0), (.int y1)] 2 = mkF m 0 #[.val (.int y0), .val (.int y1)] [] := by first | (simp [entryFrame, mkF, argsToLocals, Value.category]; done) | rfl
def Q3 (Z : State) (h0 : Heap) (n0 : Nat) (v : Option Value) (h : Heap) (L : List Loc) : Prop := v = some (.int (0 : Int32)) ∧ Fr n0 L ∧ h = h0
set_option maxRecDepth 65536 in
set_option maxHeartbeats 40000000 in
theorem rm3 (l : Launch) (Z : State) (a0 : Array Value) (hw : ∀ d ∈ tables_1, d.before a0 Z = true) (ws : List Jvm.Cond) (h0 : Heap) (n0 : Nat) :
    MetFree l (⟨"java/lang/Math", "max", "(II)I"⟩ : MethodName) (head1 (Jvm.Cond.code (⟨"java/lang/Math", "max", "(II)I"⟩ : MethodName) jdk_29_method_65_code 2 (some .int) :: ws) ({ frames := 0, cells := 0, slots := 0, locals := 0 } : Room)) (fun aaz U => aaz = #[(.int (0 : Int32)), (.int (0 : Int32))] ∧ Z.Warmed39 U.vm ∧ U.heap = h0) (fun _ _ _ _ _ => True) (fun _ U o U' => ∃ v L, o = .returned v ∧ Q3 Z  h0 n0 v U'.heap L ∧ FrameEnd U o U' L ({ frames := 0, cells := 0, slots := 0, locals := 0 } : Room).cells ({ frames := 0, cells := 0, slots := 0, locals := 0 } : Room).slots) := by
  refine MetFree.of_bodySF (Jvm.Free.JP.mathPlain rfl (by decide +kernel)) hisR ?_
  intro p e s m args below meth cde s₁ Bd hml0 hP hK
  obtain ⟨rfl, hZ, hh⟩ := hP
  have hx := Bd.exec
  have hby := Bd.bytes
  have hml : cde.maxLocals = 2 := hml0
  have hown : s.vm.findClass "java/lang/Math" = some m.cls := findClass_of_methodNamed Bd.named
  have hnm := (name_of_methodNamed Bd.named Bd.method).1
  have X0 : Stand p l e ({ frames := 0, cells := 0, slots := 0, locals := 0 } : Room) s m #[(.int (0 : Int32)), (.int (0 : Int32))] below meth cde s₁ [] 0 0 := Stand.of_body Bd
  have e0 : s₁.heap = h0 := by rw [← hh, Bd.state]; rfl
  have N0 := Fr.nil n0
  have k : own_K p.tables e below (s₁.setTop (entryFrame m #[(.int (0 : Int32)), (.int (0 : Int32))] 2)) (s₁.setTop (mkF m 0 #[.val (.int (0 : Int32)), .val (.int (0 : Int32))] [])) := fun t h => castTop (own_ef3 m (0 : Int32) (0 : Int32)) h
  replace k : own_K p.tables e below (s₁.setTop (entryFrame m #[(.int (0 : Int32)), (.int (0 : Int32))] 2)) (s₁.setTop (mkF m 1 #[.val (.int (0 : Int32)), .val (.int (0 : Int32))] [(.int (0 : Int32))])) := fun t h => k t (XS.iloadN X0.here hx rfl (hb hby own_d30_0) rfl h)
  replace k : own_K p.tables e below (s₁.setTop (entryFrame m #[(.int (0 : Int32)), (.int (0 : Int32))] 2)) (s₁.setTop (mkF m 2 #[.val (.int (0 : Int32)), .val (.int (0 : Int32))] [(.int (0 : Int32)), (.int (0 : Int32))])) := fun t h => k t (XS.iloadN X0.here hx rfl (hb hby own_d30_1) rfl h)
  replace k : own_K p.tables e below (s₁.setTop (entryFrame m #[(.int (0 : Int32)), (.int (0 : Int32))] 2)) (s₁.setTop (mkF m 5 #[.val (.int (0 : Int32)), .val (.int (0 : Int32))] [])) := fun t h => k t (XS.icmpNo X0.here hx rfl (hb hby own_d30_2) rfl (flt (by decide : ¬ ((0 : Int32) < (0 : Int32)))).1 h)
  replace k : own_K p.tables e below (s₁.setTop (entryFrame m #[(.int (0 : Int32)), (.int (0 : Int32))] 2)) (s₁.setTop (mkF m 6 #[.val (.int (0 : Int32)), .val (.int (0 : Int32))] [(.int (0 : Int32))])) := fun t h => k t (XS.iloadN X0.here hx rfl (hb hby own_d30_5) rfl h)
  replace k : own_K p.tables e below (s₁.setTop (entryFrame m #[(.int (0 : Int32)), (.int (0 : Int32))] 2)) (s₁.setTop (mkF m 10 #[.val (.int (0 : Int32)), .val (.int (0 : Int32))] [(.int (0 : Int32))])) := fun t h => k t (XS.goto X0.here hx rfl (pc0 := 6) (pc' := 10) rfl (hb hby own_d30_6) (by decide) (by decide) h)
  obtain ⟨fs, hr, hrun, hended, hW, hsame⟩ := X0.leave (v := some (.int (0 : Int32))) (fun h => by rw [Bd.returns] at h; cases h) Bd.notSynchronized
  refine ⟨_, _, k _ (retOut X0 hx Bd.returns rfl (Or.inl ⟨rfl, by simp, _, rfl⟩) (hb hby own_d30_10) hr), hrun, hended, _, _, rfl, ?_, ⟨_, rfl⟩, hW, hsame.mono (by decide) (by decide)⟩
  show Q3 Z  h0 n0 _ s₁.heap _
  rw [e0]
  exact ⟨rfl, N0, rfl⟩
theorem own_d31_0 : decode jdk_29_method_69_code 0 = .ok (.iload_n 0, 1) := by decide +kernel
theorem own_d31_1 : decode jdk_29_method_69_code 1 = .ok (.iload_n 1, 1) := by decide +kernel
theorem own_d31_2 : decode jdk_29_method_69_code 2 = .ok (.if_icmp .gt 7, 3) := by decide +kernel
theorem own_d31_5 : decode jdk_29_method_69_code 5 = .ok (.iload_n 0, 1) := by decide +kernel
theorem own_d31_6 : decode jdk_29_method_69_code 6 = .ok (.goto 4, 3) := by decide +kernel
theorem own_d31_10 : decode jdk_29_method_69_code 10 = .ok (.ireturn, 1) := by decide +kernel
theorem own_ef4 (m : MethodId) (y0 : Int32) (y1 : Int32) : entryFrame m #[(.int y0), (.int y1)] 2 = mkF m 0 #[.val (.int y0), .val (.int y1)] [] := by first | (simp [entryFrame, mkF, argsToLocals, Value.category]; done) | rfl
def Q4 (Z : State) (h0 : Heap) (n0 : Nat) (v : Option Value) (h : Heap) (L : List Loc) : Prop := v = some (.int (5 : Int32)) ∧ Fr n0 L ∧ h = h0
set_option maxRecDepth 65536 in
set_option maxHeartbeats 40000000 in
theorem rm4 (l : Launch) (Z : State) (a0 : Array Value) (hw : ∀ d ∈ tables_1, d.before a0 Z = true) (ws : List Jvm.Cond) (h0 : Heap) (n0 : Nat) :
    MetFree l (⟨"java/lang/Math", "min", "(II)I"⟩ : MethodName) (head1 (Jvm.Cond.code (⟨"java/lang/Math", "min", "(II)I"⟩ : MethodName) jdk_29_method_69_code 2 (some .int) :: ws) ({ frames := 0, cells := 0, slots := 0, locals := 0 } : Room)) (fun aaz U => aaz = #[(.int (5 : Int32)), (.int (5 : Int32))] ∧ Z.Warmed39 U.vm ∧ U.heap = h0) (fun _ _ _ _ _ => True) (fun _ U o U' => ∃ v L, o = .returned v ∧ Q4 Z  h0 n0 v U'.heap L ∧ FrameEnd U o U' L ({ frames := 0, cells := 0, slots := 0, locals := 0 } : Room).cells ({ frames := 0, cells := 0, slots := 0, locals := 0 } : Room).slots) := by
  refine MetFree.of_bodySF (Jvm.Free.JP.mathPlain rfl (by decide +kernel)) hisR ?_
  intro p e s m args below meth cde s₁ Bd hml0 hP hK
  obtain ⟨rfl, hZ, hh⟩ := hP
  have hx := Bd.exec
  have hby := Bd.bytes
  have hml : cde.maxLocals = 2 := hml0
  have hown : s.vm.findClass "java/lang/Math" = some m.cls := findClass_of_methodNamed Bd.named
  have hnm := (name_of_methodNamed Bd.named Bd.method).1
  have X0 : Stand p l e ({ frames := 0, cells := 0, slots := 0, locals := 0 } : Room) s m #[(.int (5 : Int32)), (.int (5 : Int32))] below meth cde s₁ [] 0 0 := Stand.of_body Bd
  have e0 : s₁.heap = h0 := by rw [← hh, Bd.state]; rfl
  have N0 := Fr.nil n0
  have k : own_K p.tables e below (s₁.setTop (entryFrame m #[(.int (5 : Int32)), (.int (5 : Int32))] 2)) (s₁.setTop (mkF m 0 #[.val (.int (5 : Int32)), .val (.int (5 : Int32))] [])) := fun t h => castTop (own_ef4 m (5 : Int32) (5 : Int32)) h
  replace k : own_K p.tables e below (s₁.setTop (entryFrame m #[(.int (5 : Int32)), (.int (5 : Int32))] 2)) (s₁.setTop (mkF m 1 #[.val (.int (5 : Int32)), .val (.int (5 : Int32))] [(.int (5 : Int32))])) := fun t h => k t (XS.iloadN X0.here hx rfl (hb hby own_d31_0) rfl h)
  replace k : own_K p.tables e below (s₁.setTop (entryFrame m #[(.int (5 : Int32)), (.int (5 : Int32))] 2)) (s₁.setTop (mkF m 2 #[.val (.int (5 : Int32)), .val (.int (5 : Int32))] [(.int (5 : Int32)), (.int (5 : Int32))])) := fun t h => k t (XS.iloadN X0.here hx rfl (hb hby own_d31_1) rfl h)
  replace k : own_K p.tables e below (s₁.setTop (entryFrame m #[(.int (5 : Int32)), (.int (5 : Int32))] 2)) (s₁.setTop (mkF m 5 #[.val (.int (5 : Int32)), .val (.int (5 : Int32))] [])) := fun t h => k t (XS.icmpNo X0.here hx rfl (hb hby own_d31_2) rfl (flt (by decide : ¬ ((5 : Int32) < (5 : Int32)))).2.2.1 h)
  replace k : own_K p.tables e below (s₁.setTop (entryFrame m #[(.int (5 : Int32)), (.int (5 : Int32))] 2)) (s₁.setTop (mkF m 6 #[.val (.int (5 : Int32)), .val (.int (5 : Int32))] [(.int (5 : Int32))])) := fun t h => k t (XS.iloadN X0.here hx rfl (hb hby own_d31_5) rfl h)
  replace k : own_K p.tables e below (s₁.setTop (entryFrame m #[(.int (5 : Int32)), (.int (5 : Int32))] 2)) (s₁.setTop (mkF m 10 #[.val (.int (5 : Int32)), .val (.int (5 : Int32))] [(.int (5 : Int32))])) := fun t h => k t (XS.goto X0.here hx rfl (pc0 := 6) (pc' := 10) rfl (hb hby own_d31_6) (by decide) (by decide) h)
  obtain ⟨fs, hr, hrun, hended, hW, hsame⟩ := X0.leave (v := some (.int (5 : Int32))) (fun h => by rw [Bd.returns] at h; cases h) Bd.notSynchronized
  refine ⟨_, _, k _ (retOut X0 hx Bd.returns rfl (Or.inl ⟨rfl, by simp, _, rfl⟩) (hb hby own_d31_10) hr), hrun, hended, _, _, rfl, ?_, ⟨_, rfl⟩, hW, hsame.mono (by decide) (by decide)⟩
  show Q4 Z  h0 n0 _ s₁.heap _
  rw [e0]
  exact ⟨rfl, N0, rfl⟩
theorem own_d32_0 : decode jdk_43_method_23_code 0 = .ok (.iload_n 1, 1) := by decide +kernel
theorem own_d32_1 : decode jdk_43_method_23_code 1 = .ok (.i2b, 1) := by decide +kernel
theorem own_d32_2 : decode jdk_43_method_23_code 2 = .ok (.istore 4, 2) := by decide +kernel
theorem own_d32_4 : decode jdk_43_method_23_code 4 = .ok (.iload_n 2, 1) := by decide +kernel
theorem own_d32_5 : decode jdk_43_method_23_code 5 = .ok (.istore 5, 2) := by decide +kernel
theorem own_d32_7 : decode jdk_43_method_23_code 7 = .ok (.iload 5, 2) := by decide +kernel
theorem own_d32_9 : decode jdk_43_method_23_code 9 = .ok (.iload_n 3, 1) := by decide +kernel
theorem own_d32_10 : decode jdk_43_method_23_code 10 = .ok (.if_icmp .ge 21, 3) := by decide +kernel
theorem own_d32_13 : decode jdk_43_method_23_code 13 = .ok (.aload_n 0, 1) := by decide +kernel
theorem own_d32_14 : decode jdk_43_method_23_code 14 = .ok (.iload 5, 2) := by decide +kernel
theorem own_d32_16 : decode jdk_43_method_23_code 16 = .ok (.baload, 1) := by decide +kernel
theorem own_d32_17 : decode jdk_43_method_23_code 17 = .ok (.iload 4, 2) := by decide +kernel
theorem own_d32_19 : decode jdk_43_method_23_code 19 = .ok (.if_icmp .ne 6, 3) := by decide +kernel
theorem own_d32_22 : decode jdk_43_method_23_code 22 = .ok (.iload 5, 2) := by decide +kernel
theorem own_d32_24 : decode jdk_43_method_23_code 24 = .ok (.ireturn, 1) := by decide +kernel
theorem own_d32_25 : decode jdk_43_method_23_code 25 = .ok (.iinc 5 1, 3) := by decide +kernel
theorem own_d32_28 : decode jdk_43_method_23_code 28 = .ok (.goto (-21), 3) := by decide +kernel
theorem own_ef5 (m : MethodId) (y0 : Addr) (y1 : Int32) (y2 : Int32) (y3 : Int32) : entryFrame m #[(.ref y0), (.int y1), (.int y2), (.int y3)] 6 = mkF m 0 #[.val (.ref y0), .val (.int y1), .val (.int y2), .val (.int y3), .unset, .unset] [] := by first | (simp [entryFrame, mkF, argsToLocals, Value.category]; done) | rfl
def Q5 (Z : State) (t1 : Addr) (kb1 : ClassId) (c : Int32) (h0 : Heap) (n0 : Nat) (v : Option Value) (h : Heap) (L : List Loc) : Prop := v = some (.int (own_pos c)) ∧ Fr n0 L ∧ h = h0
set_option maxRecDepth 65536 in
set_option maxHeartbeats 40000000 in
theorem rm5 (l : Launch) (Z : State) (a0 : Array Value) (hw : ∀ d ∈ tables_1, d.before a0 Z = true) (ws : List Jvm.Cond) (t1 : Addr) (kb1 : ClassId) (c : Int32) (h0 : Heap) (n0 : Nat) (LK : Arv Z h0 t1 kb1 .byte (5 : Int32) ([.int 46, .int 95, .int 58, .int 47, .int 45] : List Value) (.int 0)) (hp : own_p5 c) :
    MetFree l (⟨"java/lang/StringLatin1", "indexOfChar", "([BIII)I"⟩ : MethodName) (head1 (Jvm.Cond.code (⟨"java/lang/StringLatin1", "indexOfChar", "([BIII)I"⟩ : MethodName) jdk_43_method_23_code 6 (some .int) :: ws) ({ frames := 0, cells := 0, slots := 0, locals := 0 } : Room)) (fun aaz U => aaz = #[(.ref t1), (.int c), (.int (0 : Int32)), (.int (5 : Int32))] ∧ Z.Warmed39 U.vm ∧ U.heap = h0) (fun _ _ _ _ _ => True) (fun _ U o U' => ∃ v L, o = .returned v ∧ Q5 Z t1 kb1 c h0 n0 v U'.heap L ∧ FrameEnd U o U' L ({ frames := 0, cells := 0, slots := 0, locals := 0 } : Room).cells ({ frames := 0, cells := 0, slots := 0, locals := 0 } : Room).slots) := by
  refine MetFree.of_bodySF (plainFor_of_name own_pn1) hisR ?_
  intro p e s m args below meth cde s₁ Bd hml0 hP hK
  obtain ⟨rfl, hZ, hh⟩ := hP
  have hx := Bd.exec
  have hby := Bd.bytes
  have hml : cde.maxLocals = 6 := hml0
  have hown : s.vm.findClass "java/lang/StringLatin1" = some m.cls := findClass_of_methodNamed Bd.named
  have hnm := (name_of_methodNamed Bd.named Bd.method).1
  have X0 : Stand p l e ({ frames := 0, cells := 0, slots := 0, locals := 0 } : Room) s m #[(.ref t1), (.int c), (.int (0 : Int32)), (.int (5 : Int32))] below meth cde s₁ [] 0 0 := Stand.of_body Bd
  have e0 : s₁.heap = h0 := by rw [← hh, Bd.state]; rfl
  have N0 := Fr.nil n0
  have k : own_K p.tables e below (s₁.setTop (entryFrame m #[(.ref t1), (.int c), (.int (0 : Int32)), (.int (5 : Int32))] 6)) (s₁.setTop (mkF m 0 #[.val (.ref t1), .val (.int c), .val (.int (0 : Int32)), .val (.int (5 : Int32)), .unset, .unset] [])) := fun t h => castTop (own_ef5 m t1 c (0 : Int32) (5 : Int32)) h
  rcases hp with rfl | rfl | rfl | rfl | rfl
  · replace k : own_K p.tables e below (s₁.setTop (entryFrame m #[(.ref t1), (.int (46 : Int32)), (.int (0 : Int32)), (.int (5 : Int32))] 6)) (s₁.setTop (mkF m 1 #[.val (.ref t1), .val (.int (46 : Int32)), .val (.int (0 : Int32)), .val (.int (5 : Int32)), .unset, .unset] [(.int (46 : Int32))])) := fun t h => k t (XS.iloadN X0.here hx rfl (hb hby own_d32_0) rfl h)
    replace k : own_K p.tables e below (s₁.setTop (entryFrame m #[(.ref t1), (.int (46 : Int32)), (.int (0 : Int32)), (.int (5 : Int32))] 6)) (s₁.setTop (mkF m 2 #[.val (.ref t1), .val (.int (46 : Int32)), .val (.int (0 : Int32)), .val (.int (5 : Int32)), .unset, .unset] [(.int ((46 : Int32).toInt8.toInt32))])) := fun t h => k t (XS.i2b X0.here hx rfl (hb hby own_d32_1) rfl h)
    replace k : own_K p.tables e below (s₁.setTop (entryFrame m #[(.ref t1), (.int (46 : Int32)), (.int (0 : Int32)), (.int (5 : Int32))] 6)) (s₁.setTop (mkF m 4 #[.val (.ref t1), .val (.int (46 : Int32)), .val (.int (0 : Int32)), .val (.int (5 : Int32)), .val (.int ((46 : Int32).toInt8.toInt32)), .unset] [])) := fun t h => k t (XS.istore X0.here hx rfl (hb hby own_d32_2) rfl (l' := #[.val (.ref t1), .val (.int (46 : Int32)), .val (.int (0 : Int32)), .val (.int (5 : Int32)), .val (.int ((46 : Int32).toInt8.toInt32)), .unset]) rfl h)
    replace k : own_K p.tables e below (s₁.setTop (entryFrame m #[(.ref t1), (.int (46 : Int32)), (.int (0 : Int32)), (.int (5 : Int32))] 6)) (s₁.setTop (mkF m 5 #[.val (.ref t1), .val (.int (46 : Int32)), .val (.int (0 : Int32)), .val (.int (5 : Int32)), .val (.int ((46 : Int32).toInt8.toInt32)), .unset] [(.int (0 : Int32))])) := fun t h => k t (XS.iloadN X0.here hx rfl (hb hby own_d32_4) rfl h)
    replace k : own_K p.tables e below (s₁.setTop (entryFrame m #[(.ref t1), (.int (46 : Int32)), (.int (0 : Int32)), (.int (5 : Int32))] 6)) (s₁.setTop (mkF m 7 #[.val (.ref t1), .val (.int (46 : Int32)), .val (.int (0 : Int32)), .val (.int (5 : Int32)), .val (.int ((46 : Int32).toInt8.toInt32)), .val (.int (0 : Int32))] [])) := fun t h => k t (XS.istore X0.here hx rfl (hb hby own_d32_5) rfl (l' := #[.val (.ref t1), .val (.int (46 : Int32)), .val (.int (0 : Int32)), .val (.int (5 : Int32)), .val (.int ((46 : Int32).toInt8.toInt32)), .val (.int (0 : Int32))]) rfl h)
    replace k : own_K p.tables e below (s₁.setTop (entryFrame m #[(.ref t1), (.int (46 : Int32)), (.int (0 : Int32)), (.int (5 : Int32))] 6)) (s₁.setTop (mkF m 9 #[.val (.ref t1), .val (.int (46 : Int32)), .val (.int (0 : Int32)), .val (.int (5 : Int32)), .val (.int ((46 : Int32).toInt8.toInt32)), .val (.int (0 : Int32))] [(.int (0 : Int32))])) := fun t h => k t (XS.iload X0.here hx rfl (hb hby own_d32_7) rfl h)
    replace k : own_K p.tables e below (s₁.setTop (entryFrame m #[(.ref t1), (.int (46 : Int32)), (.int (0 : Int32)), (.int (5 : Int32))] 6)) (s₁.setTop (mkF m 10 #[.val (.ref t1), .val (.int (46 : Int32)), .val (.int (0 : Int32)), .val (.int (5 : Int32)), .val (.int ((46 : Int32).toInt8.toInt32)), .val (.int (0 : Int32))] [(.int (5 : Int32)), (.int (0 : Int32))])) := fun t h => k t (XS.iloadN X0.here hx rfl (hb hby own_d32_9) rfl h)
    replace k : own_K p.tables e below (s₁.setTop (entryFrame m #[(.ref t1), (.int (46 : Int32)), (.int (0 : Int32)), (.int (5 : Int32))] 6)) (s₁.setTop (mkF m 13 #[.val (.ref t1), .val (.int (46 : Int32)), .val (.int (0 : Int32)), .val (.int (5 : Int32)), .val (.int ((46 : Int32).toInt8.toInt32)), .val (.int (0 : Int32))] [])) := fun t h => k t (XS.icmpNo X0.here hx rfl (hb hby own_d32_10) rfl (tlt (by decide : (0 : Int32) < (5 : Int32))).2.1 h)
    replace k : own_K p.tables e below (s₁.setTop (entryFrame m #[(.ref t1), (.int (46 : Int32)), (.int (0 : Int32)), (.int (5 : Int32))] 6)) (s₁.setTop (mkF m 14 #[.val (.ref t1), .val (.int (46 : Int32)), .val (.int (0 : Int32)), .val (.int (5 : Int32)), .val (.int ((46 : Int32).toInt8.toInt32)), .val (.int (0 : Int32))] [(.ref t1)])) := fun t h => k t (XS.aloadN X0.here hx rfl (hb hby own_d32_13) rfl rfl h)
    replace k : own_K p.tables e below (s₁.setTop (entryFrame m #[(.ref t1), (.int (46 : Int32)), (.int (0 : Int32)), (.int (5 : Int32))] 6)) (s₁.setTop (mkF m 16 #[.val (.ref t1), .val (.int (46 : Int32)), .val (.int (0 : Int32)), .val (.int (5 : Int32)), .val (.int ((46 : Int32).toInt8.toInt32)), .val (.int (0 : Int32))] [(.int (0 : Int32)), (.ref t1)])) := fun t h => k t (XS.iload X0.here hx rfl (hb hby own_d32_14) rfl h)
    obtain ⟨cl1, Ar1, qa1, Sa1, Na1, Ha1, Ga1⟩ := id LK
    have hin1 : ¬ ((0 : Int32) < 0 ∨ cl1.slots.size ≤ ((0 : Int32)).toNatClampNeg) := inb_of Sa1 ⟨by decide, by decide⟩
    have hat1 := Has.at (v := (.int (46 : Int32))) Ha1 hin1 rfl
    replace k : own_K p.tables e below (s₁.setTop (entryFrame m #[(.ref t1), (.int (46 : Int32)), (.int (0 : Int32)), (.int (5 : Int32))] 6)) (s₁.setTop (mkF m 17 #[.val (.ref t1), .val (.int (46 : Int32)), .val (.int (0 : Int32)), .val (.int (5 : Int32)), .val (.int ((46 : Int32).toInt8.toInt32)), .val (.int (0 : Int32))] [(.int (46 : Int32))])) := fun t h => k t (X0.baloadBytes hx (j := (0 : Int32)) (v := (.int (46 : Int32))) (by rw [e0]; exact Ar1.1) (State.isArrayOf_alike hZ.alike Ar1.2.1) Ar1.2.2 hin1 hat1 (g := (mkF m 16 #[.val (.ref t1), .val (.int (46 : Int32)), .val (.int (0 : Int32)), .val (.int (5 : Int32)), .val (.int ((46 : Int32).toInt8.toInt32)), .val (.int (0 : Int32))] [(.int (0 : Int32)), (.ref t1)])) rfl rfl (hb hby own_d32_16) _ h)
    replace k : own_K p.tables e below (s₁.setTop (entryFrame m #[(.ref t1), (.int (46 : Int32)), (.int (0 : Int32)), (.int (5 : Int32))] 6)) (s₁.setTop (mkF m 19 #[.val (.ref t1), .val (.int (46 : Int32)), .val (.int (0 : Int32)), .val (.int (5 : Int32)), .val (.int ((46 : Int32).toInt8.toInt32)), .val (.int (0 : Int32))] [(.int ((46 : Int32).toInt8.toInt32)), (.int (46 : Int32))])) := fun t h => k t (XS.iload X0.here hx rfl (hb hby own_d32_17) rfl h)
    replace k : own_K p.tables e below (s₁.setTop (entryFrame m #[(.ref t1), (.int (46 : Int32)), (.int (0 : Int32)), (.int (5 : Int32))] 6)) (s₁.setTop (mkF m 22 #[.val (.ref t1), .val (.int (46 : Int32)), .val (.int (0 : Int32)), .val (.int (5 : Int32)), .val (.int ((46 : Int32).toInt8.toInt32)), .val (.int (0 : Int32))] [])) := fun t h => k t (XS.icmpNo X0.here hx rfl (hb hby own_d32_19) rfl (teq (by decide : (46 : Int32) = ((46 : Int32).toInt8.toInt32))).2 h)
    replace k : own_K p.tables e below (s₁.setTop (entryFrame m #[(.ref t1), (.int (46 : Int32)), (.int (0 : Int32)), (.int (5 : Int32))] 6)) (s₁.setTop (mkF m 24 #[.val (.ref t1), .val (.int (46 : Int32)), .val (.int (0 : Int32)), .val (.int (5 : Int32)), .val (.int ((46 : Int32).toInt8.toInt32)), .val (.int (0 : Int32))] [(.int (0 : Int32))])) := fun t h => k t (XS.iload X0.here hx rfl (hb hby own_d32_22) rfl h)
    obtain ⟨fs, hr, hrun, hended, hW, hsame⟩ := X0.leave (v := some (.int (0 : Int32))) (fun h => by rw [Bd.returns] at h; cases h) Bd.notSynchronized
    refine ⟨_, _, k _ (retOut X0 hx Bd.returns rfl (Or.inl ⟨rfl, by simp, _, rfl⟩) (hb hby own_d32_24) hr), hrun, hended, _, _, rfl, ?_, ⟨_, rfl⟩, hW, hsame.mono (by decide) (by decide)⟩
    show Q5 Z t1 kb1 (46 : Int32) h0 n0 _ s₁.heap _
    rw [e0]
    exact ⟨(by decide), N0, rfl⟩
  · replace k : own_K p.tables e below (s₁.setTop (entryFrame m #[(.ref t1), (.int (95 : Int32)), (.int (0 : Int32)), (.int (5 : Int32))] 6)) (s₁.setTop (mkF m 1 #[.val (.ref t1), .val (.int (95 : Int32)), .val (.int (0 : Int32)), .val (.int (5 : Int32)), .unset, .unset] [(.int (95 : Int32))])) := fun t h => k t (XS.iloadN X0.here hx rfl (hb hby own_d32_0) rfl h)
    replace k : own_K p.tables e below (s₁.setTop (entryFrame m #[(.ref t1), (.int (95 : Int32)), (.int (0 : Int32)), (.int (5 : Int32))] 6)) (s₁.setTop (mkF m 2 #[.val (.ref t1), .val (.int (95 : Int32)), .val (.int (0 : Int32)), .val (.int (5 : Int32)), .unset, .unset] [(.int ((95 : Int32).toInt8.toInt32))])) := fun t h => k t (XS.i2b X0.here hx rfl (hb hby own_d32_1) rfl h)
    replace k : own_K p.tables e below (s₁.setTop (entryFrame m #[(.ref t1), (.int (95 : Int32)), (.int (0 : Int32)), (.int (5 : Int32))] 6)) (s₁.setTop (mkF m 4 #[.val (.ref t1), .val (.int (95 : Int32)), .val (.int (0 : Int32)), .val (.int (5 : Int32)), .val (.int ((95 : Int32).toInt8.toInt32)), .unset] [])) := fun t h => k t (XS.istore X0.here hx rfl (hb hby own_d32_2) rfl (l' := #[.val (.ref t1), .val (.int (95 : Int32)), .val (.int (0 : Int32)), .val (.int (5 : Int32)), .val (.int ((95 : Int32).toInt8.toInt32)), .unset]) rfl h)
    replace k : own_K p.tables e below (s₁.setTop (entryFrame m #[(.ref t1), (.int (95 : Int32)), (.int (0 : Int32)), (.int (5 : Int32))] 6)) (s₁.setTop (mkF m 5 #[.val (.ref t1), .val (.int (95 : Int32)), .val (.int (0 : Int32)), .val (.int (5 : Int32)), .val (.int ((95 : Int32).toInt8.toInt32)), .unset] [(.int (0 : Int32))])) := fun t h => k t (XS.iloadN X0.here hx rfl (hb hby own_d32_4) rfl h)
    replace k : own_K p.tables e below (s₁.setTop (entryFrame m #[(.ref t1), (.int (95 : Int32)), (.int (0 : Int32)), (.int (5 : Int32))] 6)) (s₁.setTop (mkF m 7 #[.val (.ref t1), .val (.int (95 : Int32)), .val (.int (0 : Int32)), .val (.int (5 : Int32)), .val (.int ((95 : Int32).toInt8.toInt32)), .val (.int (0 : Int32))] [])) := fun t h => k t (XS.istore X0.here hx rfl (hb hby own_d32_5) rfl (l' := #[.val (.ref t1), .val (.int (95 : Int32)), .val (.int (0 : Int32)), .val (.int (5 : Int32)), .val (.int ((95 : Int32).toInt8.toInt32)), .val (.int (0 : Int32))]) rfl h)
    replace k : own_K p.tables e below (s₁.setTop (entryFrame m #[(.ref t1), (.int (95 : Int32)), (.int (0 : Int32)), (.int (5 : Int32))] 6)) (s₁.setTop (mkF m 9 #[.val (.ref t1), .val (.int (95 : Int32)), .val (.int (0 : Int32)), .val (.int (5 : Int32)), .val (.int ((95 : Int32).toInt8.toInt32)), .val (.int (0 : Int32))] [(.int (0 : Int32))])) := fun t h => k t (XS.iload X0.here hx rfl (hb hby own_d32_7) rfl h)
    replace k : own_K p.tables e below (s₁.setTop (entryFrame m #[(.ref t1), (.int (95 : Int32)), (.int (0 : Int32)), (.int (5 : Int32))] 6)) (s₁.setTop (mkF m 10 #[.val (.ref t1), .val (.int (95 : Int32)), .val (.int (0 : Int32)), .val (.int (5 : Int32)), .val (.int ((95 : Int32).toInt8.toInt32)), .val (.int (0 : Int32))] [(.int (5 : Int32)), (.int (0 : Int32))])) := fun t h => k t (XS.iloadN X0.here hx rfl (hb hby own_d32_9) rfl h)
    replace k : own_K p.tables e below (s₁.setTop (entryFrame m #[(.ref t1), (.int (95 : Int32)), (.int (0 : Int32)), (.int (5 : Int32))] 6)) (s₁.setTop (mkF m 13 #[.val (.ref t1), .val (.int (95 : Int32)), .val (.int (0 : Int32)), .val (.int (5 : Int32)), .val (.int ((95 : Int32).toInt8.toInt32)), .val (.int (0 : Int32))] [])) := fun t h => k t (XS.icmpNo X0.here hx rfl (hb hby own_d32_10) rfl (tlt (by decide : (0 : Int32) < (5 : Int32))).2.1 h)
    replace k : own_K p.tables e below (s₁.setTop (entryFrame m #[(.ref t1), (.int (95 : Int32)), (.int (0 : Int32)), (.int (5 : Int32))] 6)) (s₁.setTop (mkF m 14 #[.val (.ref t1), .val (.int (95 : Int32)), .val (.int (0 : Int32)), .val (.int (5 : Int32)), .val (.int ((95 : Int32).toInt8.toInt32)), .val (.int (0 : Int32))] [(.ref t1)])) := fun t h => k t (XS.aloadN X0.here hx rfl (hb hby own_d32_13) rfl rfl h)
    replace k : own_K p.tables e below (s₁.setTop (entryFrame m #[(.ref t1), (.int (95 : Int32)), (.int (0 : Int32)), (.int (5 : Int32))] 6)) (s₁.setTop (mkF m 16 #[.val (.ref t1), .val (.int (95 : Int32)), .val (.int (0 : Int32)), .val (.int (5 : Int32)), .val (.int ((95 : Int32).toInt8.toInt32)), .val (.int (0 : Int32))] [(.int (0 : Int32)), (.ref t1)])) := fun t h => k t (XS.iload X0.here hx rfl (hb hby own_d32_14) rfl h)
    obtain ⟨cl2, Ar2, qa2, Sa2, Na2, Ha2, Ga2⟩ := id LK
    have hin2 : ¬ ((0 : Int32) < 0 ∨ cl2.slots.size ≤ ((0 : Int32)).toNatClampNeg) := inb_of Sa2 ⟨by decide, by decide⟩
    have hat2 := Has.at (v := (.int (46 : Int32))) Ha2 hin2 rfl
    replace k : own_K p.tables e below (s₁.setTop (entryFrame m #[(.ref t1), (.int (95 : Int32)), (.int (0 : Int32)), (.int (5 : Int32))] 6)) (s₁.setTop (mkF m 17 #[.val (.ref t1), .val (.int (95 : Int32)), .val (.int (0 : Int32)), .val (.int (5 : Int32)), .val (.int ((95 : Int32).toInt8.toInt32)), .val (.int (0 : Int32))] [(.int (46 : Int32))])) := fun t h => k t (X0.baloadBytes hx (j := (0 : Int32)) (v := (.int (46 : Int32))) (by rw [e0]; exact Ar2.1) (State.isArrayOf_alike hZ.alike Ar2.2.1) Ar2.2.2 hin2 hat2 (g := (mkF m 16 #[.val (.ref t1), .val (.int (95 : Int32)), .val (.int (0 : Int32)), .val (.int (5 : Int32)), .val (.int ((95 : Int32).toInt8.toInt32)), .val (.int (0 : Int32))] [(.int (0 : Int32)), (.ref t1)])) rfl rfl (hb hby own_d32_16) _ h)
    replace k : own_K p.tables e below (s₁.setTop (entryFrame m #[(.ref t1), (.int (95 : Int32)), (.int (0 : Int32)), (.int (5 : Int32))] 6)) (s₁.setTop (mkF m 19 #[.val (.ref t1), .val (.int (95 : Int32)), .val (.int (0 : Int32)), .val (.int (5 : Int32)), .val (.int ((95 : Int32).toInt8.toInt32)), .val (.int (0 : Int32))] [(.int ((95 : Int32).toInt8.toInt32)), (.int (46 : Int32))])) := fun t h => k t (XS.iload X0.here hx rfl (hb hby own_d32_17) rfl h)
    replace k : own_K p.tables e below (s₁.setTop (entryFrame m #[(.ref t1), (.int (95 : Int32)), (.int (0 : Int32)), (.int (5 : Int32))] 6)) (s₁.setTop (mkF m 25 #[.val (.ref t1), .val (.int (95 : Int32)), .val (.int (0 : Int32)), .val (.int (5 : Int32)), .val (.int ((95 : Int32).toInt8.toInt32)), .val (.int (0 : Int32))] [])) := fun t h => k t (XS.icmpYes X0.here hx rfl (pc0 := 19) (pc' := 25) rfl (hb hby own_d32_19) rfl (feq (by decide : ¬ ((46 : Int32) = ((95 : Int32).toInt8.toInt32)))).2 (by decide) (by decide) h)
    replace k : own_K p.tables e below (s₁.setTop (entryFrame m #[(.ref t1), (.int (95 : Int32)), (.int (0 : Int32)), (.int (5 : Int32))] 6)) (s₁.setTop (mkF m 28 #[.val (.ref t1), .val (.int (95 : Int32)), .val (.int (0 : Int32)), .val (.int (5 : Int32)), .val (.int ((95 : Int32).toInt8.toInt32)), .val (.int ((0 : Int32) + (1 : Int32)))] [])) := fun t h => k t (XS.iinc X0.here hx rfl (hb hby own_d32_25) rfl (l' := #[.val (.ref t1), .val (.int (95 : Int32)), .val (.int (0 : Int32)), .val (.int (5 : Int32)), .val (.int ((95 : Int32).toInt8.toInt32)), .val (.int ((0 : Int32) + (1 : Int32)))]) rfl h)
    replace k : own_K p.tables e below (s₁.setTop (entryFrame m #[(.ref t1), (.int (95 : Int32)), (.int (0 : Int32)), (.int (5 : Int32))] 6)) (s₁.setTop (mkF m 7 #[.val (.ref t1), .val (.int (95 : Int32)), .val (.int (0 : Int32)), .val (.int (5 : Int32)), .val (.int ((95 : Int32).toInt8.toInt32)), .val (.int ((0 : Int32) + (1 : Int32)))] [])) := fun t h => k t (XS.goto X0.here hx rfl (pc0 := 28) (pc' := 7) rfl (hb hby own_d32_28) (by decide) (by decide) h)
    replace k : own_K p.tables e below (s₁.setTop (entryFrame m #[(.ref t1), (.int (95 : Int32)), (.int (0 : Int32)), (.int (5 : Int32))] 6)) (s₁.setTop (mkF m 9 #[.val (.ref t1), .val (.int (95 : Int32)), .val (.int (0 : Int32)), .val (.int (5 : Int32)), .val (.int ((95 : Int32).toInt8.toInt32)), .val (.int ((0 : Int32) + (1 : Int32)))] [(.int ((0 : Int32) + (1 : Int32)))])) := fun t h => k t (XS.iload X0.here hx rfl (hb hby own_d32_7) rfl h)
    replace k : own_K p.tables e below (s₁.setTop (entryFrame m #[(.ref t1), (.int (95 : Int32)), (.int (0 : Int32)), (.int (5 : Int32))] 6)) (s₁.setTop (mkF m 10 #[.val (.ref t1), .val (.int (95 : Int32)), .val (.int (0 : Int32)), .val (.int (5 : Int32)), .val (.int ((95 : Int32).toInt8.toInt32)), .val (.int ((0 : Int32) + (1 : Int32)))] [(.int (5 : Int32)), (.int ((0 : Int32) + (1 : Int32)))])) := fun t h => k t (XS.iloadN X0.here hx rfl (hb hby own_d32_9) rfl h)
    replace k : own_K p.tables e below (s₁.setTop (entryFrame m #[(.ref t1), (.int (95 : Int32)), (.int (0 : Int32)), (.int (5 : Int32))] 6)) (s₁.setTop (mkF m 13 #[.val (.ref t1), .val (.int (95 : Int32)), .val (.int (0 : Int32)), .val (.int (5 : Int32)), .val (.int ((95 : Int32).toInt8.toInt32)), .val (.int ((0 : Int32) + (1 : Int32)))] [])) := fun t h => k t (XS.icmpNo X0.here hx rfl (hb hby own_d32_10) rfl (tlt (by decide : ((0 : Int32) + (1 : Int32)) < (5 : Int32))).2.1 h)
    replace k : own_K p.tables e below (s₁.setTop (entryFrame m #[(.ref t1), (.int (95 : Int32)), (.int (0 : Int32)), (.int (5 : Int32))] 6)) (s₁.setTop (mkF m 14 #[.val (.ref t1), .val (.int (95 : Int32)), .val (.int (0 : Int32)), .val (.int (5 : Int32)), .val (.int ((95 : Int32).toInt8.toInt32)), .val (.int ((0 : Int32) + (1 : Int32)))] [(.ref t1)])) := fun t h => k t (XS.aloadN X0.here hx rfl (hb hby own_d32_13) rfl rfl h)
    replace k : own_K p.tables e below (s₁.setTop (entryFrame m #[(.ref t1), (.int (95 : Int32)), (.int (0 : Int32)), (.int (5 : Int32))] 6)) (s₁.setTop (mkF m 16 #[.val (.ref t1), .val (.int (95 : Int32)), .val (.int (0 : Int32)), .val (.int (5 : Int32)), .val (.int ((95 : Int32).toInt8.toInt32)), .val (.int ((0 : Int32) + (1 : Int32)))] [(.int ((0 : Int32) + (1 : Int32))), (.ref t1)])) := fun t h => k t (XS.iload X0.here hx rfl (hb hby own_d32_14) rfl h)
    obtain ⟨cl3, Ar3, qa3, Sa3, Na3, Ha3, Ga3⟩ := id LK
    have hin3 : ¬ (((0 : Int32) + (1 : Int32)) < 0 ∨ cl3.slots.size ≤ (((0 : Int32) + (1 : Int32))).toNatClampNeg) := inb_of Sa3 ⟨by decide, by decide⟩
    have hat3 := Has.at (v := (.int (95 : Int32))) Ha3 hin3 rfl
    replace k : own_K p.tables e below (s₁.setTop (entryFrame m #[(.ref t1), (.int (95 : Int32)), (.int (0 : Int32)), (.int (5 : Int32))] 6)) (s₁.setTop (mkF m 17 #[.val (.ref t1), .val (.int (95 : Int32)), .val (.int (0 : Int32)), .val (.int (5 : Int32)), .val (.int ((95 : Int32).toInt8.toInt32)), .val (.int ((0 : Int32) + (1 : Int32)))] [(.int (95 : Int32))])) := fun t h => k t (X0.baloadBytes hx (j := ((0 : Int32) + (1 : Int32))) (v := (.int (95 : Int32))) (by rw [e0]; exact Ar3.1) (State.isArrayOf_alike hZ.alike Ar3.2.1) Ar3.2.2 hin3 hat3 (g := (mkF m 16 #[.val (.ref t1), .val (.int (95 : Int32)), .val (.int (0 : Int32)), .val (.int (5 : Int32)), .val (.int ((95 : Int32).toInt8.toInt32)), .val (.int ((0 : Int32) + (1 : Int32)))] [(.int ((0 : Int32) + (1 : Int32))), (.ref t1)])) rfl rfl (hb hby own_d32_16) _ h)
    replace k : own_K p.tables e below (s₁.setTop (entryFrame m #[(.ref t1), (.int (95 : Int32)), (.int (0 : Int32)), (.int (5 : Int32))] 6)) (s₁.setTop (mkF m 19 #[.val (.ref t1), .val (.int (95 : Int32)), .val (.int (0 : Int32)), .val (.int (5 : Int32)), .val (.int ((95 : Int32).toInt8.toInt32)), .val (.int ((0 : Int32) + (1 : Int32)))] [(.int ((95 : Int32).toInt8.toInt32)), (.int (95 : Int32))])) := fun t h => k t (XS.iload X0.here hx rfl (hb hby own_d32_17) rfl h)
    replace k : own_K p.tables e below (s₁.setTop (entryFrame m #[(.ref t1), (.int (95 : Int32)), (.int (0 : Int32)), (.int (5 : Int32))] 6)) (s₁.setTop (mkF m 22 #[.val (.ref t1), .val (.int (95 : Int32)), .val (.int (0 : Int32)), .val (.int (5 : Int32)), .val (.int ((95 : Int32).toInt8.toInt32)), .val (.int ((0 : Int32) + (1 : Int32)))] [])) := fun t h => k t (XS.icmpNo X0.here hx rfl (hb hby own_d32_19) rfl (teq (by decide : (95 : Int32) = ((95 : Int32).toInt8.toInt32))).2 h)
    replace k : own_K p.tables e below (s₁.setTop (entryFrame m #[(.ref t1), (.int (95 : Int32)), (.int (0 : Int32)), (.int (5 : Int32))] 6)) (s₁.setTop (mkF m 24 #[.val (.ref t1), .val (.int (95 : Int32)), .val (.int (0 : Int32)), .val (.int (5 : Int32)), .val (.int ((95 : Int32).toInt8.toInt32)), .val (.int ((0 : Int32) + (1 : Int32)))] [(.int ((0 : Int32) + (1 : Int32)))])) := fun t h => k t (XS.iload X0.here hx rfl (hb hby own_d32_22) rfl h)
    obtain ⟨fs, hr, hrun, hended, hW, hsame⟩ := X0.leave (v := some (.int ((0 : Int32) + (1 : Int32)))) (fun h => by rw [Bd.returns] at h; cases h) Bd.notSynchronized
    refine ⟨_, _, k _ (retOut X0 hx Bd.returns rfl (Or.inl ⟨rfl, by simp, _, rfl⟩) (hb hby own_d32_24) hr), hrun, hended, _, _, rfl, ?_, ⟨_, rfl⟩, hW, hsame.mono (by decide) (by decide)⟩
    show Q5 Z t1 kb1 (95 : Int32) h0 n0 _ s₁.heap _
    rw [e0]
    exact ⟨(by decide), N0, rfl⟩
  · replace k : own_K p.tables e below (s₁.setTop (entryFrame m #[(.ref t1), (.int (58 : Int32)), (.int (0 : Int32)), (.int (5 : Int32))] 6)) (s₁.setTop (mkF m 1 #[.val (.ref t1), .val (.int (58 : Int32)), .val (.int (0 : Int32)), .val (.int (5 : Int32)), .unset, .unset] [(.int (58 : Int32))])) := fun t h => k t (XS.iloadN X0.here hx rfl (hb hby own_d32_0) rfl h)
    replace k : own_K p.tables e below (s₁.setTop (entryFrame m #[(.ref t1), (.int (58 : Int32)), (.int (0 : Int32)), (.int (5 : Int32))] 6)) (s₁.setTop (mkF m 2 #[.val (.ref t1), .val (.int (58 : Int32)), .val (.int (0 : Int32)), .val (.int (5 : Int32)), .unset, .unset] [(.int ((58 : Int32).toInt8.toInt32))])) := fun t h => k t (XS.i2b X0.here hx rfl (hb hby own_d32_1) rfl h)
    replace k : own_K p.tables e below (s₁.setTop (entryFrame m #[(.ref t1), (.int (58 : Int32)), (.int (0 : Int32)), (.int (5 : Int32))] 6)) (s₁.setTop (mkF m 4 #[.val (.ref t1), .val (.int (58 : Int32)), .val (.int (0 : Int32)), .val (.int (5 : Int32)), .val (.int ((58 : Int32).toInt8.toInt32)), .unset] [])) := fun t h => k t (XS.istore X0.here hx rfl (hb hby own_d32_2) rfl (l' := #[.val (.ref t1), .val (.int (58 : Int32)), .val (.int (0 : Int32)), .val (.int (5 : Int32)), .val (.int ((58 : Int32).toInt8.toInt32)), .unset]) rfl h)
    replace k : own_K p.tables e below (s₁.setTop (entryFrame m #[(.ref t1), (.int (58 : Int32)), (.int (0 : Int32)), (.int (5 : Int32))] 6)) (s₁.setTop (mkF m 5 #[.val (.ref t1), .val (.int (58 : Int32)), .val (.int (0 : Int32)), .val (.int (5 : Int32)), .val (.int ((58 : Int32).toInt8.toInt32)), .unset] [(.int (0 : Int32))])) := fun t h => k t (XS.iloadN X0.here hx rfl (hb hby own_d32_4) rfl h)
    replace k : own_K p.tables e below (s₁.setTop (entryFrame m #[(.ref t1), (.int (58 : Int32)), (.int (0 : Int32)), (.int (5 : Int32))] 6)) (s₁.setTop (mkF m 7 #[.val (.ref t1), .val (.int (58 : Int32)), .val (.int (0 : Int32)), .val (.int (5 : Int32)), .val (.int ((58 : Int32).toInt8.toInt32)), .val (.int (0 : Int32))] [])) := fun t h => k t (XS.istore X0.here hx rfl (hb hby own_d32_5) rfl (l' := #[.val (.ref t1), .val (.int (58 : Int32)), .val (.int (0 : Int32)), .val (.int (5 : Int32)), .val (.int ((58 : Int32).toInt8.toInt32)), .val (.int (0 : Int32))]) rfl h)
    replace k : own_K p.tables e below (s₁.setTop (entryFrame m #[(.ref t1), (.int (58 : Int32)), (.int (0 : Int32)), (.int (5 : Int32))] 6)) (s₁.setTop (mkF m 9 #[.val (.ref t1), .val (.int (58 : Int32)), .val (.int (0 : Int32)), .val (.int (5 : Int32)), .val (.int ((58 : Int32).toInt8.toInt32)), .val (.int (0 : Int32))] [(.int (0 : Int32))])) := fun t h => k t (XS.iload X0.here hx rfl (hb hby own_d32_7) rfl h)
    replace k : own_K p.tables e below (s₁.setTop (entryFrame m #[(.ref t1), (.int (58 : Int32)), (.int (0 : Int32)), (.int (5 : Int32))] 6)) (s₁.setTop (mkF m 10 #[.val (.ref t1), .val (.int (58 : Int32)), .val (.int (0 : Int32)), .val (.int (5 : Int32)), .val (.int ((58 : Int32).toInt8.toInt32)), .val (.int (0 : Int32))] [(.int (5 : Int32)), (.int (0 : Int32))])) := fun t h => k t (XS.iloadN X0.here hx rfl (hb hby own_d32_9) rfl h)
    replace k : own_K p.tables e below (s₁.setTop (entryFrame m #[(.ref t1), (.int (58 : Int32)), (.int (0 : Int32)), (.int (5 : Int32))] 6)) (s₁.setTop (mkF m 13 #[.val (.ref t1), .val (.int (58 : Int32)), .val (.int (0 : Int32)), .val (.int (5 : Int32)), .val (.int ((58 : Int32).toInt8.toInt32)), .val (.int (0 : Int32))] [])) := fun t h => k t (XS.icmpNo X0.here hx rfl (hb hby own_d32_10) rfl (tlt (by decide : (0 : Int32) < (5 : Int32))).2.1 h)
    replace k : own_K p.tables e below (s₁.setTop (entryFrame m #[(.ref t1), (.int (58 : Int32)), (.int (0 : Int32)), (.int (5 : Int32))] 6)) (s₁.setTop (mkF m 14 #[.val (.ref t1), .val (.int (58 : Int32)), .val (.int (0 : Int32)), .val (.int (5 : Int32)), .val (.int ((58 : Int32).toInt8.toInt32)), .val (.int (0 : Int32))] [(.ref t1)])) := fun t h => k t (XS.aloadN X0.here hx rfl (hb hby own_d32_13) rfl rfl h)
    replace k : own_K p.tables e below (s₁.setTop (entryFrame m #[(.ref t1), (.int (58 : Int32)), (.int (0 : Int32)), (.int (5 : Int32))] 6)) (s₁.setTop (mkF m 16 #[.val (.ref t1), .val (.int (58 : Int32)), .val (.int (0 : Int32)), .val (.int (5 : Int32)), .val (.int ((58 : Int32).toInt8.toInt32)), .val (.int (0 : Int32))] [(.int (0 : Int32)), (.ref t1)])) := fun t h => k t (XS.iload X0.here hx rfl (hb hby own_d32_14) rfl h)
    obtain ⟨cl4, Ar4, qa4, Sa4, Na4, Ha4, Ga4⟩ := id LK
    have hin4 : ¬ ((0 : Int32) < 0 ∨ cl4.slots.size ≤ ((0 : Int32)).toNatClampNeg) := inb_of Sa4 ⟨by decide, by decide⟩
    have hat4 := Has.at (v := (.int (46 : Int32))) Ha4 hin4 rfl
    replace k : own_K p.tables e below (s₁.setTop (entryFrame m #[(.ref t1), (.int (58 : Int32)), (.int (0 : Int32)), (.int (5 : Int32))] 6)) (s₁.setTop (mkF m 17 #[.val (.ref t1), .val (.int (58 : Int32)), .val (.int (0 : Int32)), .val (.int (5 : Int32)), .val (.int ((58 : Int32).toInt8.toInt32)), .val (.int (0 : Int32))] [(.int (46 : Int32))])) := fun t h => k t (X0.baloadBytes hx (j := (0 : Int32)) (v := (.int (46 : Int32))) (by rw [e0]; exact Ar4.1) (State.isArrayOf_alike hZ.alike Ar4.2.1) Ar4.2.2 hin4 hat4 (g := (mkF m 16 #[.val (.ref t1), .val (.int (58 : Int32)), .val (.int (0 : Int32)), .val (.int (5 : Int32)), .val (.int ((58 : Int32).toInt8.toInt32)), .val (.int (0 : Int32))] [(.int (0 : Int32)), (.ref t1)])) rfl rfl (hb hby own_d32_16) _ h)
    replace k : own_K p.tables e below (s₁.setTop (entryFrame m #[(.ref t1), (.int (58 : Int32)), (.int (0 : Int32)), (.int (5 : Int32))] 6)) (s₁.setTop (mkF m 19 #[.val (.ref t1), .val (.int (58 : Int32)), .val (.int (0 : Int32)), .val (.int (5 : Int32)), .val (.int ((58 : Int32).toInt8.toInt32)), .val (.int (0 : Int32))] [(.int ((58 : Int32).toInt8.toInt32)), (.int (46 : Int32))])) := fun t h => k t (XS.iload X0.here hx rfl (hb hby own_d32_17) rfl h)
    replace k : own_K p.tables e below (s₁.setTop (entryFrame m #[(.ref t1), (.int (58 : Int32)), (.int (0 : Int32)), (.int (5 : Int32))] 6)) (s₁.setTop (mkF m 25 #[.val (.ref t1), .val (.int (58 : Int32)), .val (.int (0 : Int32)), .val (.int (5 : Int32)), .val (.int ((58 : Int32).toInt8.toInt32)), .val (.int (0 : Int32))] [])) := fun t h => k t (XS.icmpYes X0.here hx rfl (pc0 := 19) (pc' := 25) rfl (hb hby own_d32_19) rfl (feq (by decide : ¬ ((46 : Int32) = ((58 : Int32).toInt8.toInt32)))).2 (by decide) (by decide) h)
    replace k : own_K p.tables e below (s₁.setTop (entryFrame m #[(.ref t1), (.int (58 : Int32)), (.int (0 : Int32)), (.int (5 : Int32))] 6)) (s₁.setTop (mkF m 28 #[.val (.ref t1), .val (.int (58 : Int32)), .val (.int (0 : Int32)), .val (.int (5 : Int32)), .val (.int ((58 : Int32).toInt8.toInt32)), .val (.int ((0 : Int32) + (1 : Int32)))] [])) := fun t h => k t (XS.iinc X0.here hx rfl (hb hby own_d32_25) rfl (l' := #[.val (.ref t1), .val (.int (58 : Int32)), .val (.int (0 : Int32)), .val (.int (5 : Int32)), .val (.int ((58 : Int32).toInt8.toInt32)), .val (.int ((0 : Int32) + (1 : Int32)))]) rfl h)
    replace k : own_K p.tables e below (s₁.setTop (entryFrame m #[(.ref t1), (.int (58 : Int32)), (.int (0 : Int32)), (.int (5 : Int32))] 6)) (s₁.setTop (mkF m 7 #[.val (.ref t1), .val (.int (58 : Int32)), .val (.int (0 : Int32)), .val (.int (5 : Int32)), .val (.int ((58 : Int32).toInt8.toInt32)), .val (.int ((0 : Int32) + (1 : Int32)))] [])) := fun t h => k t (XS.goto X0.here hx rfl (pc0 := 28) (pc' := 7) rfl (hb hby own_d32_28) (by decide) (by decide) h)
    replace k : own_K p.tables e below (s₁.setTop (entryFrame m #[(.ref t1), (.int (58 : Int32)), (.int (0 : Int32)), (.int (5 : Int32))] 6)) (s₁.setTop (mkF m 9 #[.val (.ref t1), .val (.int (58 : Int32)), .val (.int (0 : Int32)), .val (.int (5 : Int32)), .val (.int ((58 : Int32).toInt8.toInt32)), .val (.int ((0 : Int32) + (1 : Int32)))] [(.int ((0 : Int32) + (1 : Int32)))])) := fun t h => k t (XS.iload X0.here hx rfl (hb hby own_d32_7) rfl h)
    replace k : own_K p.tables e below (s₁.setTop (entryFrame m #[(.ref t1), (.int (58 : Int32)), (.int (0 : Int32)), (.int (5 : Int32))] 6)) (s₁.setTop (mkF m 10 #[.val (.ref t1), .val (.int (58 : Int32)), .val (.int (0 : Int32)), .val (.int (5 : Int32)), .val (.int ((58 : Int32).toInt8.toInt32)), .val (.int ((0 : Int32) + (1 : Int32)))] [(.int (5 : Int32)), (.int ((0 : Int32) + (1 : Int32)))])) := fun t h => k t (XS.iloadN X0.here hx rfl (hb hby own_d32_9) rfl h)
    replace k : own_K p.tables e below (s₁.setTop (entryFrame m #[(.ref t1), (.int (58 : Int32)), (.int (0 : Int32)), (.int (5 : Int32))] 6)) (s₁.setTop (mkF m 13 #[.val (.ref t1), .val (.int (58 : Int32)), .val (.int (0 : Int32)), .val (.int (5 : Int32)), .val (.int ((58 : Int32).toInt8.toInt32)), .val (.int ((0 : Int32) + (1 : Int32)))] [])) := fun t h => k t (XS.icmpNo X0.here hx rfl (hb hby own_d32_10) rfl (tlt (by decide : ((0 : Int32) + (1 : Int32)) < (5 : Int32))).2.1 h)
    replace k : own_K p.tables e below (s₁.setTop (entryFrame m #[(.ref t1), (.int (58 : Int32)), (.int (0 : Int32)), (.int (5 : Int32))] 6)) (s₁.setTop (mkF m 14 #[.val (.ref t1), .val (.int (58 : Int32)), .val (.int (0 : Int32)), .val (.int (5 : Int32)), .val (.int ((58 : Int32).toInt8.toInt32)), .val (.int ((0 : Int32) + (1 : Int32)))] [(.ref t1)])) := fun t h => k t (XS.aloadN X0.here hx rfl (hb hby own_d32_13) rfl rfl h)
    replace k : own_K p.tables e below (s₁.setTop (entryFrame m #[(.ref t1), (.int (58 : Int32)), (.int (0 : Int32)), (.int (5 : Int32))] 6)) (s₁.setTop (mkF m 16 #[.val (.ref t1), .val (.int (58 : Int32)), .val (.int (0 : Int32)), .val (.int (5 : Int32)), .val (.int ((58 : Int32).toInt8.toInt32)), .val (.int ((0 : Int32) + (1 : Int32)))] [(.int ((0 : Int32) + (1 : Int32))), (.ref t1)])) := fun t h => k t (XS.iload X0.here hx rfl (hb hby own_d32_14) rfl h)
    obtain ⟨cl5, Ar5, qa5, Sa5, Na5, Ha5, Ga5⟩ := id LK
    have hin5 : ¬ (((0 : Int32) + (1 : Int32)) < 0 ∨ cl5.slots.size ≤ (((0 : Int32) + (1 : Int32))).toNatClampNeg) := inb_of Sa5 ⟨by decide, by decide⟩
    have hat5 := Has.at (v := (.int (95 : Int32))) Ha5 hin5 rfl
    replace k : own_K p.tables e below (s₁.setTop (entryFrame m #[(.ref t1), (.int (58 : Int32)), (.int (0 : Int32)), (.int (5 : Int32))] 6)) (s₁.setTop (mkF m 17 #[.val (.ref t1), .val (.int (58 : Int32)), .val (.int (0 : Int32)), .val (.int (5 : Int32)), .val (.int ((58 : Int32).toInt8.toInt32)), .val (.int ((0 : Int32) + (1 : Int32)))] [(.int (95 : Int32))])) := fun t h => k t (X0.baloadBytes hx (j := ((0 : Int32) + (1 : Int32))) (v := (.int (95 : Int32))) (by rw [e0]; exact Ar5.1) (State.isArrayOf_alike hZ.alike Ar5.2.1) Ar5.2.2 hin5 hat5 (g := (mkF m 16 #[.val (.ref t1), .val (.int (58 : Int32)), .val (.int (0 : Int32)), .val (.int (5 : Int32)), .val (.int ((58 : Int32).toInt8.toInt32)), .val (.int ((0 : Int32) + (1 : Int32)))] [(.int ((0 : Int32) + (1 : Int32))), (.ref t1)])) rfl rfl (hb hby own_d32_16) _ h)
    replace k : own_K p.tables e below (s₁.setTop (entryFrame m #[(.ref t1), (.int (58 : Int32)), (.int (0 : Int32)), (.int (5 : Int32))] 6)) (s₁.setTop (mkF m 19 #[.val (.ref t1), .val (.int (58 : Int32)), .val (.int (0 : Int32)), .val (.int (5 : Int32)), .val (.int ((58 : Int32).toInt8.toInt32)), .val (.int ((0 : Int32) + (1 : Int32)))] [(.int ((58 : Int32).toInt8.toInt32)), (.int (95 : Int32))])) := fun t h => k t (XS.iload X0.here hx rfl (hb hby own_d32_17) rfl h)
    replace k : own_K p.tables e below (s₁.setTop (entryFrame m #[(.ref t1), (.int (58 : Int32)), (.int (0 : Int32)), (.int (5 : Int32))] 6)) (s₁.setTop (mkF m 25 #[.val (.ref t1), .val (.int (58 : Int32)), .val (.int (0 : Int32)), .val (.int (5 : Int32)), .val (.int ((58 : Int32).toInt8.toInt32)), .val (.int ((0 : Int32) + (1 : Int32)))] [])) := fun t h => k t (XS.icmpYes X0.here hx rfl (pc0 := 19) (pc' := 25) rfl (hb hby own_d32_19) rfl (feq (by decide : ¬ ((95 : Int32) = ((58 : Int32).toInt8.toInt32)))).2 (by decide) (by decide) h)
    replace k : own_K p.tables e below (s₁.setTop (entryFrame m #[(.ref t1), (.int (58 : Int32)), (.int (0 : Int32)), (.int (5 : Int32))] 6)) (s₁.setTop (mkF m 28 #[.val (.ref t1), .val (.int (58 : Int32)), .val (.int (0 : Int32)), .val (.int (5 : Int32)), .val (.int ((58 : Int32).toInt8.toInt32)), .val (.int (((0 : Int32) + (1 : Int32)) + (1 : Int32)))] [])) := fun t h => k t (XS.iinc X0.here hx rfl (hb hby own_d32_25) rfl (l' := #[.val (.ref t1), .val (.int (58 : Int32)), .val (.int (0 : Int32)), .val (.int (5 : Int32)), .val (.int ((58 : Int32).toInt8.toInt32)), .val (.int (((0 : Int32) + (1 : Int32)) + (1 : Int32)))]) rfl h)
    replace k : own_K p.tables e below (s₁.setTop (entryFrame m #[(.ref t1), (.int (58 : Int32)), (.int (0 : Int32)), (.int (5 : Int32))] 6)) (s₁.setTop (mkF m 7 #[.val (.ref t1), .val (.int (58 : Int32)), .val (.int (0 : Int32)), .val (.int (5 : Int32)), .val (.int ((58 : Int32).toInt8.toInt32)), .val (.int (((0 : Int32) + (1 : Int32)) + (1 : Int32)))] [])) := fun t h => k t (XS.goto X0.here hx rfl (pc0 := 28) (pc' := 7) rfl (hb hby own_d32_28) (by decide) (by decide) h)
    replace k : own_K p.tables e below (s₁.setTop (entryFrame m #[(.ref t1), (.int (58 : Int32)), (.int (0 : Int32)), (.int (5 : Int32))] 6)) (s₁.setTop (mkF m 9 #[.val (.ref t1), .val (.int (58 : Int32)), .val (.int (0 : Int32)), .val (.int (5 : Int32)), .val (.int ((58 : Int32).toInt8.toInt32)), .val (.int (((0 : Int32) + (1 : Int32)) + (1 : Int32)))] [(.int (((0 : Int32) + (1 : Int32)) + (1 : Int32)))])) := fun t h => k t (XS.iload X0.here hx rfl (hb hby own_d32_7) rfl h)
    replace k : own_K p.tables e below (s₁.setTop (entryFrame m #[(.ref t1), (.int (58 : Int32)), (.int (0 : Int32)), (.int (5 : Int32))] 6)) (s₁.setTop (mkF m 10 #[.val (.ref t1), .val (.int (58 : Int32)), .val (.int (0 : Int32)), .val (.int (5 : Int32)), .val (.int ((58 : Int32).toInt8.toInt32)), .val (.int (((0 : Int32) + (1 : Int32)) + (1 : Int32)))] [(.int (5 : Int32)), (.int (((0 : Int32) + (1 : Int32)) + (1 : Int32)))])) := fun t h => k t (XS.iloadN X0.here hx rfl (hb hby own_d32_9) rfl h)
    replace k : own_K p.tables e below (s₁.setTop (entryFrame m #[(.ref t1), (.int (58 : Int32)), (.int (0 : Int32)), (.int (5 : Int32))] 6)) (s₁.setTop (mkF m 13 #[.val (.ref t1), .val (.int (58 : Int32)), .val (.int (0 : Int32)), .val (.int (5 : Int32)), .val (.int ((58 : Int32).toInt8.toInt32)), .val (.int (((0 : Int32) + (1 : Int32)) + (1 : Int32)))] [])) := fun t h => k t (XS.icmpNo X0.here hx rfl (hb hby own_d32_10) rfl (tlt (by decide : (((0 : Int32) + (1 : Int32)) + (1 : Int32)) < (5 : Int32))).2.1 h)
    replace k : own_K p.tables e below (s₁.setTop (entryFrame m #[(.ref t1), (.int (58 : Int32)), (.int (0 : Int32)), (.int (5 : Int32))] 6)) (s₁.setTop (mkF m 14 #[.val (.ref t1), .val (.int (58 : Int32)), .val (.int (0 : Int32)), .val (.int (5 : Int32)), .val (.int ((58 : Int32).toInt8.toInt32)), .val (.int (((0 : Int32) + (1 : Int32)) + (1 : Int32)))] [(.ref t1)])) := fun t h => k t (XS.aloadN X0.here hx rfl (hb hby own_d32_13) rfl rfl h)
    replace k : own_K p.tables e below (s₁.setTop (entryFrame m #[(.ref t1), (.int (58 : Int32)), (.int (0 : Int32)), (.int (5 : Int32))] 6)) (s₁.setTop (mkF m 16 #[.val (.ref t1), .val (.int (58 : Int32)), .val (.int (0 : Int32)), .val (.int (5 : Int32)), .val (.int ((58 : Int32).toInt8.toInt32)), .val (.int (((0 : Int32) + (1 : Int32)) + (1 : Int32)))] [(.int (((0 : Int32) + (1 : Int32)) + (1 : Int32))), (.ref t1)])) := fun t h => k t (XS.iload X0.here hx rfl (hb hby own_d32_14) rfl h)
    obtain ⟨cl6, Ar6, qa6, Sa6, Na6, Ha6, Ga6⟩ := id LK
    have hin6 : ¬ ((((0 : Int32) + (1 : Int32)) + (1 : Int32)) < 0 ∨ cl6.slots.size ≤ ((((0 : Int32) + (1 : Int32)) + (1 : Int32))).toNatClampNeg) := inb_of Sa6 ⟨by decide, by decide⟩
    have hat6 := Has.at (v := (.int (58 : Int32))) Ha6 hin6 rfl
    replace k : own_K p.tables e below (s₁.setTop (entryFrame m #[(.ref t1), (.int (58 : Int32)), (.int (0 : Int32)), (.int (5 : Int32))] 6)) (s₁.setTop (mkF m 17 #[.val (.ref t1), .val (.int (58 : Int32)), .val (.int (0 : Int32)), .val (.int (5 : Int32)), .val (.int ((58 : Int32).toInt8.toInt32)), .val (.int (((0 : Int32) + (1 : Int32)) + (1 : Int32)))] [(.int (58 : Int32))])) := fun t h => k t (X0.baloadBytes hx (j := (((0 : Int32) + (1 : Int32)) + (1 : Int32))) (v := (.int (58 : Int32))) (by rw [e0]; exact Ar6.1) (State.isArrayOf_alike hZ.alike Ar6.2.1) Ar6.2.2 hin6 hat6 (g := (mkF m 16 #[.val (.ref t1), .val (.int (58 : Int32)), .val (.int (0 : Int32)), .val (.int (5 : Int32)), .val (.int ((58 : Int32).toInt8.toInt32)), .val (.int (((0 : Int32) + (1 : Int32)) + (1 : Int32)))] [(.int (((0 : Int32) + (1 : Int32)) + (1 : Int32))), (.ref t1)])) rfl rfl (hb hby own_d32_16) _ h)
    replace k : own_K p.tables e below (s₁.setTop (entryFrame m #[(.ref t1), (.int (58 : Int32)), (.int (0 : Int32)), (.int (5 : Int32))] 6)) (s₁.setTop (mkF m 19 #[.val (.ref t1), .val (.int (58 : Int32)), .val (.int (0 : Int32)), .val (.int (5 : Int32)), .val (.int ((58 : Int32).toInt8.toInt32)), .val (.int (((0 : Int32) + (1 : Int32)) + (1 : Int32)))] [(.int ((58 : Int32).toInt8.toInt32)), (.int (58 : Int32))])) := fun t h => k t (XS.iload X0.here hx rfl (hb hby own_d32_17) rfl h)
    replace k : own_K p.tables e below (s₁.setTop (entryFrame m #[(.ref t1), (.int (58 : Int32)), (.int (0 : Int32)), (.int (5 : Int32))] 6)) (s₁.setTop (mkF m 22 #[.val (.ref t1), .val (.int (58 : Int32)), .val (.int (0 : Int32)), .val (.int (5 : Int32)), .val (.int ((58 : Int32).toInt8.toInt32)), .val (.int (((0 : Int32) + (1 : Int32)) + (1 : Int32)))] [])) := fun t h => k t (XS.icmpNo X0.here hx rfl (hb hby own_d32_19) rfl (teq (by decide : (58 : Int32) = ((58 : Int32).toInt8.toInt32))).2 h)
    replace k : own_K p.tables e below (s₁.setTop (entryFrame m #[(.ref t1), (.int (58 : Int32)), (.int (0 : Int32)), (.int (5 : Int32))] 6)) (s₁.setTop (mkF m 24 #[.val (.ref t1), .val (.int (58 : Int32)), .val (.int (0 : Int32)), .val (.int (5 : Int32)), .val (.int ((58 : Int32).toInt8.toInt32)), .val (.int (((0 : Int32) + (1 : Int32)) + (1 : Int32)))] [(.int (((0 : Int32) + (1 : Int32)) + (1 : Int32)))])) := fun t h => k t (XS.iload X0.here hx rfl (hb hby own_d32_22) rfl h)
    obtain ⟨fs, hr, hrun, hended, hW, hsame⟩ := X0.leave (v := some (.int (((0 : Int32) + (1 : Int32)) + (1 : Int32)))) (fun h => by rw [Bd.returns] at h; cases h) Bd.notSynchronized
    refine ⟨_, _, k _ (retOut X0 hx Bd.returns rfl (Or.inl ⟨rfl, by simp, _, rfl⟩) (hb hby own_d32_24) hr), hrun, hended, _, _, rfl, ?_, ⟨_, rfl⟩, hW, hsame.mono (by decide) (by decide)⟩
    show Q5 Z t1 kb1 (58 : Int32) h0 n0 _ s₁.heap _
    rw [e0]
    exact ⟨(by decide), N0, rfl⟩
  · replace k : own_K p.tables e below (s₁.setTop (entryFrame m #[(.ref t1), (.int (47 : Int32)), (.int (0 : Int32)), (.int (5 : Int32))] 6)) (s₁.setTop (mkF m 1 #[.val (.ref t1), .val (.int (47 : Int32)), .val (.int (0 : Int32)), .val (.int (5 : Int32)), .unset, .unset] [(.int (47 : Int32))])) := fun t h => k t (XS.iloadN X0.here hx rfl (hb hby own_d32_0) rfl h)
    replace k : own_K p.tables e below (s₁.setTop (entryFrame m #[(.ref t1), (.int (47 : Int32)), (.int (0 : Int32)), (.int (5 : Int32))] 6)) (s₁.setTop (mkF m 2 #[.val (.ref t1), .val (.int (47 : Int32)), .val (.int (0 : Int32)), .val (.int (5 : Int32)), .unset, .unset] [(.int ((47 : Int32).toInt8.toInt32))])) := fun t h => k t (XS.i2b X0.here hx rfl (hb hby own_d32_1) rfl h)
    replace k : own_K p.tables e below (s₁.setTop (entryFrame m #[(.ref t1), (.int (47 : Int32)), (.int (0 : Int32)), (.int (5 : Int32))] 6)) (s₁.setTop (mkF m 4 #[.val (.ref t1), .val (.int (47 : Int32)), .val (.int (0 : Int32)), .val (.int (5 : Int32)), .val (.int ((47 : Int32).toInt8.toInt32)), .unset] [])) := fun t h => k t (XS.istore X0.here hx rfl (hb hby own_d32_2) rfl (l' := #[.val (.ref t1), .val (.int (47 : Int32)), .val (.int (0 : Int32)), .val (.int (5 : Int32)), .val (.int ((47 : Int32).toInt8.toInt32)), .unset]) rfl h)
    replace k : own_K p.tables e below (s₁.setTop (entryFrame m #[(.ref t1), (.int (47 : Int32)), (.int (0 : Int32)), (.int (5 : Int32))] 6)) (s₁.setTop (mkF m 5 #[.val (.ref t1), .val (.int (47 : Int32)), .val (.int (0 : Int32)), .val (.int (5 : Int32)), .val (.int ((47 : Int32).toInt8.toInt32)), .unset] [(.int (0 : Int32))])) := fun t h => k t (XS.iloadN X0.here hx rfl (hb hby own_d32_4) rfl h)
    replace k : own_K p.tables e below (s₁.setTop (entryFrame m #[(.ref t1), (.int (47 : Int32)), (.int (0 : Int32)), (.int (5 : Int32))] 6)) (s₁.setTop (mkF m 7 #[.val (.ref t1), .val (.int (47 : Int32)), .val (.int (0 : Int32)), .val (.int (5 : Int32)), .val (.int ((47 : Int32).toInt8.toInt32)), .val (.int (0 : Int32))] [])) := fun t h => k t (XS.istore X0.here hx rfl (hb hby own_d32_5) rfl (l' := #[.val (.ref t1), .val (.int (47 : Int32)), .val (.int (0 : Int32)), .val (.int (5 : Int32)), .val (.int ((47 : Int32).toInt8.toInt32)), .val (.int (0 : Int32))]) rfl h)
    replace k : own_K p.tables e below (s₁.setTop (entryFrame m #[(.ref t1), (.int (47 : Int32)), (.int (0 : Int32)), (.int (5 : Int32))] 6)) (s₁.setTop (mkF m 9 #[.val (.ref t1), .val (.int (47 : Int32)), .val (.int (0 : Int32)), .val (.int (5 : Int32)), .val (.int ((47 : Int32).toInt8.toInt32)), .val (.int (0 : Int32))] [(.int (0 : Int32))])) := fun t h => k t (XS.iload X0.here hx rfl (hb hby own_d32_7) rfl h)
    replace k : own_K p.tables e below (s₁.setTop (entryFrame m #[(.ref t1), (.int (47 : Int32)), (.int (0 : Int32)), (.int (5 : Int32))] 6)) (s₁.setTop (mkF m 10 #[.val (.ref t1), .val (.int (47 : Int32)), .val (.int (0 : Int32)), .val (.int (5 : Int32)), .val (.int ((47 : Int32).toInt8.toInt32)), .val (.int (0 : Int32))] [(.int (5 : Int32)), (.int (0 : Int32))])) := fun t h => k t (XS.iloadN X0.here hx rfl (hb hby own_d32_9) rfl h)
    replace k : own_K p.tables e below (s₁.setTop (entryFrame m #[(.ref t1), (.int (47 : Int32)), (.int (0 : Int32)), (.int (5 : Int32))] 6)) (s₁.setTop (mkF m 13 #[.val (.ref t1), .val (.int (47 : Int32)), .val (.int (0 : Int32)), .val (.int (5 : Int32)), .val (.int ((47 : Int32).toInt8.toInt32)), .val (.int (0 : Int32))] [])) := fun t h => k t (XS.icmpNo X0.here hx rfl (hb hby own_d32_10) rfl (tlt (by decide : (0 : Int32) < (5 : Int32))).2.1 h)
    replace k : own_K p.tables e below (s₁.setTop (entryFrame m #[(.ref t1), (.int (47 : Int32)), (.int (0 : Int32)), (.int (5 : Int32))] 6)) (s₁.setTop (mkF m 14 #[.val (.ref t1), .val (.int (47 : Int32)), .val (.int (0 : Int32)), .val (.int (5 : Int32)), .val (.int ((47 : Int32).toInt8.toInt32)), .val (.int (0 : Int32))] [(.ref t1)])) := fun t h => k t (XS.aloadN X0.here hx rfl (hb hby own_d32_13) rfl rfl h)
    replace k : own_K p.tables e below (s₁.setTop (entryFrame m #[(.ref t1), (.int (47 : Int32)), (.int (0 : Int32)), (.int (5 : Int32))] 6)) (s₁.setTop (mkF m 16 #[.val (.ref t1), .val (.int (47 : Int32)), .val (.int (0 : Int32)), .val (.int (5 : Int32)), .val (.int ((47 : Int32).toInt8.toInt32)), .val (.int (0 : Int32))] [(.int (0 : Int32)), (.ref t1)])) := fun t h => k t (XS.iload X0.here hx rfl (hb hby own_d32_14) rfl h)
    obtain ⟨cl7, Ar7, qa7, Sa7, Na7, Ha7, Ga7⟩ := id LK
    have hin7 : ¬ ((0 : Int32) < 0 ∨ cl7.slots.size ≤ ((0 : Int32)).toNatClampNeg) := inb_of Sa7 ⟨by decide, by decide⟩
    have hat7 := Has.at (v := (.int (46 : Int32))) Ha7 hin7 rfl
    replace k : own_K p.tables e below (s₁.setTop (entryFrame m #[(.ref t1), (.int (47 : Int32)), (.int (0 : Int32)), (.int (5 : Int32))] 6)) (s₁.setTop (mkF m 17 #[.val (.ref t1), .val (.int (47 : Int32)), .val (.int (0 : Int32)), .val (.int (5 : Int32)), .val (.int ((47 : Int32).toInt8.toInt32)), .val (.int (0 : Int32))] [(.int (46 : Int32))])) := fun t h => k t (X0.baloadBytes hx (j := (0 : Int32)) (v := (.int (46 : Int32))) (by rw [e0]; exact Ar7.1) (State.isArrayOf_alike hZ.alike Ar7.2.1) Ar7.2.2 hin7 hat7 (g := (mkF m 16 #[.val (.ref t1), .val (.int (47 : Int32)), .val (.int (0 : Int32)), .val (.int (5 : Int32)), .val (.int ((47 : Int32).toInt8.toInt32)), .val (.int (0 : Int32))] [(.int (0 : Int32)), (.ref t1)])) rfl rfl (hb hby own_d32_16) _ h)
    replace k : own_K p.tables e below (s₁.setTop (entryFrame m #[(.ref t1), (.int (47 : Int32)), (.int (0 : Int32)), (.int (5 : Int32))] 6)) (s₁.setTop (mkF m 19 #[.val (.ref t1), .val (.int (47 : Int32)), .val (.int (0 : Int32)), .val (.int (5 : Int32)), .val (.int ((47 : Int32).toInt8.toInt32)), .val (.int (0 : Int32))] [(.int ((47 : Int32).toInt8.toInt32)), (.int (46 : Int32))])) := fun t h => k t (XS.iload X0.here hx rfl (hb hby own_d32_17) rfl h)
    replace k : own_K p.tables e below (s₁.setTop (entryFrame m #[(.ref t1), (.int (47 : Int32)), (.int (0 : Int32)), (.int (5 : Int32))] 6)) (s₁.setTop (mkF m 25 #[.val (.ref t1), .val (.int (47 : Int32)), .val (.int (0 : Int32)), .val (.int (5 : Int32)), .val (.int ((47 : Int32).toInt8.toInt32)), .val (.int (0 : Int32))] [])) := fun t h => k t (XS.icmpYes X0.here hx rfl (pc0 := 19) (pc' := 25) rfl (hb hby own_d32_19) rfl (feq (by decide : ¬ ((46 : Int32) = ((47 : Int32).toInt8.toInt32)))).2 (by decide) (by decide) h)
    replace k : own_K p.tables e below (s₁.setTop (entryFrame m #[(.ref t1), (.int (47 : Int32)), (.int (0 : Int32)), (.int (5 : Int32))] 6)) (s₁.setTop (mkF m 28 #[.val (.ref t1), .val (.int (47 : Int32)), .val (.int (0 : Int32)), .val (.int (5 : Int32)), .val (.int ((47 : Int32).toInt8.toInt32)), .val (.int ((0 : Int32) + (1 : Int32)))] [])) := fun t h => k t (XS.iinc X0.here hx rfl (hb hby own_d32_25) rfl (l' := #[.val (.ref t1), .val (.int (47 : Int32)), .val (.int (0 : Int32)), .val (.int (5 : Int32)), .val (.int ((47 : Int32).toInt8.toInt32)), .val (.int ((0 : Int32) + (1 : Int32)))]) rfl h)
    replace k : own_K p.tables e below (s₁.setTop (entryFrame m #[(.ref t1), (.int (47 : Int32)), (.int (0 : Int32)), (.int (5 : Int32))] 6)) (s₁.setTop (mkF m 7 #[.val (.ref t1), .val (.int (47 : Int32)), .val (.int (0 : Int32)), .val (.int (5 : Int32)), .val (.int ((47 : Int32).toInt8.toInt32)), .val (.int ((0 : Int32) + (1 : Int32)))] [])) := fun t h => k t (XS.goto X0.here hx rfl (pc0 := 28) (pc' := 7) rfl (hb hby own_d32_28) (by decide) (by decide) h)
    replace k : own_K p.tables e below (s₁.setTop (entryFrame m #[(.ref t1), (.int (47 : Int32)), (.int (0 : Int32)), (.int (5 : Int32))] 6)) (s₁.setTop (mkF m 9 #[.val (.ref t1), .val (.int (47 : Int32)), .val (.int (0 : Int32)), .val (.int (5 : Int32)), .val (.int ((47 : Int32).toInt8.toInt32)), .val (.int ((0 : Int32) + (1 : Int32)))] [(.int ((0 : Int32) + (1 : Int32)))])) := fun t h => k t (XS.iload X0.here hx rfl (hb hby own_d32_7) rfl h)
    replace k : own_K p.tables e below (s₁.setTop (entryFrame m #[(.ref t1), (.int (47 : Int32)), (.int (0 : Int32)), (.int (5 : Int32))] 6)) (s₁.setTop (mkF m 10 #[.val (.ref t1), .val (.int (47 : Int32)), .val (.int (0 : Int32)), .val (.int (5 : Int32)), .val (.int ((47 : Int32).toInt8.toInt32)), .val (.int ((0 : Int32) + (1 : Int32)))] [(.int (5 : Int32)), (.int ((0 : Int32) + (1 : Int32)))])) := fun t h => k t (XS.iloadN X0.here hx rfl (hb hby own_d32_9) rfl h)
    replace k : own_K p.tables e below (s₁.setTop (entryFrame m #[(.ref t1), (.int (47 : Int32)), (.int (0 : Int32)), (.int (5 : Int32))] 6)) (s₁.setTop (mkF m 13 #[.val (.ref t1), .val (.int (47 : Int32)), .val (.int (0 : Int32)), .val (.int (5 : Int32)), .val (.int ((47 : Int32).toInt8.toInt32)), .val (.int ((0 : Int32) + (1 : Int32)))] [])) := fun t h => k t (XS.icmpNo X0.here hx rfl (hb hby own_d32_10) rfl (tlt (by decide : ((0 : Int32) + (1 : Int32)) < (5 : Int32))).2.1 h)
    replace k : own_K p.tables e below (s₁.setTop (entryFrame m #[(.ref t1), (.int (47 : Int32)), (.int (0 : Int32)), (.int (5 : Int32))] 6)) (s₁.setTop (mkF m 14 #[.val (.ref t1), .val (.int (47 : Int32)), .val (.int (0 : Int32)), .val (.int (5 : Int32)), .val (.int ((47 : Int32).toInt8.toInt32)), .val (.int ((0 : Int32) + (1 : Int32)))] [(.ref t1)])) := fun t h => k t (XS.aloadN X0.here hx rfl (hb hby own_d32_13) rfl rfl h)
    replace k : own_K p.tables e below (s₁.setTop (entryFrame m #[(.ref t1), (.int (47 : Int32)), (.int (0 : Int32)), (.int (5 : Int32))] 6)) (s₁.setTop (mkF m 16 #[.val (.ref t1), .val (.int (47 : Int32)), .val (.int (0 : Int32)), .val (.int (5 : Int32)), .val (.int ((47 : Int32).toInt8.toInt32)), .val (.int ((0 : Int32) + (1 : Int32)))] [(.int ((0 : Int32) + (1 : Int32))), (.ref t1)])) := fun t h => k t (XS.iload X0.here hx rfl (hb hby own_d32_14) rfl h)
    obtain ⟨cl8, Ar8, qa8, Sa8, Na8, Ha8, Ga8⟩ := id LK
    have hin8 : ¬ (((0 : Int32) + (1 : Int32)) < 0 ∨ cl8.slots.size ≤ (((0 : Int32) + (1 : Int32))).toNatClampNeg) := inb_of Sa8 ⟨by decide, by decide⟩
    have hat8 := Has.at (v := (.int (95 : Int32))) Ha8 hin8 rfl
    replace k : own_K p.tables e below (s₁.setTop (entryFrame m #[(.ref t1), (.int (47 : Int32)), (.int (0 : Int32)), (.int (5 : Int32))] 6)) (s₁.setTop (mkF m 17 #[.val (.ref t1), .val (.int (47 : Int32)), .val (.int (0 : Int32)), .val (.int (5 : Int32)), .val (.int ((47 : Int32).toInt8.toInt32)), .val (.int ((0 : Int32) + (1 : Int32)))] [(.int (95 : Int32))])) := fun t h => k t (X0.baloadBytes hx (j := ((0 : Int32) + (1 : Int32))) (v := (.int (95 : Int32))) (by rw [e0]; exact Ar8.1) (State.isArrayOf_alike hZ.alike Ar8.2.1) Ar8.2.2 hin8 hat8 (g := (mkF m 16 #[.val (.ref t1), .val (.int (47 : Int32)), .val (.int (0 : Int32)), .val (.int (5 : Int32)), .val (.int ((47 : Int32).toInt8.toInt32)), .val (.int ((0 : Int32) + (1 : Int32)))] [(.int ((0 : Int32) + (1 : Int32))), (.ref t1)])) rfl rfl (hb hby own_d32_16) _ h)
    replace k : own_K p.tables e below (s₁.setTop (entryFrame m #[(.ref t1), (.int (47 : Int32)), (.int (0 : Int32)), (.int (5 : Int32))] 6)) (s₁.setTop (mkF m 19 #[.val (.ref t1), .val (.int (47 : Int32)), .val (.int (0 : Int32)), .val (.int (5 : Int32)), .val (.int ((47 : Int32).toInt8.toInt32)), .val (.int ((0 : Int32) + (1 : Int32)))] [(.int ((47 : Int32).toInt8.toInt32)), (.int (95 : Int32))])) := fun t h => k t (XS.iload X0.here hx rfl (hb hby own_d32_17) rfl h)
    replace k : own_K p.tables e below (s₁.setTop (entryFrame m #[(.ref t1), (.int (47 : Int32)), (.int (0 : Int32)), (.int (5 : Int32))] 6)) (s₁.setTop (mkF m 25 #[.val (.ref t1), .val (.int (47 : Int32)), .val (.int (0 : Int32)), .val (.int (5 : Int32)), .val (.int ((47 : Int32).toInt8.toInt32)), .val (.int ((0 : Int32) + (1 : Int32)))] [])) := fun t h => k t (XS.icmpYes X0.here hx rfl (pc0 := 19) (pc' := 25) rfl (hb hby own_d32_19) rfl (feq (by decide : ¬ ((95 : Int32) = ((47 : Int32).toInt8.toInt32)))).2 (by decide) (by decide) h)
    replace k : own_K p.tables e below (s₁.setTop (entryFrame m #[(.ref t1), (.int (47 : Int32)), (.int (0 : Int32)), (.int (5 : Int32))] 6)) (s₁.setTop (mkF m 28 #[.val (.ref t1), .val (.int (47 : Int32)), .val (.int (0 : Int32)), .val (.int (5 : Int32)), .val (.int ((47 : Int32).toInt8.toInt32)), .val (.int (((0 : Int32) + (1 : Int32)) + (1 : Int32)))] [])) := fun t h => k t (XS.iinc X0.here hx rfl (hb hby own_d32_25) rfl (l' := #[.val (.ref t1), .val (.int (47 : Int32)), .val (.int (0 : Int32)), .val (.int (5 : Int32)), .val (.int ((47 : Int32).toInt8.toInt32)), .val (.int (((0 : Int32) + (1 : Int32)) + (1 : Int32)))]) rfl h)
    replace k : own_K p.tables e below (s₁.setTop (entryFrame m #[(.ref t1), (.int (47 : Int32)), (.int (0 : Int32)), (.int (5 : Int32))] 6)) (s₁.setTop (mkF m 7 #[.val (.ref t1), .val (.int (47 : Int32)), .val (.int (0 : Int32)), .val (.int (5 : Int32)), .val (.int ((47 : Int32).toInt8.toInt32)), .val (.int (((0 : Int32) + (1 : Int32)) + (1 : Int32)))] [])) := fun t h => k t (XS.goto X0.here hx rfl (pc0 := 28) (pc' := 7) rfl (hb hby own_d32_28) (by decide) (by decide) h)
    replace k : own_K p.tables e below (s₁.setTop (entryFrame m #[(.ref t1), (.int (47 : Int32)), (.int (0 : Int32)), (.int (5 : Int32))] 6)) (s₁.setTop (mkF m 9 #[.val (.ref t1), .val (.int (47 : Int32)), .val (.int (0 : Int32)), .val (.int (5 : Int32)), .val (.int ((47 : Int32).toInt8.toInt32)), .val (.int (((0 : Int32) + (1 : Int32)) + (1 : Int32)))] [(.int (((0 : Int32) + (1 : Int32)) + (1 : Int32)))])) := fun t h => k t (XS.iload X0.here hx rfl (hb hby own_d32_7) rfl h)
    replace k : own_K p.tables e below (s₁.setTop (entryFrame m #[(.ref t1), (.int (47 : Int32)), (.int (0 : Int32)), (.int (5 : Int32))] 6)) (s₁.setTop (mkF m 10 #[.val (.ref t1), .val (.int (47 : Int32)), .val (.int (0 : Int32)), .val (.int (5 : Int32)), .val (.int ((47 : Int32).toInt8.toInt32)), .val (.int (((0 : Int32) + (1 : Int32)) + (1 : Int32)))] [(.int (5 : Int32)), (.int (((0 : Int32) + (1 : Int32)) + (1 : Int32)))])) := fun t h => k t (XS.iloadN X0.here hx rfl (hb hby own_d32_9) rfl h)
    replace k : own_K p.tables e below (s₁.setTop (entryFrame m #[(.ref t1), (.int (47 : Int32)), (.int (0 : Int32)), (.int (5 : Int32))] 6)) (s₁.setTop (mkF m 13 #[.val (.ref t1), .val (.int (47 : Int32)), .val (.int (0 : Int32)), .val (.int (5 : Int32)), .val (.int ((47 : Int32).toInt8.toInt32)), .val (.int (((0 : Int32) + (1 : Int32)) + (1 : Int32)))] [])) := fun t h => k t (XS.icmpNo X0.here hx rfl (hb hby own_d32_10) rfl (tlt (by decide : (((0 : Int32) + (1 : Int32)) + (1 : Int32)) < (5 : Int32))).2.1 h)
    replace k : own_K p.tables e below (s₁.setTop (entryFrame m #[(.ref t1), (.int (47 : Int32)), (.int (0 : Int32)), (.int (5 : Int32))] 6)) (s₁.setTop (mkF m 14 #[.val (.ref t1), .val (.int (47 : Int32)), .val (.int (0 : Int32)), .val (.int (5 : Int32)), .val (.int ((47 : Int32).toInt8.toInt32)), .val (.int (((0 : Int32) + (1 : Int32)) + (1 : Int32)))] [(.ref t1)])) := fun t h => k t (XS.aloadN X0.here hx rfl (hb hby own_d32_13) rfl rfl h)
    replace k : own_K p.tables e below (s₁.setTop (entryFrame m #[(.ref t1), (.int (47 : Int32)), (.int (0 : Int32)), (.int (5 : Int32))] 6)) (s₁.setTop (mkF m 16 #[.val (.ref t1), .val (.int (47 : Int32)), .val (.int (0 : Int32)), .val (.int (5 : Int32)), .val (.int ((47 : Int32).toInt8.toInt32)), .val (.int (((0 : Int32) + (1 : Int32)) + (1 : Int32)))] [(.int (((0 : Int32) + (1 : Int32)) + (1 : Int32))), (.ref t1)])) := fun t h => k t (XS.iload X0.here hx rfl (hb hby own_d32_14) rfl h)
    obtain ⟨cl9, Ar9, qa9, Sa9, Na9, Ha9, Ga9⟩ := id LK
    have hin9 : ¬ ((((0 : Int32) + (1 : Int32)) + (1 : Int32)) < 0 ∨ cl9.slots.size ≤ ((((0 : Int32) + (1 : Int32)) + (1 : Int32))).toNatClampNeg) := inb_of Sa9 ⟨by decide, by decide⟩
    have hat9 := Has.at (v := (.int (58 : Int32))) Ha9 hin9 rfl
    replace k : own_K p.tables e below (s₁.setTop (entryFrame m #[(.ref t1), (.int (47 : Int32)), (.int (0 : Int32)), (.int (5 : Int32))] 6)) (s₁.setTop (mkF m 17 #[.val (.ref t1), .val (.int (47 : Int32)), .val (.int (0 : Int32)), .val (.int (5 : Int32)), .val (.int ((47 : Int32).toInt8.toInt32)), .val (.int (((0 : Int32) + (1 : Int32)) + (1 : Int32)))] [(.int (58 : Int32))])) := fun t h => k t (X0.baloadBytes hx (j := (((0 : Int32) + (1 : Int32)) + (1 : Int32))) (v := (.int (58 : Int32))) (by rw [e0]; exact Ar9.1) (State.isArrayOf_alike hZ.alike Ar9.2.1) Ar9.2.2 hin9 hat9 (g := (mkF m 16 #[.val (.ref t1), .val (.int (47 : Int32)), .val (.int (0 : Int32)), .val (.int (5 : Int32)), .val (.int ((47 : Int32).toInt8.toInt32)), .val (.int (((0 : Int32) + (1 : Int32)) + (1 : Int32)))] [(.int (((0 : Int32) + (1 : Int32)) + (1 : Int32))), (.ref t1)])) rfl rfl (hb hby own_d32_16) _ h)
    replace k : own_K p.tables e below (s₁.setTop (entryFrame m #[(.ref t1), (.int (47 : Int32)), (.int (0 : Int32)), (.int (5 : Int32))] 6)) (s₁.setTop (mkF m 19 #[.val (.ref t1), .val (.int (47 : Int32)), .val (.int (0 : Int32)), .val (.int (5 : Int32)), .val (.int ((47 : Int32).toInt8.toInt32)), .val (.int (((0 : Int32) + (1 : Int32)) + (1 : Int32)))] [(.int ((47 : Int32).toInt8.toInt32)), (.int (58 : Int32))])) := fun t h => k t (XS.iload X0.here hx rfl (hb hby own_d32_17) rfl h)
    replace k : own_K p.tables e below (s₁.setTop (entryFrame m #[(.ref t1), (.int (47 : Int32)), (.int (0 : Int32)), (.int (5 : Int32))] 6)) (s₁.setTop (mkF m 25 #[.val (.ref t1), .val (.int (47 : Int32)), .val (.int (0 : Int32)), .val (.int (5 : Int32)), .val (.int ((47 : Int32).toInt8.toInt32)), .val (.int (((0 : Int32) + (1 : Int32)) + (1 : Int32)))] [])) := fun t h => k t (XS.icmpYes X0.here hx rfl (pc0 := 19) (pc' := 25) rfl (hb hby own_d32_19) rfl (feq (by decide : ¬ ((58 : Int32) = ((47 : Int32).toInt8.toInt32)))).2 (by decide) (by decide) h)
    replace k : own_K p.tables e below (s₁.setTop (entryFrame m #[(.ref t1), (.int (47 : Int32)), (.int (0 : Int32)), (.int (5 : Int32))] 6)) (s₁.setTop (mkF m 28 #[.val (.ref t1), .val (.int (47 : Int32)), .val (.int (0 : Int32)), .val (.int (5 : Int32)), .val (.int ((47 : Int32).toInt8.toInt32)), .val (.int ((((0 : Int32) + (1 : Int32)) + (1 : Int32)) + (1 : Int32)))] [])) := fun t h => k t (XS.iinc X0.here hx rfl (hb hby own_d32_25) rfl (l' := #[.val (.ref t1), .val (.int (47 : Int32)), .val (.int (0 : Int32)), .val (.int (5 : Int32)), .val (.int ((47 : Int32).toInt8.toInt32)), .val (.int ((((0 : Int32) + (1 : Int32)) + (1 : Int32)) + (1 : Int32)))]) rfl h)
    replace k : own_K p.tables e below (s₁.setTop (entryFrame m #[(.ref t1), (.int (47 : Int32)), (.int (0 : Int32)), (.int (5 : Int32))] 6)) (s₁.setTop (mkF m 7 #[.val (.ref t1), .val (.int (47 : Int32)), .val (.int (0 : Int32)), .val (.int (5 : Int32)), .val (.int ((47 : Int32).toInt8.toInt32)), .val (.int ((((0 : Int32) + (1 : Int32)) + (1 : Int32)) + (1 : Int32)))] [])) := fun t h => k t (XS.goto X0.here hx rfl (pc0 := 28) (pc' := 7) rfl (hb hby own_d32_28) (by decide) (by decide) h)
    replace k : own_K p.tables e below (s₁.setTop (entryFrame m #[(.ref t1), (.int (47 : Int32)), (.int (0 : Int32)), (.int (5 : Int32))] 6)) (s₁.setTop (mkF m 9 #[.val (.ref t1), .val (.int (47 : Int32)), .val (.int (0 : Int32)), .val (.int (5 : Int32)), .val (.int ((47 : Int32).toInt8.toInt32)), .val (.int ((((0 : Int32) + (1 : Int32)) + (1 : Int32)) + (1 : Int32)))] [(.int ((((0 : Int32) + (1 : Int32)) + (1 : Int32)) + (1 : Int32)))])) := fun t h => k t (XS.iload X0.here hx rfl (hb hby own_d32_7) rfl h)
    replace k : own_K p.tables e below (s₁.setTop (entryFrame m #[(.ref t1), (.int (47 : Int32)), (.int (0 : Int32)), (.int (5 : Int32))] 6)) (s₁.setTop (mkF m 10 #[.val (.ref t1), .val (.int (47 : Int32)), .val (.int (0 : Int32)), .val (.int (5 : Int32)), .val (.int ((47 : Int32).toInt8.toInt32)), .val (.int ((((0 : Int32) + (1 : Int32)) + (1 : Int32)) + (1 : Int32)))] [(.int (5 : Int32)), (.int ((((0 : Int32) + (1 : Int32)) + (1 : Int32)) + (1 : Int32)))])) := fun t h => k t (XS.iloadN X0.here hx rfl (hb hby own_d32_9) rfl h)
    replace k : own_K p.tables e below (s₁.setTop (entryFrame m #[(.ref t1), (.int (47 : Int32)), (.int (0 : Int32)), (.int (5 : Int32))] 6)) (s₁.setTop (mkF m 13 #[.val (.ref t1), .val (.int (47 : Int32)), .val (.int (0 : Int32)), .val (.int (5 : Int32)), .val (.int ((47 : Int32).toInt8.toInt32)), .val (.int ((((0 : Int32) + (1 : Int32)) + (1 : Int32)) + (1 : Int32)))] [])) := fun t h => k t (XS.icmpNo X0.here hx rfl (hb hby own_d32_10) rfl (tlt (by decide : ((((0 : Int32) + (1 : Int32)) + (1 : Int32)) + (1 : Int32)) < (5 : Int32))).2.1 h)
    replace k : own_K p.tables e below (s₁.setTop (entryFrame m #[(.ref t1), (.int (47 : Int32)), (.int (0 : Int32)), (.int (5 : Int32))] 6)) (s₁.setTop (mkF m 14 #[.val (.ref t1), .val (.int (47 : Int32)), .val (.int (0 : Int32)), .val (.int (5 : Int32)), .val (.int ((47 : Int32).toInt8.toInt32)), .val (.int ((((0 : Int32) + (1 : Int32)) + (1 : Int32)) + (1 : Int32)))] [(.ref t1)])) := fun t h => k t (XS.aloadN X0.here hx rfl (hb hby own_d32_13) rfl rfl h)
    replace k : own_K p.tables e below (s₁.setTop (entryFrame m #[(.ref t1), (.int (47 : Int32)), (.int (0 : Int32)), (.int (5 : Int32))] 6)) (s₁.setTop (mkF m 16 #[.val (.ref t1), .val (.int (47 : Int32)), .val (.int (0 : Int32)), .val (.int (5 : Int32)), .val (.int ((47 : Int32).toInt8.toInt32)), .val (.int ((((0 : Int32) + (1 : Int32)) + (1 : Int32)) + (1 : Int32)))] [(.int ((((0 : Int32) + (1 : Int32)) + (1 : Int32)) + (1 : Int32))), (.ref t1)])) := fun t h => k t (XS.iload X0.here hx rfl (hb hby own_d32_14) rfl h)
    obtain ⟨cl10, Ar10, qa10, Sa10, Na10, Ha10, Ga10⟩ := id LK
    have hin10 : ¬ (((((0 : Int32) + (1 : Int32)) + (1 : Int32)) + (1 : Int32)) < 0 ∨ cl10.slots.size ≤ (((((0 : Int32) + (1 : Int32)) + (1 : Int32)) + (1 : Int32))).toNatClampNeg) := inb_of Sa10 ⟨by decide, by decide⟩
    have hat10 := Has.at (v := (.int (47 : Int32))) Ha10 hin10 rfl
    replace k : own_K p.tables e below (s₁.setTop (entryFrame m #[(.ref t1), (.int (47 : Int32)), (.int (0 : Int32)), (.int (5 : Int32))] 6)) (s₁.setTop (mkF m 17 #[.val (.ref t1), .val (.int (47 : Int32)), .val (.int (0 : Int32)), .val (.int (5 : Int32)), .val (.int ((47 : Int32).toInt8.toInt32)), .val (.int ((((0 : Int32) + (1 : Int32)) + (1 : Int32)) + (1 : Int32)))] [(.int (47 : Int32))])) := fun t h => k t (X0.baloadBytes hx (j := ((((0 : Int32) + (1 : Int32)) + (1 : Int32)) + (1 : Int32))) (v := (.int (47 : Int32))) (by rw [e0]; exact Ar10.1) (State.isArrayOf_alike hZ.alike Ar10.2.1) Ar10.2.2 hin10 hat10 (g := (mkF m 16 #[.val (.ref t1), .val (.int (47 : Int32)), .val (.int (0 : Int32)), .val (.int (5 : Int32)), .val (.int ((47 : Int32).toInt8.toInt32)), .val (.int ((((0 : Int32) + (1 : Int32)) + (1 : Int32)) + (1 : Int32)))] [(.int ((((0 : Int32) + (1 : Int32)) + (1 : Int32)) + (1 : Int32))), (.ref t1)])) rfl rfl (hb hby own_d32_16) _ h)
    replace k : own_K p.tables e below (s₁.setTop (entryFrame m #[(.ref t1), (.int (47 : Int32)), (.int (0 : Int32)), (.int (5 : Int32))] 6)) (s₁.setTop (mkF m 19 #[.val (.ref t1), .val (.int (47 : Int32)), .val (.int (0 : Int32)), .val (.int (5 : Int32)), .val (.int ((47 : Int32).toInt8.toInt32)), .val (.int ((((0 : Int32) + (1 : Int32)) + (1 : Int32)) + (1 : Int32)))] [(.int ((47 : Int32).toInt8.toInt32)), (.int (47 : Int32))])) := fun t h => k t (XS.iload X0.here hx rfl (hb hby own_d32_17) rfl h)
    replace k : own_K p.tables e below (s₁.setTop (entryFrame m #[(.ref t1), (.int (47 : Int32)), (.int (0 : Int32)), (.int (5 : Int32))] 6)) (s₁.setTop (mkF m 22 #[.val (.ref t1), .val (.int (47 : Int32)), .val (.int (0 : Int32)), .val (.int (5 : Int32)), .val (.int ((47 : Int32).toInt8.toInt32)), .val (.int ((((0 : Int32) + (1 : Int32)) + (1 : Int32)) + (1 : Int32)))] [])) := fun t h => k t (XS.icmpNo X0.here hx rfl (hb hby own_d32_19) rfl (teq (by decide : (47 : Int32) = ((47 : Int32).toInt8.toInt32))).2 h)
    replace k : own_K p.tables e below (s₁.setTop (entryFrame m #[(.ref t1), (.int (47 : Int32)), (.int (0 : Int32)), (.int (5 : Int32))] 6)) (s₁.setTop (mkF m 24 #[.val (.ref t1), .val (.int (47 : Int32)), .val (.int (0 : Int32)), .val (.int (5 : Int32)), .val (.int ((47 : Int32).toInt8.toInt32)), .val (.int ((((0 : Int32) + (1 : Int32)) + (1 : Int32)) + (1 : Int32)))] [(.int ((((0 : Int32) + (1 : Int32)) + (1 : Int32)) + (1 : Int32)))])) := fun t h => k t (XS.iload X0.here hx rfl (hb hby own_d32_22) rfl h)
    obtain ⟨fs, hr, hrun, hended, hW, hsame⟩ := X0.leave (v := some (.int ((((0 : Int32) + (1 : Int32)) + (1 : Int32)) + (1 : Int32)))) (fun h => by rw [Bd.returns] at h; cases h) Bd.notSynchronized
    refine ⟨_, _, k _ (retOut X0 hx Bd.returns rfl (Or.inl ⟨rfl, by simp, _, rfl⟩) (hb hby own_d32_24) hr), hrun, hended, _, _, rfl, ?_, ⟨_, rfl⟩, hW, hsame.mono (by decide) (by decide)⟩
    show Q5 Z t1 kb1 (47 : Int32) h0 n0 _ s₁.heap _
    rw [e0]
    exact ⟨(by decide), N0, rfl⟩
  · replace k : own_K p.tables e below (s₁.setTop (entryFrame m #[(.ref t1), (.int (45 : Int32)), (.int (0 : Int32)), (.int (5 : Int32))] 6)) (s₁.setTop (mkF m 1 #[.val (.ref t1), .val (.int (45 : Int32)), .val (.int (0 : Int32)), .val (.int (5 : Int32)), .unset, .unset] [(.int (45 : Int32))])) := fun t h => k t (XS.iloadN X0.here hx rfl (hb hby own_d32_0) rfl h)
    replace k : own_K p.tables e below (s₁.setTop (entryFrame m #[(.ref t1), (.int (45 : Int32)), (.int (0 : Int32)), (.int (5 : Int32))] 6)) (s₁.setTop (mkF m 2 #[.val (.ref t1), .val (.int (45 : Int32)), .val (.int (0 : Int32)), .val (.int (5 : Int32)), .unset, .unset] [(.int ((45 : Int32).toInt8.toInt32))])) := fun t h => k t (XS.i2b X0.here hx rfl (hb hby own_d32_1) rfl h)
    replace k : own_K p.tables e below (s₁.setTop (entryFrame m #[(.ref t1), (.int (45 : Int32)), (.int (0 : Int32)), (.int (5 : Int32))] 6)) (s₁.setTop (mkF m 4 #[.val (.ref t1), .val (.int (45 : Int32)), .val (.int (0 : Int32)), .val (.int (5 : Int32)), .val (.int ((45 : Int32).toInt8.toInt32)), .unset] [])) := fun t h => k t (XS.istore X0.here hx rfl (hb hby own_d32_2) rfl (l' := #[.val (.ref t1), .val (.int (45 : Int32)), .val (.int (0 : Int32)), .val (.int (5 : Int32)), .val (.int ((45 : Int32).toInt8.toInt32)), .unset]) rfl h)
    replace k : own_K p.tables e below (s₁.setTop (entryFrame m #[(.ref t1), (.int (45 : Int32)), (.int (0 : Int32)), (.int (5 : Int32))] 6)) (s₁.setTop (mkF m 5 #[.val (.ref t1), .val (.int (45 : Int32)), .val (.int (0 : Int32)), .val (.int (5 : Int32)), .val (.int ((45 : Int32).toInt8.toInt32)), .unset] [(.int (0 : Int32))])) := fun t h => k t (XS.iloadN X0.here hx rfl (hb hby own_d32_4) rfl h)
    replace k : own_K p.tables e below (s₁.setTop (entryFrame m #[(.ref t1), (.int (45 : Int32)), (.int (0 : Int32)), (.int (5 : Int32))] 6)) (s₁.setTop (mkF m 7 #[.val (.ref t1), .val (.int (45 : Int32)), .val (.int (0 : Int32)), .val (.int (5 : Int32)), .val (.int ((45 : Int32).toInt8.toInt32)), .val (.int (0 : Int32))] [])) := fun t h => k t (XS.istore X0.here hx rfl (hb hby own_d32_5) rfl (l' := #[.val (.ref t1), .val (.int (45 : Int32)), .val (.int (0 : Int32)), .val (.int (5 : Int32)), .val (.int ((45 : Int32).toInt8.toInt32)), .val (.int (0 : Int32))]) rfl h)
    replace k : own_K p.tables e below (s₁.setTop (entryFrame m #[(.ref t1), (.int (45 : Int32)), (.int (0 : Int32)), (.int (5 : Int32))] 6)) (s₁.setTop (mkF m 9 #[.val (.ref t1), .val (.int (45 : Int32)), .val (.int (0 : Int32)), .val (.int (5 : Int32)), .val (.int ((45 : Int32).toInt8.toInt32)), .val (.int (0 : Int32))] [(.int (0 : Int32))])) := fun t h => k t (XS.iload X0.here hx rfl (hb hby own_d32_7) rfl h)
    replace k : own_K p.tables e below (s₁.setTop (entryFrame m #[(.ref t1), (.int (45 : Int32)), (.int (0 : Int32)), (.int (5 : Int32))] 6)) (s₁.setTop (mkF m 10 #[.val (.ref t1), .val (.int (45 : Int32)), .val (.int (0 : Int32)), .val (.int (5 : Int32)), .val (.int ((45 : Int32).toInt8.toInt32)), .val (.int (0 : Int32))] [(.int (5 : Int32)), (.int (0 : Int32))])) := fun t h => k t (XS.iloadN X0.here hx rfl (hb hby own_d32_9) rfl h)
    replace k : own_K p.tables e below (s₁.setTop (entryFrame m #[(.ref t1), (.int (45 : Int32)), (.int (0 : Int32)), (.int (5 : Int32))] 6)) (s₁.setTop (mkF m 13 #[.val (.ref t1), .val (.int (45 : Int32)), .val (.int (0 : Int32)), .val (.int (5 : Int32)), .val (.int ((45 : Int32).toInt8.toInt32)), .val (.int (0 : Int32))] [])) := fun t h => k t (XS.icmpNo X0.here hx rfl (hb hby own_d32_10) rfl (tlt (by decide : (0 : Int32) < (5 : Int32))).2.1 h)
    replace k : own_K p.tables e below (s₁.setTop (entryFrame m #[(.ref t1), (.int (45 : Int32)), (.int (0 : Int32)), (.int (5 : Int32))] 6)) (s₁.setTop (mkF m 14 #[.val (.ref t1), .val (.int (45 : Int32)), .val (.int (0 : Int32)), .val (.int (5 : Int32)), .val (.int ((45 : Int32).toInt8.toInt32)), .val (.int (0 : Int32))] [(.ref t1)])) := fun t h => k t (XS.aloadN X0.here hx rfl (hb hby own_d32_13) rfl rfl h)
    replace k : own_K p.tables e below (s₁.setTop (entryFrame m #[(.ref t1), (.int (45 : Int32)), (.int (0 : Int32)), (.int (5 : Int32))] 6)) (s₁.setTop (mkF m 16 #[.val (.ref t1), .val (.int (45 : Int32)), .val (.int (0 : Int32)), .val (.int (5 : Int32)), .val (.int ((45 : Int32).toInt8.toInt32)), .val (.int (0 : Int32))] [(.int (0 : Int32)), (.ref t1)])) := fun t h => k t (XS.iload X0.here hx rfl (hb hby own_d32_14) rfl h)
    obtain ⟨cl11, Ar11, qa11, Sa11, Na11, Ha11, Ga11⟩ := id LK
    have hin11 : ¬ ((0 : Int32) < 0 ∨ cl11.slots.size ≤ ((0 : Int32)).toNatClampNeg) := inb_of Sa11 ⟨by decide, by decide⟩
    have hat11 := Has.at (v := (.int (46 : Int32))) Ha11 hin11 rfl
    replace k : own_K p.tables e below (s₁.setTop (entryFrame m #[(.ref t1), (.int (45 : Int32)), (.int (0 : Int32)), (.int (5 : Int32))] 6)) (s₁.setTop (mkF m 17 #[.val (.ref t1), .val (.int (45 : Int32)), .val (.int (0 : Int32)), .val (.int (5 : Int32)), .val (.int ((45 : Int32).toInt8.toInt32)), .val (.int (0 : Int32))] [(.int (46 : Int32))])) := fun t h => k t (X0.baloadBytes hx (j := (0 : Int32)) (v := (.int (46 : Int32))) (by rw [e0]; exact Ar11.1) (State.isArrayOf_alike hZ.alike Ar11.2.1) Ar11.2.2 hin11 hat11 (g := (mkF m 16 #[.val (.ref t1), .val (.int (45 : Int32)), .val (.int (0 : Int32)), .val (.int (5 : Int32)), .val (.int ((45 : Int32).toInt8.toInt32)), .val (.int (0 : Int32))] [(.int (0 : Int32)), (.ref t1)])) rfl rfl (hb hby own_d32_16) _ h)
    replace k : own_K p.tables e below (s₁.setTop (entryFrame m #[(.ref t1), (.int (45 : Int32)), (.int (0 : Int32)), (.int (5 : Int32))] 6)) (s₁.setTop (mkF m 19 #[.val (.ref t1), .val (.int (45 : Int32)), .val (.int (0 : Int32)), .val (.int (5 : Int32)), .val (.int ((45 : Int32).toInt8.toInt32)), .val (.int (0 : Int32))] [(.int ((45 : Int32).toInt8.toInt32)), (.int (46 : Int32))])) := fun t h => k t (XS.iload X0.here hx rfl (hb hby own_d32_17) rfl h)
    replace k : own_K p.tables e below (s₁.setTop (entryFrame m #[(.ref t1), (.int (45 : Int32)), (.int (0 : Int32)), (.int (5 : Int32))] 6)) (s₁.setTop (mkF m 25 #[.val (.ref t1), .val (.int (45 : Int32)), .val (.int (0 : Int32)), .val (.int (5 : Int32)), .val (.int ((45 : Int32).toInt8.toInt32)), .val (.int (0 : Int32))] [])) := fun t h => k t (XS.icmpYes X0.here hx rfl (pc0 := 19) (pc' := 25) rfl (hb hby own_d32_19) rfl (feq (by decide : ¬ ((46 : Int32) = ((45 : Int32).toInt8.toInt32)))).2 (by decide) (by decide) h)
    replace k : own_K p.tables e below (s₁.setTop (entryFrame m #[(.ref t1), (.int (45 : Int32)), (.int (0 : Int32)), (.int (5 : Int32))] 6)) (s₁.setTop (mkF m 28 #[.val (.ref t1), .val (.int (45 : Int32)), .val (.int (0 : Int32)), .val (.int (5 : Int32)), .val (.int ((45 : Int32).toInt8.toInt32)), .val (.int ((0 : Int32) + (1 : Int32)))] [])) := fun t h => k t (XS.iinc X0.here hx rfl (hb hby own_d32_25) rfl (l' := #[.val (.ref t1), .val (.int (45 : Int32)), .val (.int (0 : Int32)), .val (.int (5 : Int32)), .val (.int ((45 : Int32).toInt8.toInt32)), .val (.int ((0 : Int32) + (1 : Int32)))]) rfl h)
    replace k : own_K p.tables e below (s₁.setTop (entryFrame m #[(.ref t1), (.int (45 : Int32)), (.int (0 : Int32)), (.int (5 : Int32))] 6)) (s₁.setTop (mkF m 7 #[.val (.ref t1), .val (.int (45 : Int32)), .val (.int (0 : Int32)), .val (.int (5 : Int32)), .val (.int ((45 : Int32).toInt8.toInt32)), .val (.int ((0 : Int32) + (1 : Int32)))] [])) := fun t h => k t (XS.goto X0.here hx rfl (pc0 := 28) (pc' := 7) rfl (hb hby own_d32_28) (by decide) (by decide) h)
    replace k : own_K p.tables e below (s₁.setTop (entryFrame m #[(.ref t1), (.int (45 : Int32)), (.int (0 : Int32)), (.int (5 : Int32))] 6)) (s₁.setTop (mkF m 9 #[.val (.ref t1), .val (.int (45 : Int32)), .val (.int (0 : Int32)), .val (.int (5 : Int32)), .val (.int ((45 : Int32).toInt8.toInt32)), .val (.int ((0 : Int32) + (1 : Int32)))] [(.int ((0 : Int32) + (1 : Int32)))])) := fun t h => k t (XS.iload X0.here hx rfl (hb hby own_d32_7) rfl h)
    replace k : own_K p.tables e below (s₁.setTop (entryFrame m #[(.ref t1), (.int (45 : Int32)), (.int (0 : Int32)), (.int (5 : Int32))] 6)) (s₁.setTop (mkF m 10 #[.val (.ref t1), .val (.int (45 : Int32)), .val (.int (0 : Int32)), .val (.int (5 : Int32)), .val (.int ((45 : Int32).toInt8.toInt32)), .val (.int ((0 : Int32) + (1 : Int32)))] [(.int (5 : Int32)), (.int ((0 : Int32) + (1 : Int32)))])) := fun t h => k t (XS.iloadN X0.here hx rfl (hb hby own_d32_9) rfl h)
    replace k : own_K p.tables e below (s₁.setTop (entryFrame m #[(.ref t1), (.int (45 : Int32)), (.int (0 : Int32)), (.int (5 : Int32))] 6)) (s₁.setTop (mkF m 13 #[.val (.ref t1), .val (.int (45 : Int32)), .val (.int (0 : Int32)), .val (.int (5 : Int32)), .val (.int ((45 : Int32).toInt8.toInt32)), .val (.int ((0 : Int32) + (1 : Int32)))] [])) := fun t h => k t (XS.icmpNo X0.here hx rfl (hb hby own_d32_10) rfl (tlt (by decide : ((0 : Int32) + (1 : Int32)) < (5 : Int32))).2.1 h)
    replace k : own_K p.tables e below (s₁.setTop (entryFrame m #[(.ref t1), (.int (45 : Int32)), (.int (0 : Int32)), (.int (5 : Int32))] 6)) (s₁.setTop (mkF m 14 #[.val (.ref t1), .val (.int (45 : Int32)), .val (.int (0 : Int32)), .val (.int (5 : Int32)), .val (.int ((45 : Int32).toInt8.toInt32)), .val (.int ((0 : Int32) + (1 : Int32)))] [(.ref t1)])) := fun t h => k t (XS.aloadN X0.here hx rfl (hb hby own_d32_13) rfl rfl h)
    replace k : own_K p.tables e below (s₁.setTop (entryFrame m #[(.ref t1), (.int (45 : Int32)), (.int (0 : Int32)), (.int (5 : Int32))] 6)) (s₁.setTop (mkF m 16 #[.val (.ref t1), .val (.int (45 : Int32)), .val (.int (0 : Int32)), .val (.int (5 : Int32)), .val (.int ((45 : Int32).toInt8.toInt32)), .val (.int ((0 : Int32) + (1 : Int32)))] [(.int ((0 : Int32) + (1 : Int32))), (.ref t1)])) := fun t h => k t (XS.iload X0.here hx rfl (hb hby own_d32_14) rfl h)
    obtain ⟨cl12, Ar12, qa12, Sa12, Na12, Ha12, Ga12⟩ := id LK
    have hin12 : ¬ (((0 : Int32) + (1 : Int32)) < 0 ∨ cl12.slots.size ≤ (((0 : Int32) + (1 : Int32))).toNatClampNeg) := inb_of Sa12 ⟨by decide, by decide⟩
    have hat12 := Has.at (v := (.int (95 : Int32))) Ha12 hin12 rfl
    replace k : own_K p.tables e below (s₁.setTop (entryFrame m #[(.ref t1), (.int (45 : Int32)), (.int (0 : Int32)), (.int (5 : Int32))] 6)) (s₁.setTop (mkF m 17 #[.val (.ref t1), .val (.int (45 : Int32)), .val (.int (0 : Int32)), .val (.int (5 : Int32)), .val (.int ((45 : Int32).toInt8.toInt32)), .val (.int ((0 : Int32) + (1 : Int32)))] [(.int (95 : Int32))])) := fun t h => k t (X0.baloadBytes hx (j := ((0 : Int32) + (1 : Int32))) (v := (.int (95 : Int32))) (by rw [e0]; exact Ar12.1) (State.isArrayOf_alike hZ.alike Ar12.2.1) Ar12.2.2 hin12 hat12 (g := (mkF m 16 #[.val (.ref t1), .val (.int (45 : Int32)), .val (.int (0 : Int32)), .val (.int (5 : Int32)), .val (.int ((45 : Int32).toInt8.toInt32)), .val (.int ((0 : Int32) + (1 : Int32)))] [(.int ((0 : Int32) + (1 : Int32))), (.ref t1)])) rfl rfl (hb hby own_d32_16) _ h)
    replace k : own_K p.tables e below (s₁.setTop (entryFrame m #[(.ref t1), (.int (45 : Int32)), (.int (0 : Int32)), (.int (5 : Int32))] 6)) (s₁.setTop (mkF m 19 #[.val (.ref t1), .val (.int (45 : Int32)), .val (.int (0 : Int32)), .val (.int (5 : Int32)), .val (.int ((45 : Int32).toInt8.toInt32)), .val (.int ((0 : Int32) + (1 : Int32)))] [(.int ((45 : Int32).toInt8.toInt32)), (.int (95 : Int32))])) := fun t h => k t (XS.iload X0.here hx rfl (hb hby own_d32_17) rfl h)
    replace k : own_K p.tables e below (s₁.setTop (entryFrame m #[(.ref t1), (.int (45 : Int32)), (.int (0 : Int32)), (.int (5 : Int32))] 6)) (s₁.setTop (mkF m 25 #[.val (.ref t1), .val (.int (45 : Int32)), .val (.int (0 : Int32)), .val (.int (5 : Int32)), .val (.int ((45 : Int32).toInt8.toInt32)), .val (.int ((0 : Int32) + (1 : Int32)))] [])) := fun t h => k t (XS.icmpYes X0.here hx rfl (pc0 := 19) (pc' := 25) rfl (hb hby own_d32_19) rfl (feq (by decide : ¬ ((95 : Int32) = ((45 : Int32).toInt8.toInt32)))).2 (by decide) (by decide) h)
    replace k : own_K p.tables e below (s₁.setTop (entryFrame m #[(.ref t1), (.int (45 : Int32)), (.int (0 : Int32)), (.int (5 : Int32))] 6)) (s₁.setTop (mkF m 28 #[.val (.ref t1), .val (.int (45 : Int32)), .val (.int (0 : Int32)), .val (.int (5 : Int32)), .val (.int ((45 : Int32).toInt8.toInt32)), .val (.int (((0 : Int32) + (1 : Int32)) + (1 : Int32)))] [])) := fun t h => k t (XS.iinc X0.here hx rfl (hb hby own_d32_25) rfl (l' := #[.val (.ref t1), .val (.int (45 : Int32)), .val (.int (0 : Int32)), .val (.int (5 : Int32)), .val (.int ((45 : Int32).toInt8.toInt32)), .val (.int (((0 : Int32) + (1 : Int32)) + (1 : Int32)))]) rfl h)
    replace k : own_K p.tables e below (s₁.setTop (entryFrame m #[(.ref t1), (.int (45 : Int32)), (.int (0 : Int32)), (.int (5 : Int32))] 6)) (s₁.setTop (mkF m 7 #[.val (.ref t1), .val (.int (45 : Int32)), .val (.int (0 : Int32)), .val (.int (5 : Int32)), .val (.int ((45 : Int32).toInt8.toInt32)), .val (.int (((0 : Int32) + (1 : Int32)) + (1 : Int32)))] [])) := fun t h => k t (XS.goto X0.here hx rfl (pc0 := 28) (pc' := 7) rfl (hb hby own_d32_28) (by decide) (by decide) h)
    replace k : own_K p.tables e below (s₁.setTop (entryFrame m #[(.ref t1), (.int (45 : Int32)), (.int (0 : Int32)), (.int (5 : Int32))] 6)) (s₁.setTop (mkF m 9 #[.val (.ref t1), .val (.int (45 : Int32)), .val (.int (0 : Int32)), .val (.int (5 : Int32)), .val (.int ((45 : Int32).toInt8.toInt32)), .val (.int (((0 : Int32) + (1 : Int32)) + (1 : Int32)))] [(.int (((0 : Int32) + (1 : Int32)) + (1 : Int32)))])) := fun t h => k t (XS.iload X0.here hx rfl (hb hby own_d32_7) rfl h)
    replace k : own_K p.tables e below (s₁.setTop (entryFrame m #[(.ref t1), (.int (45 : Int32)), (.int (0 : Int32)), (.int (5 : Int32))] 6)) (s₁.setTop (mkF m 10 #[.val (.ref t1), .val (.int (45 : Int32)), .val (.int (0 : Int32)), .val (.int (5 : Int32)), .val (.int ((45 : Int32).toInt8.toInt32)), .val (.int (((0 : Int32) + (1 : Int32)) + (1 : Int32)))] [(.int (5 : Int32)), (.int (((0 : Int32) + (1 : Int32)) + (1 : Int32)))])) := fun t h => k t (XS.iloadN X0.here hx rfl (hb hby own_d32_9) rfl h)
    replace k : own_K p.tables e below (s₁.setTop (entryFrame m #[(.ref t1), (.int (45 : Int32)), (.int (0 : Int32)), (.int (5 : Int32))] 6)) (s₁.setTop (mkF m 13 #[.val (.ref t1), .val (.int (45 : Int32)), .val (.int (0 : Int32)), .val (.int (5 : Int32)), .val (.int ((45 : Int32).toInt8.toInt32)), .val (.int (((0 : Int32) + (1 : Int32)) + (1 : Int32)))] [])) := fun t h => k t (XS.icmpNo X0.here hx rfl (hb hby own_d32_10) rfl (tlt (by decide : (((0 : Int32) + (1 : Int32)) + (1 : Int32)) < (5 : Int32))).2.1 h)
    replace k : own_K p.tables e below (s₁.setTop (entryFrame m #[(.ref t1), (.int (45 : Int32)), (.int (0 : Int32)), (.int (5 : Int32))] 6)) (s₁.setTop (mkF m 14 #[.val (.ref t1), .val (.int (45 : Int32)), .val (.int (0 : Int32)), .val (.int (5 : Int32)), .val (.int ((45 : Int32).toInt8.toInt32)), .val (.int (((0 : Int32) + (1 : Int32)) + (1 : Int32)))] [(.ref t1)])) := fun t h => k t (XS.aloadN X0.here hx rfl (hb hby own_d32_13) rfl rfl h)
    replace k : own_K p.tables e below (s₁.setTop (entryFrame m #[(.ref t1), (.int (45 : Int32)), (.int (0 : Int32)), (.int (5 : Int32))] 6)) (s₁.setTop (mkF m 16 #[.val (.ref t1), .val (.int (45 : Int32)), .val (.int (0 : Int32)), .val (.int (5 : Int32)), .val (.int ((45 : Int32).toInt8.toInt32)), .val (.int (((0 : Int32) + (1 : Int32)) + (1 : Int32)))] [(.int (((0 : Int32) + (1 : Int32)) + (1 : Int32))), (.ref t1)])) := fun t h => k t (XS.iload X0.here hx rfl (hb hby own_d32_14) rfl h)
    obtain ⟨cl13, Ar13, qa13, Sa13, Na13, Ha13, Ga13⟩ := id LK
    have hin13 : ¬ ((((0 : Int32) + (1 : Int32)) + (1 : Int32)) < 0 ∨ cl13.slots.size ≤ ((((0 : Int32) + (1 : Int32)) + (1 : Int32))).toNatClampNeg) := inb_of Sa13 ⟨by decide, by decide⟩
    have hat13 := Has.at (v := (.int (58 : Int32))) Ha13 hin13 rfl
    replace k : own_K p.tables e below (s₁.setTop (entryFrame m #[(.ref t1), (.int (45 : Int32)), (.int (0 : Int32)), (.int (5 : Int32))] 6)) (s₁.setTop (mkF m 17 #[.val (.ref t1), .val (.int (45 : Int32)), .val (.int (0 : Int32)), .val (.int (5 : Int32)), .val (.int ((45 : Int32).toInt8.toInt32)), .val (.int (((0 : Int32) + (1 : Int32)) + (1 : Int32)))] [(.int (58 : Int32))])) := fun t h => k t (X0.baloadBytes hx (j := (((0 : Int32) + (1 : Int32)) + (1 : Int32))) (v := (.int (58 : Int32))) (by rw [e0]; exact Ar13.1) (State.isArrayOf_alike hZ.alike Ar13.2.1) Ar13.2.2 hin13 hat13 (g := (mkF m 16 #[.val (.ref t1), .val (.int (45 : Int32)), .val (.int (0 : Int32)), .val (.int (5 : Int32)), .val (.int ((45 : Int32).toInt8.toInt32)), .val (.int (((0 : Int32) + (1 : Int32)) + (1 : Int32)))] [(.int (((0 : Int32) + (1 : Int32)) + (1 : Int32))), (.ref t1)])) rfl rfl (hb hby own_d32_16) _ h)
    replace k : own_K p.tables e below (s₁.setTop (entryFrame m #[(.ref t1), (.int (45 : Int32)), (.int (0 : Int32)), (.int (5 : Int32))] 6)) (s₁.setTop (mkF m 19 #[.val (.ref t1), .val (.int (45 : Int32)), .val (.int (0 : Int32)), .val (.int (5 : Int32)), .val (.int ((45 : Int32).toInt8.toInt32)), .val (.int (((0 : Int32) + (1 : Int32)) + (1 : Int32)))] [(.int ((45 : Int32).toInt8.toInt32)), (.int (58 : Int32))])) := fun t h => k t (XS.iload X0.here hx rfl (hb hby own_d32_17) rfl h)
    replace k : own_K p.tables e below (s₁.setTop (entryFrame m #[(.ref t1), (.int (45 : Int32)), (.int (0 : Int32)), (.int (5 : Int32))] 6)) (s₁.setTop (mkF m 25 #[.val (.ref t1), .val (.int (45 : Int32)), .val (.int (0 : Int32)), .val (.int (5 : Int32)), .val (.int ((45 : Int32).toInt8.toInt32)), .val (.int (((0 : Int32) + (1 : Int32)) + (1 : Int32)))] [])) := fun t h => k t (XS.icmpYes X0.here hx rfl (pc0 := 19) (pc' := 25) rfl (hb hby own_d32_19) rfl (feq (by decide : ¬ ((58 : Int32) = ((45 : Int32).toInt8.toInt32)))).2 (by decide) (by decide) h)
    replace k : own_K p.tables e below (s₁.setTop (entryFrame m #[(.ref t1), (.int (45 : Int32)), (.int (0 : Int32)), (.int (5 : Int32))] 6)) (s₁.setTop (mkF m 28 #[.val (.ref t1), .val (.int (45 : Int32)), .val (.int (0 : Int32)), .val (.int (5 : Int32)), .val (.int ((45 : Int32).toInt8.toInt32)), .val (.int ((((0 : Int32) + (1 : Int32)) + (1 : Int32)) + (1 : Int32)))] [])) := fun t h => k t (XS.iinc X0.here hx rfl (hb hby own_d32_25) rfl (l' := #[.val (.ref t1), .val (.int (45 : Int32)), .val (.int (0 : Int32)), .val (.int (5 : Int32)), .val (.int ((45 : Int32).toInt8.toInt32)), .val (.int ((((0 : Int32) + (1 : Int32)) + (1 : Int32)) + (1 : Int32)))]) rfl h)
    replace k : own_K p.tables e below (s₁.setTop (entryFrame m #[(.ref t1), (.int (45 : Int32)), (.int (0 : Int32)), (.int (5 : Int32))] 6)) (s₁.setTop (mkF m 7 #[.val (.ref t1), .val (.int (45 : Int32)), .val (.int (0 : Int32)), .val (.int (5 : Int32)), .val (.int ((45 : Int32).toInt8.toInt32)), .val (.int ((((0 : Int32) + (1 : Int32)) + (1 : Int32)) + (1 : Int32)))] [])) := fun t h => k t (XS.goto X0.here hx rfl (pc0 := 28) (pc' := 7) rfl (hb hby own_d32_28) (by decide) (by decide) h)
    replace k : own_K p.tables e below (s₁.setTop (entryFrame m #[(.ref t1), (.int (45 : Int32)), (.int (0 : Int32)), (.int (5 : Int32))] 6)) (s₁.setTop (mkF m 9 #[.val (.ref t1), .val (.int (45 : Int32)), .val (.int (0 : Int32)), .val (.int (5 : Int32)), .val (.int ((45 : Int32).toInt8.toInt32)), .val (.int ((((0 : Int32) + (1 : Int32)) + (1 : Int32)) + (1 : Int32)))] [(.int ((((0 : Int32) + (1 : Int32)) + (1 : Int32)) + (1 : Int32)))])) := fun t h => k t (XS.iload X0.here hx rfl (hb hby own_d32_7) rfl h)
    replace k : own_K p.tables e below (s₁.setTop (entryFrame m #[(.ref t1), (.int (45 : Int32)), (.int (0 : Int32)), (.int (5 : Int32))] 6)) (s₁.setTop (mkF m 10 #[.val (.ref t1), .val (.int (45 : Int32)), .val (.int (0 : Int32)), .val (.int (5 : Int32)), .val (.int ((45 : Int32).toInt8.toInt32)), .val (.int ((((0 : Int32) + (1 : Int32)) + (1 : Int32)) + (1 : Int32)))] [(.int (5 : Int32)), (.int ((((0 : Int32) + (1 : Int32)) + (1 : Int32)) + (1 : Int32)))])) := fun t h => k t (XS.iloadN X0.here hx rfl (hb hby own_d32_9) rfl h)
    replace k : own_K p.tables e below (s₁.setTop (entryFrame m #[(.ref t1), (.int (45 : Int32)), (.int (0 : Int32)), (.int (5 : Int32))] 6)) (s₁.setTop (mkF m 13 #[.val (.ref t1), .val (.int (45 : Int32)), .val (.int (0 : Int32)), .val (.int (5 : Int32)), .val (.int ((45 : Int32).toInt8.toInt32)), .val (.int ((((0 : Int32) + (1 : Int32)) + (1 : Int32)) + (1 : Int32)))] [])) := fun t h => k t (XS.icmpNo X0.here hx rfl (hb hby own_d32_10) rfl (tlt (by decide : ((((0 : Int32) + (1 : Int32)) + (1 : Int32)) + (1 : Int32)) < (5 : Int32))).2.1 h)
    replace k : own_K p.tables e below (s₁.setTop (entryFrame m #[(.ref t1), (.int (45 : Int32)), (.int (0 : Int32)), (.int (5 : Int32))] 6)) (s₁.setTop (mkF m 14 #[.val (.ref t1), .val (.int (45 : Int32)), .val (.int (0 : Int32)), .val (.int (5 : Int32)), .val (.int ((45 : Int32).toInt8.toInt32)), .val (.int ((((0 : Int32) + (1 : Int32)) + (1 : Int32)) + (1 : Int32)))] [(.ref t1)])) := fun t h => k t (XS.aloadN X0.here hx rfl (hb hby own_d32_13) rfl rfl h)
    replace k : own_K p.tables e below (s₁.setTop (entryFrame m #[(.ref t1), (.int (45 : Int32)), (.int (0 : Int32)), (.int (5 : Int32))] 6)) (s₁.setTop (mkF m 16 #[.val (.ref t1), .val (.int (45 : Int32)), .val (.int (0 : Int32)), .val (.int (5 : Int32)), .val (.int ((45 : Int32).toInt8.toInt32)), .val (.int ((((0 : Int32) + (1 : Int32)) + (1 : Int32)) + (1 : Int32)))] [(.int ((((0 : Int32) + (1 : Int32)) + (1 : Int32)) + (1 : Int32))), (.ref t1)])) := fun t h => k t (XS.iload X0.here hx rfl (hb hby own_d32_14) rfl h)
    obtain ⟨cl14, Ar14, qa14, Sa14, Na14, Ha14, Ga14⟩ := id LK
    have hin14 : ¬ (((((0 : Int32) + (1 : Int32)) + (1 : Int32)) + (1 : Int32)) < 0 ∨ cl14.slots.size ≤ (((((0 : Int32) + (1 : Int32)) + (1 : Int32)) + (1 : Int32))).toNatClampNeg) := inb_of Sa14 ⟨by decide, by decide⟩
    have hat14 := Has.at (v := (.int (47 : Int32))) Ha14 hin14 rfl
    replace k : own_K p.tables e below (s₁.setTop (entryFrame m #[(.ref t1), (.int (45 : Int32)), (.int (0 : Int32)), (.int (5 : Int32))] 6)) (s₁.setTop (mkF m 17 #[.val (.ref t1), .val (.int (45 : Int32)), .val (.int (0 : Int32)), .val (.int (5 : Int32)), .val (.int ((45 : Int32).toInt8.toInt32)), .val (.int ((((0 : Int32) + (1 : Int32)) + (1 : Int32)) + (1 : Int32)))] [(.int (47 : Int32))])) := fun t h => k t (X0.baloadBytes hx (j := ((((0 : Int32) + (1 : Int32)) + (1 : Int32)) + (1 : Int32))) (v := (.int (47 : Int32))) (by rw [e0]; exact Ar14.1) (State.isArrayOf_alike hZ.alike Ar14.2.1) Ar14.2.2 hin14 hat14 (g := (mkF m 16 #[.val (.ref t1), .val (.int (45 : Int32)), .val (.int (0 : Int32)), .val (.int (5 : Int32)), .val (.int ((45 : Int32).toInt8.toInt32)), .val (.int ((((0 : Int32) + (1 : Int32)) + (1 : Int32)) + (1 : Int32)))] [(.int ((((0 : Int32) + (1 : Int32)) + (1 : Int32)) + (1 : Int32))), (.ref t1)])) rfl rfl (hb hby own_d32_16) _ h)
    replace k : own_K p.tables e below (s₁.setTop (entryFrame m #[(.ref t1), (.int (45 : Int32)), (.int (0 : Int32)), (.int (5 : Int32))] 6)) (s₁.setTop (mkF m 19 #[.val (.ref t1), .val (.int (45 : Int32)), .val (.int (0 : Int32)), .val (.int (5 : Int32)), .val (.int ((45 : Int32).toInt8.toInt32)), .val (.int ((((0 : Int32) + (1 : Int32)) + (1 : Int32)) + (1 : Int32)))] [(.int ((45 : Int32).toInt8.toInt32)), (.int (47 : Int32))])) := fun t h => k t (XS.iload X0.here hx rfl (hb hby own_d32_17) rfl h)
    replace k : own_K p.tables e below (s₁.setTop (entryFrame m #[(.ref t1), (.int (45 : Int32)), (.int (0 : Int32)), (.int (5 : Int32))] 6)) (s₁.setTop (mkF m 25 #[.val (.ref t1), .val (.int (45 : Int32)), .val (.int (0 : Int32)), .val (.int (5 : Int32)), .val (.int ((45 : Int32).toInt8.toInt32)), .val (.int ((((0 : Int32) + (1 : Int32)) + (1 : Int32)) + (1 : Int32)))] [])) := fun t h => k t (XS.icmpYes X0.here hx rfl (pc0 := 19) (pc' := 25) rfl (hb hby own_d32_19) rfl (feq (by decide : ¬ ((47 : Int32) = ((45 : Int32).toInt8.toInt32)))).2 (by decide) (by decide) h)
    replace k : own_K p.tables e below (s₁.setTop (entryFrame m #[(.ref t1), (.int (45 : Int32)), (.int (0 : Int32)), (.int (5 : Int32))] 6)) (s₁.setTop (mkF m 28 #[.val (.ref t1), .val (.int (45 : Int32)), .val (.int (0 : Int32)), .val (.int (5 : Int32)), .val (.int ((45 : Int32).toInt8.toInt32)), .val (.int (((((0 : Int32) + (1 : Int32)) + (1 : Int32)) + (1 : Int32)) + (1 : Int32)))] [])) := fun t h => k t (XS.iinc X0.here hx rfl (hb hby own_d32_25) rfl (l' := #[.val (.ref t1), .val (.int (45 : Int32)), .val (.int (0 : Int32)), .val (.int (5 : Int32)), .val (.int ((45 : Int32).toInt8.toInt32)), .val (.int (((((0 : Int32) + (1 : Int32)) + (1 : Int32)) + (1 : Int32)) + (1 : Int32)))]) rfl h)
    replace k : own_K p.tables e below (s₁.setTop (entryFrame m #[(.ref t1), (.int (45 : Int32)), (.int (0 : Int32)), (.int (5 : Int32))] 6)) (s₁.setTop (mkF m 7 #[.val (.ref t1), .val (.int (45 : Int32)), .val (.int (0 : Int32)), .val (.int (5 : Int32)), .val (.int ((45 : Int32).toInt8.toInt32)), .val (.int (((((0 : Int32) + (1 : Int32)) + (1 : Int32)) + (1 : Int32)) + (1 : Int32)))] [])) := fun t h => k t (XS.goto X0.here hx rfl (pc0 := 28) (pc' := 7) rfl (hb hby own_d32_28) (by decide) (by decide) h)
    replace k : own_K p.tables e below (s₁.setTop (entryFrame m #[(.ref t1), (.int (45 : Int32)), (.int (0 : Int32)), (.int (5 : Int32))] 6)) (s₁.setTop (mkF m 9 #[.val (.ref t1), .val (.int (45 : Int32)), .val (.int (0 : Int32)), .val (.int (5 : Int32)), .val (.int ((45 : Int32).toInt8.toInt32)), .val (.int (((((0 : Int32) + (1 : Int32)) + (1 : Int32)) + (1 : Int32)) + (1 : Int32)))] [(.int (((((0 : Int32) + (1 : Int32)) + (1 : Int32)) + (1 : Int32)) + (1 : Int32)))])) := fun t h => k t (XS.iload X0.here hx rfl (hb hby own_d32_7) rfl h)
    replace k : own_K p.tables e below (s₁.setTop (entryFrame m #[(.ref t1), (.int (45 : Int32)), (.int (0 : Int32)), (.int (5 : Int32))] 6)) (s₁.setTop (mkF m 10 #[.val (.ref t1), .val (.int (45 : Int32)), .val (.int (0 : Int32)), .val (.int (5 : Int32)), .val (.int ((45 : Int32).toInt8.toInt32)), .val (.int (((((0 : Int32) + (1 : Int32)) + (1 : Int32)) + (1 : Int32)) + (1 : Int32)))] [(.int (5 : Int32)), (.int (((((0 : Int32) + (1 : Int32)) + (1 : Int32)) + (1 : Int32)) + (1 : Int32)))])) := fun t h => k t (XS.iloadN X0.here hx rfl (hb hby own_d32_9) rfl h)
    replace k : own_K p.tables e below (s₁.setTop (entryFrame m #[(.ref t1), (.int (45 : Int32)), (.int (0 : Int32)), (.int (5 : Int32))] 6)) (s₁.setTop (mkF m 13 #[.val (.ref t1), .val (.int (45 : Int32)), .val (.int (0 : Int32)), .val (.int (5 : Int32)), .val (.int ((45 : Int32).toInt8.toInt32)), .val (.int (((((0 : Int32) + (1 : Int32)) + (1 : Int32)) + (1 : Int32)) + (1 : Int32)))] [])) := fun t h => k t (XS.icmpNo X0.here hx rfl (hb hby own_d32_10) rfl (tlt (by decide : (((((0 : Int32) + (1 : Int32)) + (1 : Int32)) + (1 : Int32)) + (1 : Int32)) < (5 : Int32))).2.1 h)
    replace k : own_K p.tables e below (s₁.setTop (entryFrame m #[(.ref t1), (.int (45 : Int32)), (.int (0 : Int32)), (.int (5 : Int32))] 6)) (s₁.setTop (mkF m 14 #[.val (.ref t1), .val (.int (45 : Int32)), .val (.int (0 : Int32)), .val (.int (5 : Int32)), .val (.int ((45 : Int32).toInt8.toInt32)), .val (.int (((((0 : Int32) + (1 : Int32)) + (1 : Int32)) + (1 : Int32)) + (1 : Int32)))] [(.ref t1)])) := fun t h => k t (XS.aloadN X0.here hx rfl (hb hby own_d32_13) rfl rfl h)
    replace k : own_K p.tables e below (s₁.setTop (entryFrame m #[(.ref t1), (.int (45 : Int32)), (.int (0 : Int32)), (.int (5 : Int32))] 6)) (s₁.setTop (mkF m 16 #[.val (.ref t1), .val (.int (45 : Int32)), .val (.int (0 : Int32)), .val (.int (5 : Int32)), .val (.int ((45 : Int32).toInt8.toInt32)), .val (.int (((((0 : Int32) + (1 : Int32)) + (1 : Int32)) + (1 : Int32)) + (1 : Int32)))] [(.int (((((0 : Int32) + (1 : Int32)) + (1 : Int32)) + (1 : Int32)) + (1 : Int32))), (.ref t1)])) := fun t h => k t (XS.iload X0.here hx rfl (hb hby own_d32_14) rfl h)
    obtain ⟨cl15, Ar15, qa15, Sa15, Na15, Ha15, Ga15⟩ := id LK
    have hin15 : ¬ ((((((0 : Int32) + (1 : Int32)) + (1 : Int32)) + (1 : Int32)) + (1 : Int32)) < 0 ∨ cl15.slots.size ≤ ((((((0 : Int32) + (1 : Int32)) + (1 : Int32)) + (1 : Int32)) + (1 : Int32))).toNatClampNeg) := inb_of Sa15 ⟨by decide, by decide⟩
    have hat15 := Has.at (v := (.int (45 : Int32))) Ha15 hin15 rfl
    replace k : own_K p.tables e below (s₁.setTop (entryFrame m #[(.ref t1), (.int (45 : Int32)), (.int (0 : Int32)), (.int (5 : Int32))] 6)) (s₁.setTop (mkF m 17 #[.val (.ref t1), .val (.int (45 : Int32)), .val (.int (0 : Int32)), .val (.int (5 : Int32)), .val (.int ((45 : Int32).toInt8.toInt32)), .val (.int (((((0 : Int32) + (1 : Int32)) + (1 : Int32)) + (1 : Int32)) + (1 : Int32)))] [(.int (45 : Int32))])) := fun t h => k t (X0.baloadBytes hx (j := (((((0 : Int32) + (1 : Int32)) + (1 : Int32)) + (1 : Int32)) + (1 : Int32))) (v := (.int (45 : Int32))) (by rw [e0]; exact Ar15.1) (State.isArrayOf_alike hZ.alike Ar15.2.1) Ar15.2.2 hin15 hat15 (g := (mkF m 16 #[.val (.ref t1), .val (.int (45 : Int32)), .val (.int (0 : Int32)), .val (.int (5 : Int32)), .val (.int ((45 : Int32).toInt8.toInt32)), .val (.int (((((0 : Int32) + (1 : Int32)) + (1 : Int32)) + (1 : Int32)) + (1 : Int32)))] [(.int (((((0 : Int32) + (1 : Int32)) + (1 : Int32)) + (1 : Int32)) + (1 : Int32))), (.ref t1)])) rfl rfl (hb hby own_d32_16) _ h)
    replace k : own_K p.tables e below (s₁.setTop (entryFrame m #[(.ref t1), (.int (45 : Int32)), (.int (0 : Int32)), (.int (5 : Int32))] 6)) (s₁.setTop (mkF m 19 #[.val (.ref t1), .val (.int (45 : Int32)), .val (.int (0 : Int32)), .val (.int (5 : Int32)), .val (.int ((45 : Int32).toInt8.toInt32)), .val (.int (((((0 : Int32) + (1 : Int32)) + (1 : Int32)) + (1 : Int32)) + (1 : Int32)))] [(.int ((45 : Int32).toInt8.toInt32)), (.int (45 : Int32))])) := fun t h => k t (XS.iload X0.here hx rfl (hb hby own_d32_17) rfl h)
    replace k : own_K p.tables e below (s₁.setTop (entryFrame m #[(.ref t1), (.int (45 : Int32)), (.int (0 : Int32)), (.int (5 : Int32))] 6)) (s₁.setTop (mkF m 22 #[.val (.ref t1), .val (.int (45 : Int32)), .val (.int (0 : Int32)), .val (.int (5 : Int32)), .val (.int ((45 : Int32).toInt8.toInt32)), .val (.int (((((0 : Int32) + (1 : Int32)) + (1 : Int32)) + (1 : Int32)) + (1 : Int32)))] [])) := fun t h => k t (XS.icmpNo X0.here hx rfl (hb hby own_d32_19) rfl (teq (by decide : (45 : Int32) = ((45 : Int32).toInt8.toInt32))).2 h)
    replace k : own_K p.tables e below (s₁.setTop (entryFrame m #[(.ref t1), (.int (45 : Int32)), (.int (0 : Int32)), (.int (5 : Int32))] 6)) (s₁.setTop (mkF m 24 #[.val (.ref t1), .val (.int (45 : Int32)), .val (.int (0 : Int32)), .val (.int (5 : Int32)), .val (.int ((45 : Int32).toInt8.toInt32)), .val (.int (((((0 : Int32) + (1 : Int32)) + (1 : Int32)) + (1 : Int32)) + (1 : Int32)))] [(.int (((((0 : Int32) + (1 : Int32)) + (1 : Int32)) + (1 : Int32)) + (1 : Int32)))])) := fun t h => k t (XS.iload X0.here hx rfl (hb hby own_d32_22) rfl h)
    obtain ⟨fs, hr, hrun, hended, hW, hsame⟩ := X0.leave (v := some (.int (((((0 : Int32) + (1 : Int32)) + (1 : Int32)) + (1 : Int32)) + (1 : Int32)))) (fun h => by rw [Bd.returns] at h; cases h) Bd.notSynchronized
    refine ⟨_, _, k _ (retOut X0 hx Bd.returns rfl (Or.inl ⟨rfl, by simp, _, rfl⟩) (hb hby own_d32_24) hr), hrun, hended, _, _, rfl, ?_, ⟨_, rfl⟩, hW, hsame.mono (by decide) (by decide)⟩
    show Q5 Z t1 kb1 (45 : Int32) h0 n0 _ s₁.heap _
    rw [e0]
    exact ⟨(by decide), N0, rfl⟩
theorem own_pd0 : parseMethodDescriptor "(I)Z" = some ⟨[.int], some .boolean⟩ := by decide +kernel
theorem own_pd1 : parseMethodDescriptor "(II)I" = some ⟨[.int, .int], some .int⟩ := by decide +kernel
theorem own_pd2 : parseMethodDescriptor "([BIII)I" = some ⟨[(.array .byte), .int, .int, .int], some .int⟩ := by decide +kernel
theorem own_d28_0 : decode jdk_43_method_22_code 0 = .ok (.iload_n 1, 1) := by decide +kernel
theorem own_d28_1 : decode jdk_43_method_22_code 1 = .ok (.invokestatic 88, 3) := by decide +kernel
theorem own_d28_4 : decode jdk_43_method_22_code 4 = .ok (.ifCond .ne 5, 3) := by decide +kernel
theorem own_d28_9 : decode jdk_43_method_22_code 9 = .ok (.iload_n 2, 1) := by decide +kernel
theorem own_d28_10 : decode jdk_43_method_22_code 10 = .ok (.iconst 0, 1) := by decide +kernel
theorem own_d28_11 : decode jdk_43_method_22_code 11 = .ok (.invokestatic 92, 3) := by decide +kernel
theorem own_d28_14 : decode jdk_43_method_22_code 14 = .ok (.istore_n 2, 1) := by decide +kernel
theorem own_d28_15 : decode jdk_43_method_22_code 15 = .ok (.iload_n 3, 1) := by decide +kernel
theorem own_d28_16 : decode jdk_43_method_22_code 16 = .ok (.aload_n 0, 1) := by decide +kernel
theorem own_d28_17 : decode jdk_43_method_22_code 17 = .ok (.arraylength, 1) := by decide +kernel
theorem own_d28_18 : decode jdk_43_method_22_code 18 = .ok (.invokestatic 38, 3) := by decide +kernel
theorem own_d28_21 : decode jdk_43_method_22_code 21 = .ok (.istore_n 3, 1) := by decide +kernel
theorem own_d28_22 : decode jdk_43_method_22_code 22 = .ok (.iload_n 2, 1) := by decide +kernel
theorem own_d28_23 : decode jdk_43_method_22_code 23 = .ok (.iload_n 3, 1) := by decide +kernel
theorem own_d28_24 : decode jdk_43_method_22_code 24 = .ok (.if_icmp .lt 5, 3) := by decide +kernel
theorem own_d28_29 : decode jdk_43_method_22_code 29 = .ok (.aload_n 0, 1) := by decide +kernel
theorem own_d28_30 : decode jdk_43_method_22_code 30 = .ok (.iload_n 1, 1) := by decide +kernel
theorem own_d28_31 : decode jdk_43_method_22_code 31 = .ok (.iload_n 2, 1) := by decide +kernel
theorem own_d28_32 : decode jdk_43_method_22_code 32 = .ok (.iload_n 3, 1) := by decide +kernel
theorem own_d28_33 : decode jdk_43_method_22_code 33 = .ok (.invokestatic 95, 3) := by decide +kernel
theorem own_d28_36 : decode jdk_43_method_22_code 36 = .ok (.ireturn, 1) := by decide +kernel
theorem own_ef6 (m : MethodId) (y0 : Addr) (y1 : Int32) (y2 : Int32) (y3 : Int32) : entryFrame m #[(.ref y0), (.int y1), (.int y2), (.int y3)] 4 = mkF m 0 #[.val (.ref y0), .val (.int y1), .val (.int y2), .val (.int y3)] [] := by first | (simp [entryFrame, mkF, argsToLocals, Value.category]; done) | rfl
def Q6 (Z : State) (t1 : Addr) (kb1 : ClassId) (c : Int32) (h0 : Heap) (n0 : Nat) (v : Option Value) (h : Heap) (L : List Loc) : Prop := v = some (.int (own_pos c)) ∧ Fr n0 L ∧ h = h0
set_option maxRecDepth 65536 in
set_option maxHeartbeats 40000000 in
theorem rm6 (l : Launch) (Z : State) (a0 : Array Value) (hw : ∀ d ∈ tables_1, d.before a0 Z = true) (ws : List Jvm.Cond) (t1 : Addr) (kb1 : ClassId) (c : Int32) (h0 : Heap) (n0 : Nat) (LK : Arv Z h0 t1 kb1 .byte (5 : Int32) ([.int 46, .int 95, .int 58, .int 47, .int 45] : List Value) (.int 0)) (hp : own_p5 c) (c0 : ¬ c < (0 : Int32)) (c1 : ¬ (255 : Int32) < c) :
    MetFree l (⟨"java/lang/StringLatin1", "indexOf", "([BIII)I"⟩ : MethodName) (head1 (Jvm.Cond.code (⟨"java/lang/StringLatin1", "indexOf", "([BIII)I"⟩ : MethodName) jdk_43_method_22_code 4 (some .int) :: ws) ({ frames := 1, cells := 0, slots := 0, locals := 20 } : Room)) (fun aaz U => aaz = #[(.ref t1), (.int c), (.int (0 : Int32)), (.int (5 : Int32))] ∧ Z.Warmed39 U.vm ∧ U.heap = h0) (fun _ _ _ _ _ => True) (fun _ U o U' => ∃ v L, o = .returned v ∧ Q6 Z t1 kb1 c h0 n0 v U'.heap L ∧ FrameEnd U o U' L ({ frames := 1, cells := 0, slots := 0, locals := 20 } : Room).cells ({ frames := 1, cells := 0, slots := 0, locals := 20 } : Room).slots) := by
  refine MetFree.of_bodySF (plainFor_of_name own_pn1) hisR ?_
  intro p e s m args below meth cde s₁ Bd hml0 hP hK
  obtain ⟨rfl, hZ, hh⟩ := hP
  have hx := Bd.exec
  have hby := Bd.bytes
  have hml : cde.maxLocals = 4 := hml0
  have hown : s.vm.findClass "java/lang/StringLatin1" = some m.cls := findClass_of_methodNamed Bd.named
  have hnm := (name_of_methodNamed Bd.named Bd.method).1
  have X0 : Stand p l e ({ frames := 1, cells := 0, slots := 0, locals := 20 } : Room) s m #[(.ref t1), (.int c), (.int (0 : Int32)), (.int (5 : Int32))] below meth cde s₁ [] 0 0 := Stand.of_body Bd
  have e0 : s₁.heap = h0 := by rw [← hh, Bd.state]; rfl
  have N0 := Fr.nil n0
  have k : own_K p.tables e below (s₁.setTop (entryFrame m #[(.ref t1), (.int c), (.int (0 : Int32)), (.int (5 : Int32))] 4)) (s₁.setTop (mkF m 0 #[.val (.ref t1), .val (.int c), .val (.int (0 : Int32)), .val (.int (5 : Int32))] [])) := fun t h => castTop (own_ef6 m t1 c (0 : Int32) (5 : Int32)) h
  replace k : own_K p.tables e below (s₁.setTop (entryFrame m #[(.ref t1), (.int c), (.int (0 : Int32)), (.int (5 : Int32))] 4)) (s₁.setTop (mkF m 1 #[.val (.ref t1), .val (.int c), .val (.int (0 : Int32)), .val (.int (5 : Int32))] [(.int c)])) := fun t h => k t (XS.iloadN X0.here hx rfl (hb hby own_d28_0) rfl h)
  obtain ⟨_, _, ⟨T2, L2, kk2, n2⟩, -, X2, ⟨Lc2, hQ2, l2, y2, z2⟩, st2⟩ := Jvm.LawKit.callS X0 hx (y := (⟨"java/lang/StringLatin1", "canEncode", "(I)Z"⟩ : MethodName)) hown (mvT hZ (hw _ (List.mem_of_getElem? (i := 138) rfl))) (mvT hZ (hw _ (List.mem_of_getElem? (i := 139) rfl))) (mvT hZ (hw _ (List.mem_of_getElem? (i := 87) rfl))) (mvT hZ (hw _ (List.mem_of_getElem? (i := 140) rfl))) (by decide) (backOf (W := 0) (rm2 l Z a0 hw [] c h0 n0 c0 c1) hZ (hw _ (List.mem_of_getElem? (i := 140) rfl)) (hw _ (List.mem_of_getElem? (i := 87) rfl)) (by decide) (by decide)) (g := (mkF m 1 #[.val (.ref t1), .val (.int c), .val (.int (0 : Int32)), .val (.int (5 : Int32))] [(.int c)])) rfl (by rw [hml]; rfl) (argsL := [(.int c)]) (rest := []) (lenOf own_pd0 rfl) rfl (by show 2 * 0 + _ ≤ _; exact Nat.le_of_eq rfl) (hb hby own_d28_1) (fun _ _ => ⟨rfl, e0, (by decide : 0 + 0 ≤ _), (by decide : 0 + 0 ≤ _)⟩)
  dsimp only [Pt.U, Pt.locs, Pt.cells, Pt.slots] at X2 l2 y2 z2 st2 hQ2
  subst l2 y2 z2
  obtain ⟨rfl, N2q, eq1⟩ := hQ2
  have N2 := Fr.app N0 N2q
  replace k : own_K p.tables e below (s₁.setTop (entryFrame m #[(.ref t1), (.int c), (.int (0 : Int32)), (.int (5 : Int32))] 4)) (T2.setTop (mkF m 4 #[.val (.ref t1), .val (.int c), .val (.int (0 : Int32)), .val (.int (5 : Int32))] [(.int (1 : Int32))])) := fun t h => k t (st2 _ h)
  replace k : own_K p.tables e below (s₁.setTop (entryFrame m #[(.ref t1), (.int c), (.int (0 : Int32)), (.int (5 : Int32))] 4)) (T2.setTop (mkF m 9 #[.val (.ref t1), .val (.int c), .val (.int (0 : Int32)), .val (.int (5 : Int32))] [])) := fun t h => k t (XS.ifYes X2.here hx rfl (pc0 := 4) (pc' := 9) rfl (hb hby own_d28_4) rfl ((if0 _ _).trans (feq (by decide : ¬ ((1 : Int32) = (0 : Int32)))).2) (by decide) (by decide) h)
  replace k : own_K p.tables e below (s₁.setTop (entryFrame m #[(.ref t1), (.int c), (.int (0 : Int32)), (.int (5 : Int32))] 4)) (T2.setTop (mkF m 10 #[.val (.ref t1), .val (.int c), .val (.int (0 : Int32)), .val (.int (5 : Int32))] [(.int (0 : Int32))])) := fun t h => k t (XS.iloadN X2.here hx rfl (hb hby own_d28_9) rfl h)
  replace k : own_K p.tables e below (s₁.setTop (entryFrame m #[(.ref t1), (.int c), (.int (0 : Int32)), (.int (5 : Int32))] 4)) (T2.setTop (mkF m 11 #[.val (.ref t1), .val (.int c), .val (.int (0 : Int32)), .val (.int (5 : Int32))] [(.int (0 : Int32)), (.int (0 : Int32))])) := fun t h => k t (XS.iconst X2.here hx rfl (hb hby own_d28_10) h)
  obtain ⟨_, _, ⟨T4, L4, kk4, n4⟩, -, X4, ⟨Lc4, hQ4, l4, y4, z4⟩, st4⟩ := Jvm.LawKit.callS X2 hx (y := (⟨"java/lang/Math", "max", "(II)I"⟩ : MethodName)) hown (mvT hZ (hw _ (List.mem_of_getElem? (i := 141) rfl))) (mvT hZ (hw _ (List.mem_of_getElem? (i := 142) rfl))) (mvT hZ (hw _ (List.mem_of_getElem? (i := 143) rfl))) (mvT hZ (hw _ (List.mem_of_getElem? (i := 144) rfl))) (by decide) (backOf (W := 0) (rm3 l Z a0 hw [] h0 n0) hZ (hw _ (List.mem_of_getElem? (i := 144) rfl)) (hw _ (List.mem_of_getElem? (i := 143) rfl)) (by decide) (by decide)) (g := (mkF m 11 #[.val (.ref t1), .val (.int c), .val (.int (0 : Int32)), .val (.int (5 : Int32))] [(.int (0 : Int32)), (.int (0 : Int32))])) rfl (by rw [hml]; rfl) (argsL := [(.int (0 : Int32)), (.int (0 : Int32))]) (rest := []) (lenOf own_pd1 rfl) rfl (by show 2 * 0 + _ ≤ _; exact Nat.le_of_eq rfl) (hb hby own_d28_11) (fun _ _ => ⟨rfl, eq1, (by decide : 0 + 0 ≤ _), (by decide : 0 + 0 ≤ _)⟩)
  dsimp only [Pt.U, Pt.locs, Pt.cells, Pt.slots] at X4 l4 y4 z4 st4 hQ4
  subst l4 y4 z4
  obtain ⟨rfl, N4q, eq3⟩ := hQ4
  have N4 := Fr.app N2 N4q
  replace k : own_K p.tables e below (s₁.setTop (entryFrame m #[(.ref t1), (.int c), (.int (0 : Int32)), (.int (5 : Int32))] 4)) (T4.setTop (mkF m 14 #[.val (.ref t1), .val (.int c), .val (.int (0 : Int32)), .val (.int (5 : Int32))] [(.int (0 : Int32))])) := fun t h => k t (st4 _ h)
  replace k : own_K p.tables e below (s₁.setTop (entryFrame m #[(.ref t1), (.int c), (.int (0 : Int32)), (.int (5 : Int32))] 4)) (T4.setTop (mkF m 15 #[.val (.ref t1), .val (.int c), .val (.int (0 : Int32)), .val (.int (5 : Int32))] [])) := fun t h => k t (XS.istoreN X4.here hx rfl (hb hby own_d28_14) rfl (l' := #[.val (.ref t1), .val (.int c), .val (.int (0 : Int32)), .val (.int (5 : Int32))]) rfl h)
  replace k : own_K p.tables e below (s₁.setTop (entryFrame m #[(.ref t1), (.int c), (.int (0 : Int32)), (.int (5 : Int32))] 4)) (T4.setTop (mkF m 16 #[.val (.ref t1), .val (.int c), .val (.int (0 : Int32)), .val (.int (5 : Int32))] [(.int (5 : Int32))])) := fun t h => k t (XS.iloadN X4.here hx rfl (hb hby own_d28_15) rfl h)
  replace k : own_K p.tables e below (s₁.setTop (entryFrame m #[(.ref t1), (.int c), (.int (0 : Int32)), (.int (5 : Int32))] 4)) (T4.setTop (mkF m 17 #[.val (.ref t1), .val (.int c), .val (.int (0 : Int32)), .val (.int (5 : Int32))] [(.ref t1), (.int (5 : Int32))])) := fun t h => k t (XS.aloadN X4.here hx rfl (hb hby own_d28_16) rfl rfl h)
  obtain ⟨cl5, Ar5, qa5, Sa5, Na5, Ha5, Ga5⟩ := id LK
  replace k : own_K p.tables e below (s₁.setTop (entryFrame m #[(.ref t1), (.int c), (.int (0 : Int32)), (.int (5 : Int32))] 4)) (T4.setTop (mkF m 18 #[.val (.ref t1), .val (.int c), .val (.int (0 : Int32)), .val (.int (5 : Int32))] [(.int (5 : Int32)), (.int (5 : Int32))])) := fun t h => k t (X4.arraylength hx (by rw [eq3]; exact Ar5.1) (State.isArrayOf_alike hZ.alike Ar5.2.1) (g := (mkF m 17 #[.val (.ref t1), .val (.int c), .val (.int (0 : Int32)), .val (.int (5 : Int32))] [(.ref t1), (.int (5 : Int32))])) rfl rfl (hb hby own_d28_17) _ (by rw [len_of Sa5 Na5]; exact h))
  obtain ⟨_, _, ⟨T7, L7, kk7, n7⟩, -, X7, ⟨Lc7, hQ7, l7, y7, z7⟩, st7⟩ := Jvm.LawKit.callS X4 hx (y := (⟨"java/lang/Math", "min", "(II)I"⟩ : MethodName)) hown (mvT hZ (hw _ (List.mem_of_getElem? (i := 145) rfl))) (mvT hZ (hw _ (List.mem_of_getElem? (i := 146) rfl))) (mvT hZ (hw _ (List.mem_of_getElem? (i := 143) rfl))) (mvT hZ (hw _ (List.mem_of_getElem? (i := 147) rfl))) (by decide) (backOf (W := 0) (rm4 l Z a0 hw [] h0 n0) hZ (hw _ (List.mem_of_getElem? (i := 147) rfl)) (hw _ (List.mem_of_getElem? (i := 143) rfl)) (by decide) (by decide)) (g := (mkF m 18 #[.val (.ref t1), .val (.int c), .val (.int (0 : Int32)), .val (.int (5 : Int32))] [(.int (5 : Int32)), (.int (5 : Int32))])) rfl (by rw [hml]; rfl) (argsL := [(.int (5 : Int32)), (.int (5 : Int32))]) (rest := []) (lenOf own_pd1 rfl) rfl (by show 2 * 0 + _ ≤ _; exact Nat.le_of_eq rfl) (hb hby own_d28_18) (fun _ _ => ⟨rfl, eq3, (by decide : 0 + 0 ≤ _), (by decide : 0 + 0 ≤ _)⟩)
  dsimp only [Pt.U, Pt.locs, Pt.cells, Pt.slots] at X7 l7 y7 z7 st7 hQ7
  subst l7 y7 z7
  obtain ⟨rfl, N7q, eq6⟩ := hQ7
  have N7 := Fr.app N4 N7q
  replace k : own_K p.tables e below (s₁.setTop (entryFrame m #[(.ref t1), (.int c), (.int (0 : Int32)), (.int (5 : Int32))] 4)) (T7.setTop (mkF m 21 #[.val (.ref t1), .val (.int c), .val (.int (0 : Int32)), .val (.int (5 : Int32))] [(.int (5 : Int32))])) := fun t h => k t (st7 _ h)
  replace k : own_K p.tables e below (s₁.setTop (entryFrame m #[(.ref t1), (.int c), (.int (0 : Int32)), (.int (5 : Int32))] 4)) (T7.setTop (mkF m 22 #[.val (.ref t1), .val (.int c), .val (.int (0 : Int32)), .val (.int (5 : Int32))] [])) := fun t h => k t (XS.istoreN X7.here hx rfl (hb hby own_d28_21) rfl (l' := #[.val (.ref t1), .val (.int c), .val (.int (0 : Int32)), .val (.int (5 : Int32))]) rfl h)
  replace k : own_K p.tables e below (s₁.setTop (entryFrame m #[(.ref t1), (.int c), (.int (0 : Int32)), (.int (5 : Int32))] 4)) (T7.setTop (mkF m 23 #[.val (.ref t1), .val (.int c), .val (.int (0 : Int32)), .val (.int (5 : Int32))] [(.int (0 : Int32))])) := fun t h => k t (XS.iloadN X7.here hx rfl (hb hby own_d28_22) rfl h)
  replace k : own_K p.tables e below (s₁.setTop (entryFrame m #[(.ref t1), (.int c), (.int (0 : Int32)), (.int (5 : Int32))] 4)) (T7.setTop (mkF m 24 #[.val (.ref t1), .val (.int c), .val (.int (0 : Int32)), .val (.int (5 : Int32))] [(.int (5 : Int32)), (.int (0 : Int32))])) := fun t h => k t (XS.iloadN X7.here hx rfl (hb hby own_d28_23) rfl h)
  replace k : own_K p.tables e below (s₁.setTop (entryFrame m #[(.ref t1), (.int c), (.int (0 : Int32)), (.int (5 : Int32))] 4)) (T7.setTop (mkF m 29 #[.val (.ref t1), .val (.int c), .val (.int (0 : Int32)), .val (.int (5 : Int32))] [])) := fun t h => k t (XS.icmpYes X7.here hx rfl (pc0 := 24) (pc' := 29) rfl (hb hby own_d28_24) rfl (tlt (by decide : (0 : Int32) < (5 : Int32))).1 (by decide) (by decide) h)
  replace k : own_K p.tables e below (s₁.setTop (entryFrame m #[(.ref t1), (.int c), (.int (0 : Int32)), (.int (5 : Int32))] 4)) (T7.setTop (mkF m 30 #[.val (.ref t1), .val (.int c), .val (.int (0 : Int32)), .val (.int (5 : Int32))] [(.ref t1)])) := fun t h => k t (XS.aloadN X7.here hx rfl (hb hby own_d28_29) rfl rfl h)
  replace k : own_K p.tables e below (s₁.setTop (entryFrame m #[(.ref t1), (.int c), (.int (0 : Int32)), (.int (5 : Int32))] 4)) (T7.setTop (mkF m 31 #[.val (.ref t1), .val (.int c), .val (.int (0 : Int32)), .val (.int (5 : Int32))] [(.int c), (.ref t1)])) := fun t h => k t (XS.iloadN X7.here hx rfl (hb hby own_d28_30) rfl h)
  replace k : own_K p.tables e below (s₁.setTop (entryFrame m #[(.ref t1), (.int c), (.int (0 : Int32)), (.int (5 : Int32))] 4)) (T7.setTop (mkF m 32 #[.val (.ref t1), .val (.int c), .val (.int (0 : Int32)), .val (.int (5 : Int32))] [(.int (0 : Int32)), (.int c), (.ref t1)])) := fun t h => k t (XS.iloadN X7.here hx rfl (hb hby own_d28_31) rfl h)
  replace k : own_K p.tables e below (s₁.setTop (entryFrame m #[(.ref t1), (.int c), (.int (0 : Int32)), (.int (5 : Int32))] 4)) (T7.setTop (mkF m 33 #[.val (.ref t1), .val (.int c), .val (.int (0 : Int32)), .val (.int (5 : Int32))] [(.int (5 : Int32)), (.int (0 : Int32)), (.int c), (.ref t1)])) := fun t h => k t (XS.iloadN X7.here hx rfl (hb hby own_d28_32) rfl h)
  obtain ⟨_, _, ⟨T9, L9, kk9, n9⟩, -, X9, ⟨Lc9, hQ9, l9, y9, z9⟩, st9⟩ := Jvm.LawKit.callS X7 hx (y := (⟨"java/lang/StringLatin1", "indexOfChar", "([BIII)I"⟩ : MethodName)) hown (mvT hZ (hw _ (List.mem_of_getElem? (i := 148) rfl))) (mvT hZ (hw _ (List.mem_of_getElem? (i := 149) rfl))) (mvT hZ (hw _ (List.mem_of_getElem? (i := 87) rfl))) (mvT hZ (hw _ (List.mem_of_getElem? (i := 150) rfl))) (by decide) (backOf (W := 0) (rm5 l Z a0 hw [] t1 kb1 c h0 n0 LK hp) hZ (hw _ (List.mem_of_getElem? (i := 150) rfl)) (hw _ (List.mem_of_getElem? (i := 87) rfl)) (by decide) (by decide)) (g := (mkF m 33 #[.val (.ref t1), .val (.int c), .val (.int (0 : Int32)), .val (.int (5 : Int32))] [(.int (5 : Int32)), (.int (0 : Int32)), (.int c), (.ref t1)])) rfl (by rw [hml]; rfl) (argsL := [(.ref t1), (.int c), (.int (0 : Int32)), (.int (5 : Int32))]) (rest := []) (lenOf own_pd2 rfl) rfl (by show 2 * 0 + _ ≤ _; exact Nat.le_of_eq rfl) (hb hby own_d28_33) (fun _ _ => ⟨rfl, eq6, (by decide : 0 + 0 ≤ _), (by decide : 0 + 0 ≤ _)⟩)
  dsimp only [Pt.U, Pt.locs, Pt.cells, Pt.slots] at X9 l9 y9 z9 st9 hQ9
  subst l9 y9 z9
  obtain ⟨rfl, N9q, eq8⟩ := hQ9
  have N9 := Fr.app N7 N9q
  replace k : own_K p.tables e below (s₁.setTop (entryFrame m #[(.ref t1), (.int c), (.int (0 : Int32)), (.int (5 : Int32))] 4)) (T9.setTop (mkF m 36 #[.val (.ref t1), .val (.int c), .val (.int (0 : Int32)), .val (.int (5 : Int32))] [(.int (own_pos c))])) := fun t h => k t (st9 _ h)
  obtain ⟨fs, hr, hrun, hended, hW, hsame⟩ := X9.leave (v := some (.int (own_pos c))) (fun h => by rw [Bd.returns] at h; cases h) Bd.notSynchronized
  refine ⟨_, _, k _ (retOut X9 hx Bd.returns rfl (Or.inl ⟨rfl, by simp, _, rfl⟩) (hb hby own_d28_36) hr), hrun, hended, _, _, rfl, ?_, ⟨_, rfl⟩, hW, hsame.mono (by decide) (by decide)⟩
  show Q6 Z t1 kb1 c h0 n0 _ T9.heap _
  rw [eq8]
  exact ⟨rfl, N9, rfl⟩
theorem own_pd3 : parseMethodDescriptor "()Z" = some ⟨[], some .boolean⟩ := by decide +kernel
theorem own_pd4 : parseMethodDescriptor "()I" = some ⟨[], some .int⟩ := by decide +kernel
theorem own_d27_0 : decode jdk_42_method_80_code 0 = .ok (.aload_n 0, 1) := by decide +kernel
theorem own_d27_1 : decode jdk_42_method_80_code 1 = .ok (.invokevirtual 492, 3) := by decide +kernel
theorem own_d27_4 : decode jdk_42_method_80_code 4 = .ok (.ifCond .eq 19, 3) := by decide +kernel
theorem own_d27_7 : decode jdk_42_method_80_code 7 = .ok (.aload_n 0, 1) := by decide +kernel
theorem own_d27_8 : decode jdk_42_method_80_code 8 = .ok (.getfield 9, 3) := by decide +kernel
theorem own_d27_11 : decode jdk_42_method_80_code 11 = .ok (.iload_n 1, 1) := by decide +kernel
theorem own_d27_12 : decode jdk_42_method_80_code 12 = .ok (.iload_n 2, 1) := by decide +kernel
theorem own_d27_13 : decode jdk_42_method_80_code 13 = .ok (.aload_n 0, 1) := by decide +kernel
theorem own_d27_14 : decode jdk_42_method_80_code 14 = .ok (.invokevirtual 505, 3) := by decide +kernel
theorem own_d27_17 : decode jdk_42_method_80_code 17 = .ok (.invokestatic 637, 3) := by decide +kernel
theorem own_d27_20 : decode jdk_42_method_80_code 20 = .ok (.goto 16, 3) := by decide +kernel
theorem own_d27_36 : decode jdk_42_method_80_code 36 = .ok (.ireturn, 1) := by decide +kernel
theorem own_ef7 (m : MethodId) (y0 : Addr) (y1 : Int32) (y2 : Int32) : entryFrame m #[(.ref y0), (.int y1), (.int y2)] 3 = mkF m 0 #[.val (.ref y0), .val (.int y1), .val (.int y2)] [] := by first | (simp [entryFrame, mkF, argsToLocals, Value.category]; done) | rfl
def Q7 (Z : State) (x1 : Addr) (t1 : Addr) (kb1 : ClassId) (c : Int32) (G1 : Int32) (h0 : Heap) (n0 : Nat) (v : Option Value) (h : Heap) (L : List Loc) : Prop := v = some (.int (own_pos c)) ∧ Fr n0 L ∧ h = h0
set_option maxRecDepth 65536 in
set_option maxHeartbeats 40000000 in
theorem rm7 (l : Launch) (Z : State) (a0 : Array Value) (hw : ∀ d ∈ tables_1, d.before a0 Z = true) (ws : List Jvm.Cond) (x1 : Addr) (t1 : Addr) (kb1 : ClassId) (c : Int32) (G1 : Int32) (h0 : Heap) (n0 : Nat) (O2 : Sta Z Z.heap "java/lang/String" "COMPACT_STRINGS" "Z" (.int G1)) (P5 : ¬ G1 = (0 : Int32)) (XO : Old Z n0 h0) (LE : Exa Z h0 x1 "java/lang/String") (LV : Fld Z h0 x1 "java/lang/String" "value" "[B" (.ref t1)) (LC : Fld Z h0 x1 "java/lang/String" "coder" "B" (.int 0)) (LK : Arv Z h0 t1 kb1 .byte (5 : Int32) ([.int 46, .int 95, .int 58, .int 47, .int 45] : List Value) (.int 0)) (hp : own_p5 c) (c0 : ¬ c < (0 : Int32)) (c1 : ¬ (255 : Int32) < c) :
    MetFree l (⟨"java/lang/String", "indexOf", "(II)I"⟩ : MethodName) (head1 (Jvm.Cond.code (⟨"java/lang/String", "indexOf", "(II)I"⟩ : MethodName) jdk_42_method_80_code 3 (some .int) :: ws) ({ frames := 2, cells := 0, slots := 0, locals := 40 } : Room)) (fun aaz U => aaz = #[(.ref x1), (.int c), (.int (0 : Int32))] ∧ Z.Warmed39 U.vm ∧ U.heap = h0) (fun _ _ _ _ _ => True) (fun _ U o U' => ∃ v L, o = .returned v ∧ Q7 Z x1 t1 kb1 c G1 h0 n0 v U'.heap L ∧ FrameEnd U o U' L ({ frames := 2, cells := 0, slots := 0, locals := 40 } : Room).cells ({ frames := 2, cells := 0, slots := 0, locals := 40 } : Room).slots) := by
  refine MetFree.of_bodySF (plainFor_of_name own_pn0) hisR ?_
  intro p e s m args below meth cde s₁ Bd hml0 hP hK
  obtain ⟨rfl, hZ, hh⟩ := hP
  have hx := Bd.exec
  have hby := Bd.bytes
  have hml : cde.maxLocals = 3 := hml0
  have hown : s.vm.findClass "java/lang/String" = some m.cls := findClass_of_methodNamed Bd.named
  have hnm := (name_of_methodNamed Bd.named Bd.method).1
  have X0 : Stand p l e ({ frames := 2, cells := 0, slots := 0, locals := 40 } : Room) s m #[(.ref x1), (.int c), (.int (0 : Int32))] below meth cde s₁ [] 0 0 := Stand.of_body Bd
  have e0 : s₁.heap = h0 := by rw [← hh, Bd.state]; rfl
  have N0 := Fr.nil n0
  have k : own_K p.tables e below (s₁.setTop (entryFrame m #[(.ref x1), (.int c), (.int (0 : Int32))] 3)) (s₁.setTop (mkF m 0 #[.val (.ref x1), .val (.int c), .val (.int (0 : Int32))] [])) := fun t h => castTop (own_ef7 m x1 c (0 : Int32)) h
  replace k : own_K p.tables e below (s₁.setTop (entryFrame m #[(.ref x1), (.int c), (.int (0 : Int32))] 3)) (s₁.setTop (mkF m 1 #[.val (.ref x1), .val (.int c), .val (.int (0 : Int32))] [(.ref x1)])) := fun t h => k t (XS.aloadN X0.here hx rfl (hb hby own_d27_0) rfl rfl h)
  obtain ⟨cq2, kq2, q2a, q2b, q2c⟩ := isOf hZ e0 LE
  obtain ⟨_, _, ⟨T2, L2, kk2, n2⟩, -, X2, ⟨Lc2, hQ2, l2, y2, z2⟩, st2⟩ := X0.virtualBack hx (y := (⟨"java/lang/String", "isLatin1", "()Z"⟩ : MethodName)) (z := (⟨"java/lang/String", "isLatin1", "()Z"⟩ : MethodName)) hown (mvT hZ (hw _ (List.mem_of_getElem? (i := 75) rfl))) (mvT hZ (hw _ (List.mem_of_getElem? (i := 76) rfl))) (notFace_of_selects (args := #[]) (mvT hZ (hw _ (List.mem_of_getElem? (i := 78) rfl)))) (mvT hZ (hw _ (List.mem_of_getElem? (i := 78) rfl))) (mvT hZ (hw _ (List.mem_of_getElem? (i := 77) rfl))) (by decide) (backOf (W := 0) (rm1 l Z a0 hw [] x1 G1 h0 n0 O2 P5 XO LC) hZ (hw _ (List.mem_of_getElem? (i := 79) rfl)) (hw _ (List.mem_of_getElem? (i := 14) rfl)) (by decide) (by decide)) q2a q2c (g := (mkF m 1 #[.val (.ref x1), .val (.int c), .val (.int (0 : Int32))] [(.ref x1)])) rfl (by rw [hml]; rfl) (Steps.refl _) (argsL := []) (rest := []) (lenOf own_pd3 rfl) rfl (by show 2 * 0 + _ ≤ _; exact Nat.le_of_eq rfl) (hb hby own_d27_1) (fun _ _ => ⟨rfl, e0, (by decide : 0 + 0 ≤ _), (by decide : 0 + 0 ≤ _)⟩)
  dsimp only [Pt.U, Pt.locs, Pt.cells, Pt.slots] at X2 l2 y2 z2 st2 hQ2
  subst l2 y2 z2
  obtain ⟨rfl, N2q, eq1⟩ := hQ2
  have N2 := Fr.app N0 N2q
  replace k : own_K p.tables e below (s₁.setTop (entryFrame m #[(.ref x1), (.int c), (.int (0 : Int32))] 3)) (T2.setTop (mkF m 4 #[.val (.ref x1), .val (.int c), .val (.int (0 : Int32))] [(.int (1 : Int32))])) := fun t h => k t (st2.trans h)
  replace k : own_K p.tables e below (s₁.setTop (entryFrame m #[(.ref x1), (.int c), (.int (0 : Int32))] 3)) (T2.setTop (mkF m 7 #[.val (.ref x1), .val (.int c), .val (.int (0 : Int32))] [])) := fun t h => k t (XS.ifNo X2.here hx rfl (hb hby own_d27_4) rfl ((if0 _ _).trans (feq (by decide : ¬ ((1 : Int32) = (0 : Int32)))).1) h)
  replace k : own_K p.tables e below (s₁.setTop (entryFrame m #[(.ref x1), (.int c), (.int (0 : Int32))] 3)) (T2.setTop (mkF m 8 #[.val (.ref x1), .val (.int c), .val (.int (0 : Int32))] [(.ref x1)])) := fun t h => k t (XS.aloadN X2.here hx rfl (hb hby own_d27_7) rfl rfl h)
  obtain ⟨T3, X3, e3, st3⟩ := getF X2 hx hZ hown (host := "") (Or.inl (hw _ (List.mem_of_getElem? (i := 39) rfl))) Via.refl eq1 LV (g := (mkF m 8 #[.val (.ref x1), .val (.int c), .val (.int (0 : Int32))] [(.ref x1)])) rfl rfl (hb hby own_d27_8)
  replace k : own_K p.tables e below (s₁.setTop (entryFrame m #[(.ref x1), (.int c), (.int (0 : Int32))] 3)) (T3.setTop (mkF m 11 #[.val (.ref x1), .val (.int c), .val (.int (0 : Int32))] [(.ref t1)])) := fun t h => k t (st3 _ h)
  replace k : own_K p.tables e below (s₁.setTop (entryFrame m #[(.ref x1), (.int c), (.int (0 : Int32))] 3)) (T3.setTop (mkF m 12 #[.val (.ref x1), .val (.int c), .val (.int (0 : Int32))] [(.int c), (.ref t1)])) := fun t h => k t (XS.iloadN X3.here hx rfl (hb hby own_d27_11) rfl h)
  replace k : own_K p.tables e below (s₁.setTop (entryFrame m #[(.ref x1), (.int c), (.int (0 : Int32))] 3)) (T3.setTop (mkF m 13 #[.val (.ref x1), .val (.int c), .val (.int (0 : Int32))] [(.int (0 : Int32)), (.int c), (.ref t1)])) := fun t h => k t (XS.iloadN X3.here hx rfl (hb hby own_d27_12) rfl h)
  replace k : own_K p.tables e below (s₁.setTop (entryFrame m #[(.ref x1), (.int c), (.int (0 : Int32))] 3)) (T3.setTop (mkF m 14 #[.val (.ref x1), .val (.int c), .val (.int (0 : Int32))] [(.ref x1), (.int (0 : Int32)), (.int c), (.ref t1)])) := fun t h => k t (XS.aloadN X3.here hx rfl (hb hby own_d27_13) rfl rfl h)
  obtain ⟨cq5, kq5, q5a, q5b, q5c⟩ := isOf hZ e3 LE
  obtain ⟨_, _, ⟨T5, L5, kk5, n5⟩, -, X5, ⟨Lc5, hQ5, l5, y5, z5⟩, st5⟩ := X3.virtualBack hx (y := (⟨"java/lang/String", "length", "()I"⟩ : MethodName)) (z := (⟨"java/lang/String", "length", "()I"⟩ : MethodName)) hown (mvT hZ (hw _ (List.mem_of_getElem? (i := 67) rfl))) (mvT hZ (hw _ (List.mem_of_getElem? (i := 53) rfl))) (notFace_of_selects (args := #[]) (mvT hZ (hw _ (List.mem_of_getElem? (i := 55) rfl)))) (mvT hZ (hw _ (List.mem_of_getElem? (i := 55) rfl))) (mvT hZ (hw _ (List.mem_of_getElem? (i := 54) rfl))) (by decide) (StrChars.Road.lenW (W := 3) hZ (own_wL hw) (kI := 4) (hw _ (List.mem_of_getElem? (i := 13) rfl)) LE LV LC LK own_cdP own_pb (O2.ext XO.2) P5 (by decide) (by decide) (by decide)) q5a q5c (g := (mkF m 14 #[.val (.ref x1), .val (.int c), .val (.int (0 : Int32))] [(.ref x1), (.int (0 : Int32)), (.int c), (.ref t1)])) rfl (by rw [hml]; rfl) (Steps.refl _) (argsL := []) (rest := [(.int (0 : Int32)), (.int c), (.ref t1)]) (lenOf own_pd4 rfl) rfl (by show 2 * 0 + _ ≤ _; exact Nat.le_of_eq rfl) (hb hby own_d27_14) (fun _ _ => ⟨rfl, e3, (by decide : 0 + 0 ≤ _), (by decide : 0 + 0 ≤ _)⟩)
  dsimp only [Pt.U, Pt.locs, Pt.cells, Pt.slots] at X5 l5 y5 z5 st5 hQ5
  subst l5 y5 z5
  obtain ⟨rfl, rfl, eq4⟩ := hQ5
  have N5 := Fr.app N2 (Fr.nil n0)
  replace k : own_K p.tables e below (s₁.setTop (entryFrame m #[(.ref x1), (.int c), (.int (0 : Int32))] 3)) (T5.setTop (mkF m 17 #[.val (.ref x1), .val (.int c), .val (.int (0 : Int32))] [(.int (5 : Int32)), (.int (0 : Int32)), (.int c), (.ref t1)])) := fun t h => k t (st5.trans h)
  obtain ⟨_, _, ⟨T7, L7, kk7, n7⟩, -, X7, ⟨Lc7, hQ7, l7, y7, z7⟩, st7⟩ := Jvm.LawKit.callS X5 hx (y := (⟨"java/lang/StringLatin1", "indexOf", "([BIII)I"⟩ : MethodName)) hown (mvT hZ (hw _ (List.mem_of_getElem? (i := 135) rfl))) (mvT hZ (hw _ (List.mem_of_getElem? (i := 136) rfl))) (mvT hZ (hw _ (List.mem_of_getElem? (i := 87) rfl))) (mvT hZ (hw _ (List.mem_of_getElem? (i := 137) rfl))) (by decide) (backOf (W := 0) (rm6 l Z a0 hw [] t1 kb1 c h0 n0 LK hp c0 c1) hZ (hw _ (List.mem_of_getElem? (i := 137) rfl)) (hw _ (List.mem_of_getElem? (i := 87) rfl)) (by decide) (by decide)) (g := (mkF m 17 #[.val (.ref x1), .val (.int c), .val (.int (0 : Int32))] [(.int (5 : Int32)), (.int (0 : Int32)), (.int c), (.ref t1)])) rfl (by rw [hml]; rfl) (argsL := [(.ref t1), (.int c), (.int (0 : Int32)), (.int (5 : Int32))]) (rest := []) (lenOf own_pd2 rfl) rfl (by show 2 * 0 + _ ≤ _; exact Nat.le_of_eq rfl) (hb hby own_d27_17) (fun _ _ => ⟨rfl, eq4, (by decide : 0 + 0 ≤ _), (by decide : 0 + 0 ≤ _)⟩)
  dsimp only [Pt.U, Pt.locs, Pt.cells, Pt.slots] at X7 l7 y7 z7 st7 hQ7
  subst l7 y7 z7
  obtain ⟨rfl, N7q, eq6⟩ := hQ7
  have N7 := Fr.app N5 N7q
  replace k : own_K p.tables e below (s₁.setTop (entryFrame m #[(.ref x1), (.int c), (.int (0 : Int32))] 3)) (T7.setTop (mkF m 20 #[.val (.ref x1), .val (.int c), .val (.int (0 : Int32))] [(.int (own_pos c))])) := fun t h => k t (st7 _ h)
  replace k : own_K p.tables e below (s₁.setTop (entryFrame m #[(.ref x1), (.int c), (.int (0 : Int32))] 3)) (T7.setTop (mkF m 36 #[.val (.ref x1), .val (.int c), .val (.int (0 : Int32))] [(.int (own_pos c))])) := fun t h => k t (XS.goto X7.here hx rfl (pc0 := 20) (pc' := 36) rfl (hb hby own_d27_20) (by decide) (by decide) h)
  obtain ⟨fs, hr, hrun, hended, hW, hsame⟩ := X7.leave (v := some (.int (own_pos c))) (fun h => by rw [Bd.returns] at h; cases h) Bd.notSynchronized
  refine ⟨_, _, k _ (retOut X7 hx Bd.returns rfl (Or.inl ⟨rfl, by simp, _, rfl⟩) (hb hby own_d27_36) hr), hrun, hended, _, _, rfl, ?_, ⟨_, rfl⟩, hW, hsame.mono (by decide) (by decide)⟩
  show Q7 Z x1 t1 kb1 c G1 h0 n0 _ T7.heap _
  rw [eq6]
  exact ⟨rfl, N7, rfl⟩
theorem own_d26_0 : decode jdk_42_method_79_code 0 = .ok (.aload_n 0, 1) := by decide +kernel
theorem own_d26_1 : decode jdk_42_method_79_code 1 = .ok (.iload_n 1, 1) := by decide +kernel
theorem own_d26_2 : decode jdk_42_method_79_code 2 = .ok (.iconst 0, 1) := by decide +kernel
theorem own_d26_3 : decode jdk_42_method_79_code 3 = .ok (.invokevirtual 633, 3) := by decide +kernel
theorem own_d26_6 : decode jdk_42_method_79_code 6 = .ok (.ireturn, 1) := by decide +kernel
theorem own_ef8 (m : MethodId) (y0 : Addr) (y1 : Int32) : entryFrame m #[(.ref y0), (.int y1)] 2 = mkF m 0 #[.val (.ref y0), .val (.int y1)] [] := by first | (simp [entryFrame, mkF, argsToLocals, Value.category]; done) | rfl
def Q8 (Z : State) (x1 : Addr) (t1 : Addr) (kb1 : ClassId) (c : Int32) (G1 : Int32) (h0 : Heap) (n0 : Nat) (v : Option Value) (h : Heap) (L : List Loc) : Prop := v = some (.int (own_pos c)) ∧ Fr n0 L ∧ h = h0
set_option maxRecDepth 65536 in
set_option maxHeartbeats 40000000 in
theorem rm8 (l : Launch) (Z : State) (a0 : Array Value) (hw : ∀ d ∈ tables_1, d.before a0 Z = true) (ws : List Jvm.Cond) (x1 : Addr) (t1 : Addr) (kb1 : ClassId) (c : Int32) (G1 : Int32) (h0 : Heap) (n0 : Nat) (O2 : Sta Z Z.heap "java/lang/String" "COMPACT_STRINGS" "Z" (.int G1)) (P5 : ¬ G1 = (0 : Int32)) (XO : Old Z n0 h0) (LE : Exa Z h0 x1 "java/lang/String") (LV : Fld Z h0 x1 "java/lang/String" "value" "[B" (.ref t1)) (LC : Fld Z h0 x1 "java/lang/String" "coder" "B" (.int 0)) (LK : Arv Z h0 t1 kb1 .byte (5 : Int32) ([.int 46, .int 95, .int 58, .int 47, .int 45] : List Value) (.int 0)) (hp : own_p5 c) (c0 : ¬ c < (0 : Int32)) (c1 : ¬ (255 : Int32) < c) :
    MetFree l (⟨"java/lang/String", "indexOf", "(I)I"⟩ : MethodName) (head1 (Jvm.Cond.code (⟨"java/lang/String", "indexOf", "(I)I"⟩ : MethodName) jdk_42_method_79_code 2 (some .int) :: ws) ({ frames := 3, cells := 0, slots := 0, locals := 60 } : Room)) (fun aaz U => aaz = #[(.ref x1), (.int c)] ∧ Z.Warmed39 U.vm ∧ U.heap = h0) (fun _ _ _ _ _ => True) (fun _ U o U' => ∃ v L, o = .returned v ∧ Q8 Z x1 t1 kb1 c G1 h0 n0 v U'.heap L ∧ FrameEnd U o U' L ({ frames := 3, cells := 0, slots := 0, locals := 60 } : Room).cells ({ frames := 3, cells := 0, slots := 0, locals := 60 } : Room).slots) := by
  refine MetFree.of_bodySF (plainFor_of_name own_pn0) hisR ?_
  intro p e s m args below meth cde s₁ Bd hml0 hP hK
  obtain ⟨rfl, hZ, hh⟩ := hP
  have hx := Bd.exec
  have hby := Bd.bytes
  have hml : cde.maxLocals = 2 := hml0
  have hown : s.vm.findClass "java/lang/String" = some m.cls := findClass_of_methodNamed Bd.named
  have hnm := (name_of_methodNamed Bd.named Bd.method).1
  have X0 : Stand p l e ({ frames := 3, cells := 0, slots := 0, locals := 60 } : Room) s m #[(.ref x1), (.int c)] below meth cde s₁ [] 0 0 := Stand.of_body Bd
  have e0 : s₁.heap = h0 := by rw [← hh, Bd.state]; rfl
  have N0 := Fr.nil n0
  have k : own_K p.tables e below (s₁.setTop (entryFrame m #[(.ref x1), (.int c)] 2)) (s₁.setTop (mkF m 0 #[.val (.ref x1), .val (.int c)] [])) := fun t h => castTop (own_ef8 m x1 c) h
  replace k : own_K p.tables e below (s₁.setTop (entryFrame m #[(.ref x1), (.int c)] 2)) (s₁.setTop (mkF m 1 #[.val (.ref x1), .val (.int c)] [(.ref x1)])) := fun t h => k t (XS.aloadN X0.here hx rfl (hb hby own_d26_0) rfl rfl h)
  replace k : own_K p.tables e below (s₁.setTop (entryFrame m #[(.ref x1), (.int c)] 2)) (s₁.setTop (mkF m 2 #[.val (.ref x1), .val (.int c)] [(.int c), (.ref x1)])) := fun t h => k t (XS.iloadN X0.here hx rfl (hb hby own_d26_1) rfl h)
  replace k : own_K p.tables e below (s₁.setTop (entryFrame m #[(.ref x1), (.int c)] 2)) (s₁.setTop (mkF m 3 #[.val (.ref x1), .val (.int c)] [(.int (0 : Int32)), (.int c), (.ref x1)])) := fun t h => k t (XS.iconst X0.here hx rfl (hb hby own_d26_2) h)
  obtain ⟨cq2, kq2, q2a, q2b, q2c⟩ := isOf hZ e0 LE
  obtain ⟨_, _, ⟨T2, L2, kk2, n2⟩, -, X2, ⟨Lc2, hQ2, l2, y2, z2⟩, st2⟩ := X0.virtualBack hx (y := (⟨"java/lang/String", "indexOf", "(II)I"⟩ : MethodName)) (z := (⟨"java/lang/String", "indexOf", "(II)I"⟩ : MethodName)) hown (mvT hZ (hw _ (List.mem_of_getElem? (i := 130) rfl))) (mvT hZ (hw _ (List.mem_of_getElem? (i := 131) rfl))) (notFace_of_selects (args := #[]) (mvT hZ (hw _ (List.mem_of_getElem? (i := 133) rfl)))) (mvT hZ (hw _ (List.mem_of_getElem? (i := 133) rfl))) (mvT hZ (hw _ (List.mem_of_getElem? (i := 132) rfl))) (by decide) (backOf (W := 0) (rm7 l Z a0 hw [] x1 t1 kb1 c G1 h0 n0 O2 P5 XO LE LV LC LK hp c0 c1) hZ (hw _ (List.mem_of_getElem? (i := 134) rfl)) (hw _ (List.mem_of_getElem? (i := 14) rfl)) (by decide) (by decide)) q2a q2c (g := (mkF m 3 #[.val (.ref x1), .val (.int c)] [(.int (0 : Int32)), (.int c), (.ref x1)])) rfl (by rw [hml]; rfl) (Steps.refl _) (argsL := [(.int c), (.int (0 : Int32))]) (rest := []) (lenOf own_pd1 rfl) rfl (by show 2 * 0 + _ ≤ _; exact Nat.le_of_eq rfl) (hb hby own_d26_3) (fun _ _ => ⟨rfl, e0, (by decide : 0 + 0 ≤ _), (by decide : 0 + 0 ≤ _)⟩)
  dsimp only [Pt.U, Pt.locs, Pt.cells, Pt.slots] at X2 l2 y2 z2 st2 hQ2
  subst l2 y2 z2
  obtain ⟨rfl, N2q, eq1⟩ := hQ2
  have N2 := Fr.app N0 N2q
  replace k : own_K p.tables e below (s₁.setTop (entryFrame m #[(.ref x1), (.int c)] 2)) (T2.setTop (mkF m 6 #[.val (.ref x1), .val (.int c)] [(.int (own_pos c))])) := fun t h => k t (st2.trans h)
  obtain ⟨fs, hr, hrun, hended, hW, hsame⟩ := X2.leave (v := some (.int (own_pos c))) (fun h => by rw [Bd.returns] at h; cases h) Bd.notSynchronized
  refine ⟨_, _, k _ (retOut X2 hx Bd.returns rfl (Or.inl ⟨rfl, by simp, _, rfl⟩) (hb hby own_d26_6) hr), hrun, hended, _, _, rfl, ?_, ⟨_, rfl⟩, hW, hsame.mono (by decide) (by decide)⟩
  show Q8 Z x1 t1 kb1 c G1 h0 n0 _ T2.heap _
  rw [eq1]
  exact ⟨rfl, N2, rfl⟩
theorem own_pn3 : plainName "com/example/ferrolho/ferrolho/lock/LockName" = true := by first | (simp [plainName, overriddenIn]; done) | decide +kernel
theorem own_pd5 : parseMethodDescriptor "(I)I" = some ⟨[.int], some .int⟩ := by decide +kernel
theorem own_d21_0 : decode prog_21_method_2_code 0 = .ok (.iload_n 0, 1) := by decide +kernel
theorem own_d21_1 : decode prog_21_method_2_code 1 = .ok (.bipush 65, 2) := by decide +kernel
theorem own_d21_3 : decode prog_21_method_2_code 3 = .ok (.if_icmp .lt 9, 3) := by decide +kernel
theorem own_d21_6 : decode prog_21_method_2_code 6 = .ok (.iload_n 0, 1) := by decide +kernel
theorem own_d21_7 : decode prog_21_method_2_code 7 = .ok (.bipush 90, 2) := by decide +kernel
theorem own_d21_9 : decode prog_21_method_2_code 9 = .ok (.if_icmp .le 36, 3) := by decide +kernel
theorem own_d21_12 : decode prog_21_method_2_code 12 = .ok (.iload_n 0, 1) := by decide +kernel
theorem own_d21_13 : decode prog_21_method_2_code 13 = .ok (.bipush 97, 2) := by decide +kernel
theorem own_d21_15 : decode prog_21_method_2_code 15 = .ok (.if_icmp .lt 9, 3) := by decide +kernel
theorem own_d21_18 : decode prog_21_method_2_code 18 = .ok (.iload_n 0, 1) := by decide +kernel
theorem own_d21_19 : decode prog_21_method_2_code 19 = .ok (.bipush 122, 2) := by decide +kernel
theorem own_d21_21 : decode prog_21_method_2_code 21 = .ok (.if_icmp .le 24, 3) := by decide +kernel
theorem own_d21_24 : decode prog_21_method_2_code 24 = .ok (.iload_n 0, 1) := by decide +kernel
theorem own_d21_25 : decode prog_21_method_2_code 25 = .ok (.bipush 48, 2) := by decide +kernel
theorem own_d21_27 : decode prog_21_method_2_code 27 = .ok (.if_icmp .lt 9, 3) := by decide +kernel
theorem own_d21_30 : decode prog_21_method_2_code 30 = .ok (.iload_n 0, 1) := by decide +kernel
theorem own_d21_31 : decode prog_21_method_2_code 31 = .ok (.bipush 57, 2) := by decide +kernel
theorem own_d21_33 : decode prog_21_method_2_code 33 = .ok (.if_icmp .le 12, 3) := by decide +kernel
theorem own_d21_36 : decode prog_21_method_2_code 36 = .ok (.ldc 61, 2) := by decide +kernel
theorem own_d21_38 : decode prog_21_method_2_code 38 = .ok (.iload_n 0, 1) := by decide +kernel
theorem own_d21_39 : decode prog_21_method_2_code 39 = .ok (.invokevirtual 63, 3) := by decide +kernel
theorem own_d21_42 : decode prog_21_method_2_code 42 = .ok (.ifCond .lt 7, 3) := by decide +kernel
theorem own_d21_45 : decode prog_21_method_2_code 45 = .ok (.iconst 1, 1) := by decide +kernel
theorem own_d21_46 : decode prog_21_method_2_code 46 = .ok (.goto 4, 3) := by decide +kernel
theorem own_d21_50 : decode prog_21_method_2_code 50 = .ok (.ireturn, 1) := by decide +kernel
theorem own_ef9 (m : MethodId) (y0 : Int32) : entryFrame m #[(.int y0)] 1 = mkF m 0 #[.val (.int y0)] [] := by first | (simp [entryFrame, mkF, argsToLocals, Value.category]; done) | rfl
def Q9 (Z : State) (c : Int32) (G1 : Int32) (h0 : Heap) (n0 : Nat) (v : Option Value) (h : Heap) (L : List Loc) : Prop := v = some (.int 1) ∧ Fr n0 L ∧ Ext h0 h
set_option maxRecDepth 65536 in
set_option maxHeartbeats 40000000 in
theorem rm9 (l : Launch) (Z : State) (a0 : Array Value) (hw : ∀ d ∈ tables_1, d.before a0 Z = true) (ws : List Jvm.Cond) (c : Int32) (G1 : Int32) (h0 : Heap) (n0 : Nat) (O2 : Sta Z Z.heap "java/lang/String" "COMPACT_STRINGS" "Z" (.int G1)) (P5 : ¬ G1 = (0 : Int32)) (XO : Old Z n0 h0) (hok : own_ok c) :
    MetFree l (⟨"com/example/ferrolho/ferrolho/lock/LockName", "isAllowed", "(C)Z"⟩ : MethodName) (head1 (Jvm.Cond.code (⟨"com/example/ferrolho/ferrolho/lock/LockName", "isAllowed", "(C)Z"⟩ : MethodName) prog_21_method_2_code 1 (some .boolean) :: ws) ({ frames := 4, cells := 2, slots := 24, locals := 80 } : Room)) (fun aaz U => aaz = #[(.int c)] ∧ Z.Warmed39 U.vm ∧ U.heap = h0 ∧ CHv Z consts_1 U.vm h0) (fun _ _ _ _ _ => True) (fun _ U o U' => ∃ v L, o = .returned v ∧ Q9 Z c G1 h0 n0 v U'.heap L ∧ CHr Z consts_1 U.vm U.heap U'.vm U'.heap ∧ ReturnedEndW U o U' L ({ frames := 4, cells := 2, slots := 24, locals := 80 } : Room).cells ({ frames := 4, cells := 2, slots := 24, locals := 80 } : Room).slots) := by
  refine MetFree.of_bodySF (plainFor_of_name own_pn3) hisR ?_
  intro p e s m args below meth cde s₁ Bd hml0 hP hK
  obtain ⟨rfl, hZ, hh, hCH⟩ := hP
  have hx := Bd.exec
  have hby := Bd.bytes
  have hml : cde.maxLocals = 1 := hml0
  have hown : (s.setVm s.vm).vm.findClass "com/example/ferrolho/ferrolho/lock/LockName" = some m.cls := findClass_of_methodNamed Bd.named
  have hZ : Z.Warmed39 (s.setVm s.vm).vm := hZ
  have hnm := (name_of_methodNamed Bd.named Bd.method).1
  have X0 : Stand p l e ({ frames := 4, cells := 2, slots := 24, locals := 80 } : Room) (s.setVm s.vm) m #[(.int c)] below meth cde s₁ [] 0 0 := Stand.of_body Bd
  have e0 : s₁.heap = h0 := by rw [← hh, Bd.state]; rfl
  have N0 := Fr.nil n0
  have hS0 : s.Since s.vm h0.size := (State.WarmedH.refl s).since _
  have hk0 : h0.size ≤ h0.size := Nat.le_refl _
  have hEL := own_EW hw
  have CH : CHr Z consts_1 s.vm h0 (s.setVm s.vm).vm h0 := CHr.refl hCH
  have k : own_K p.tables e below (s₁.setTop (entryFrame m #[(.int c)] 1)) (s₁.setTop (mkF m 0 #[.val (.int c)] [])) := fun t h => castTop (own_ef9 m c) h
  refine cps (A := own_p5 c ∧ own_K p.tables e below (s₁.setTop (entryFrame m #[(.int c)] 1)) (s₁.setTop (mkF m 36 #[.val (.int c)] []))) (fun tail => ?_) ?_
  · replace k : own_K p.tables e below (s₁.setTop (entryFrame m #[(.int c)] 1)) (s₁.setTop (mkF m 1 #[.val (.int c)] [(.int c)])) := fun t h => k t (XS.iloadN X0.here hx rfl (hb hby own_d21_0) rfl h)
    replace k : own_K p.tables e below (s₁.setTop (entryFrame m #[(.int c)] 1)) (s₁.setTop (mkF m 3 #[.val (.int c)] [(.int (65 : Int32)), (.int c)])) := fun t h => k t (XS.bipush X0.here hx rfl (hb hby own_d21_1) h)
    by_cases cc1 : c < (65 : Int32)
    · replace k : own_K p.tables e below (s₁.setTop (entryFrame m #[(.int c)] 1)) (s₁.setTop (mkF m 12 #[.val (.int c)] [])) := fun t h => k t (XS.icmpYes X0.here hx rfl (pc0 := 3) (pc' := 12) rfl (hb hby own_d21_3) rfl (tlt cc1).1 (by decide) (by decide) h)
      replace k : own_K p.tables e below (s₁.setTop (entryFrame m #[(.int c)] 1)) (s₁.setTop (mkF m 13 #[.val (.int c)] [(.int c)])) := fun t h => k t (XS.iloadN X0.here hx rfl (hb hby own_d21_12) rfl h)
      replace k : own_K p.tables e below (s₁.setTop (entryFrame m #[(.int c)] 1)) (s₁.setTop (mkF m 15 #[.val (.int c)] [(.int (97 : Int32)), (.int c)])) := fun t h => k t (XS.bipush X0.here hx rfl (hb hby own_d21_13) h)
      by_cases cc2 : c < (97 : Int32)
      · replace k : own_K p.tables e below (s₁.setTop (entryFrame m #[(.int c)] 1)) (s₁.setTop (mkF m 24 #[.val (.int c)] [])) := fun t h => k t (XS.icmpYes X0.here hx rfl (pc0 := 15) (pc' := 24) rfl (hb hby own_d21_15) rfl (tlt cc2).1 (by decide) (by decide) h)
        replace k : own_K p.tables e below (s₁.setTop (entryFrame m #[(.int c)] 1)) (s₁.setTop (mkF m 25 #[.val (.int c)] [(.int c)])) := fun t h => k t (XS.iloadN X0.here hx rfl (hb hby own_d21_24) rfl h)
        replace k : own_K p.tables e below (s₁.setTop (entryFrame m #[(.int c)] 1)) (s₁.setTop (mkF m 27 #[.val (.int c)] [(.int (48 : Int32)), (.int c)])) := fun t h => k t (XS.bipush X0.here hx rfl (hb hby own_d21_25) h)
        by_cases cc3 : c < (48 : Int32)
        · replace k : own_K p.tables e below (s₁.setTop (entryFrame m #[(.int c)] 1)) (s₁.setTop (mkF m 36 #[.val (.int c)] [])) := fun t h => k t (XS.icmpYes X0.here hx rfl (pc0 := 27) (pc' := 36) rfl (hb hby own_d21_27) rfl (tlt cc3).1 (by decide) (by decide) h)
          rw [Int32.lt_iff_toInt_lt] at cc1
          rw [Int32.lt_iff_toInt_lt] at cc2
          rw [Int32.lt_iff_toInt_lt] at cc3
          have t65 : (65 : Int32).toInt = 65 := by decide
          have t90 : (90 : Int32).toInt = 90 := by decide
          have t97 : (97 : Int32).toInt = 97 := by decide
          have t122 : (122 : Int32).toInt = 122 := by decide
          have t48 : (48 : Int32).toInt = 48 := by decide
          have t57 : (57 : Int32).toInt = 57 := by decide
          unfold own_ok at hok
          exact tail ⟨own_p5_of (by omega), k⟩
        · replace k : own_K p.tables e below (s₁.setTop (entryFrame m #[(.int c)] 1)) (s₁.setTop (mkF m 30 #[.val (.int c)] [])) := fun t h => k t (XS.icmpNo X0.here hx rfl (hb hby own_d21_27) rfl (flt cc3).1 h)
          replace k : own_K p.tables e below (s₁.setTop (entryFrame m #[(.int c)] 1)) (s₁.setTop (mkF m 31 #[.val (.int c)] [(.int c)])) := fun t h => k t (XS.iloadN X0.here hx rfl (hb hby own_d21_30) rfl h)
          replace k : own_K p.tables e below (s₁.setTop (entryFrame m #[(.int c)] 1)) (s₁.setTop (mkF m 33 #[.val (.int c)] [(.int (57 : Int32)), (.int c)])) := fun t h => k t (XS.bipush X0.here hx rfl (hb hby own_d21_31) h)
          by_cases cc4 : (57 : Int32) < c
          · replace k : own_K p.tables e below (s₁.setTop (entryFrame m #[(.int c)] 1)) (s₁.setTop (mkF m 36 #[.val (.int c)] [])) := fun t h => k t (XS.icmpNo X0.here hx rfl (hb hby own_d21_33) rfl (tlt cc4).2.2.2 h)
            rw [Int32.lt_iff_toInt_lt] at cc1
            rw [Int32.lt_iff_toInt_lt] at cc2
            rw [Int32.lt_iff_toInt_lt] at cc3
            rw [Int32.lt_iff_toInt_lt] at cc4
            have t65 : (65 : Int32).toInt = 65 := by decide
            have t90 : (90 : Int32).toInt = 90 := by decide
            have t97 : (97 : Int32).toInt = 97 := by decide
            have t122 : (122 : Int32).toInt = 122 := by decide
            have t48 : (48 : Int32).toInt = 48 := by decide
            have t57 : (57 : Int32).toInt = 57 := by decide
            unfold own_ok at hok
            exact tail ⟨own_p5_of (by omega), k⟩
          · replace k : own_K p.tables e below (s₁.setTop (entryFrame m #[(.int c)] 1)) (s₁.setTop (mkF m 45 #[.val (.int c)] [])) := fun t h => k t (XS.icmpYes X0.here hx rfl (pc0 := 33) (pc' := 45) rfl (hb hby own_d21_33) rfl (flt cc4).2.2.2 (by decide) (by decide) h)
            replace k : own_K p.tables e below (s₁.setTop (entryFrame m #[(.int c)] 1)) (s₁.setTop (mkF m 46 #[.val (.int c)] [(.int (1 : Int32))])) := fun t h => k t (XS.iconst X0.here hx rfl (hb hby own_d21_45) h)
            replace k : own_K p.tables e below (s₁.setTop (entryFrame m #[(.int c)] 1)) (s₁.setTop (mkF m 50 #[.val (.int c)] [(.int (1 : Int32))])) := fun t h => k t (XS.goto X0.here hx rfl (pc0 := 46) (pc' := 50) rfl (hb hby own_d21_46) (by decide) (by decide) h)
            obtain ⟨fs, hr, hrun, hended, hEnd⟩ := X0.leaveW hS0 (by rw [e0]; exact hk0) (v := some (.int (1 : Int32))) (fun h => by rw [Bd.returns] at h; cases h) Bd.notSynchronized
            have CHe : CHr Z consts_1 s.vm s.heap (s₁.setFrames fs).vm (s₁.setFrames fs).heap := by
              show CHr Z consts_1 s.vm s.heap s₁.vm s₁.heap
              rw [hh, e0]
              exact CH.trans (CHv.at X0 hZ hEL CH.1)
            refine ⟨_, _, k _ (retOut X0 hx Bd.returns rfl (Or.inl ⟨rfl, by simp, _, rfl⟩) (hb hby own_d21_50) hr), hrun, hended, _, _, rfl, ?_, CHe, hEnd.1, hEnd.2.1, hEnd.2.2.1, hEnd.2.2.2.mono (by decide) (by decide)⟩
            show Q9 Z c G1 h0 n0 _ s₁.heap _
            rw [e0]
            exact ⟨rfl, N0, (own_extRefl _)⟩
      · replace k : own_K p.tables e below (s₁.setTop (entryFrame m #[(.int c)] 1)) (s₁.setTop (mkF m 18 #[.val (.int c)] [])) := fun t h => k t (XS.icmpNo X0.here hx rfl (hb hby own_d21_15) rfl (flt cc2).1 h)
        replace k : own_K p.tables e below (s₁.setTop (entryFrame m #[(.int c)] 1)) (s₁.setTop (mkF m 19 #[.val (.int c)] [(.int c)])) := fun t h => k t (XS.iloadN X0.here hx rfl (hb hby own_d21_18) rfl h)
        replace k : own_K p.tables e below (s₁.setTop (entryFrame m #[(.int c)] 1)) (s₁.setTop (mkF m 21 #[.val (.int c)] [(.int (122 : Int32)), (.int c)])) := fun t h => k t (XS.bipush X0.here hx rfl (hb hby own_d21_19) h)
        by_cases cc5 : (122 : Int32) < c
        · replace k : own_K p.tables e below (s₁.setTop (entryFrame m #[(.int c)] 1)) (s₁.setTop (mkF m 24 #[.val (.int c)] [])) := fun t h => k t (XS.icmpNo X0.here hx rfl (hb hby own_d21_21) rfl (tlt cc5).2.2.2 h)
          replace k : own_K p.tables e below (s₁.setTop (entryFrame m #[(.int c)] 1)) (s₁.setTop (mkF m 25 #[.val (.int c)] [(.int c)])) := fun t h => k t (XS.iloadN X0.here hx rfl (hb hby own_d21_24) rfl h)
          replace k : own_K p.tables e below (s₁.setTop (entryFrame m #[(.int c)] 1)) (s₁.setTop (mkF m 27 #[.val (.int c)] [(.int (48 : Int32)), (.int c)])) := fun t h => k t (XS.bipush X0.here hx rfl (hb hby own_d21_25) h)
          by_cases cc6 : c < (48 : Int32)
          · replace k : own_K p.tables e below (s₁.setTop (entryFrame m #[(.int c)] 1)) (s₁.setTop (mkF m 36 #[.val (.int c)] [])) := fun t h => k t (XS.icmpYes X0.here hx rfl (pc0 := 27) (pc' := 36) rfl (hb hby own_d21_27) rfl (tlt cc6).1 (by decide) (by decide) h)
            rw [Int32.lt_iff_toInt_lt] at cc1
            rw [Int32.lt_iff_toInt_lt] at cc2
            rw [Int32.lt_iff_toInt_lt] at cc5
            rw [Int32.lt_iff_toInt_lt] at cc6
            have t65 : (65 : Int32).toInt = 65 := by decide
            have t90 : (90 : Int32).toInt = 90 := by decide
            have t97 : (97 : Int32).toInt = 97 := by decide
            have t122 : (122 : Int32).toInt = 122 := by decide
            have t48 : (48 : Int32).toInt = 48 := by decide
            have t57 : (57 : Int32).toInt = 57 := by decide
            unfold own_ok at hok
            exact tail ⟨own_p5_of (by omega), k⟩
          · replace k : own_K p.tables e below (s₁.setTop (entryFrame m #[(.int c)] 1)) (s₁.setTop (mkF m 30 #[.val (.int c)] [])) := fun t h => k t (XS.icmpNo X0.here hx rfl (hb hby own_d21_27) rfl (flt cc6).1 h)
            replace k : own_K p.tables e below (s₁.setTop (entryFrame m #[(.int c)] 1)) (s₁.setTop (mkF m 31 #[.val (.int c)] [(.int c)])) := fun t h => k t (XS.iloadN X0.here hx rfl (hb hby own_d21_30) rfl h)
            replace k : own_K p.tables e below (s₁.setTop (entryFrame m #[(.int c)] 1)) (s₁.setTop (mkF m 33 #[.val (.int c)] [(.int (57 : Int32)), (.int c)])) := fun t h => k t (XS.bipush X0.here hx rfl (hb hby own_d21_31) h)
            by_cases cc7 : (57 : Int32) < c
            · replace k : own_K p.tables e below (s₁.setTop (entryFrame m #[(.int c)] 1)) (s₁.setTop (mkF m 36 #[.val (.int c)] [])) := fun t h => k t (XS.icmpNo X0.here hx rfl (hb hby own_d21_33) rfl (tlt cc7).2.2.2 h)
              rw [Int32.lt_iff_toInt_lt] at cc1
              rw [Int32.lt_iff_toInt_lt] at cc2
              rw [Int32.lt_iff_toInt_lt] at cc5
              rw [Int32.lt_iff_toInt_lt] at cc6
              rw [Int32.lt_iff_toInt_lt] at cc7
              have t65 : (65 : Int32).toInt = 65 := by decide
              have t90 : (90 : Int32).toInt = 90 := by decide
              have t97 : (97 : Int32).toInt = 97 := by decide
              have t122 : (122 : Int32).toInt = 122 := by decide
              have t48 : (48 : Int32).toInt = 48 := by decide
              have t57 : (57 : Int32).toInt = 57 := by decide
              unfold own_ok at hok
              exact tail ⟨own_p5_of (by omega), k⟩
            · replace k : own_K p.tables e below (s₁.setTop (entryFrame m #[(.int c)] 1)) (s₁.setTop (mkF m 45 #[.val (.int c)] [])) := fun t h => k t (XS.icmpYes X0.here hx rfl (pc0 := 33) (pc' := 45) rfl (hb hby own_d21_33) rfl (flt cc7).2.2.2 (by decide) (by decide) h)
              replace k : own_K p.tables e below (s₁.setTop (entryFrame m #[(.int c)] 1)) (s₁.setTop (mkF m 46 #[.val (.int c)] [(.int (1 : Int32))])) := fun t h => k t (XS.iconst X0.here hx rfl (hb hby own_d21_45) h)
              replace k : own_K p.tables e below (s₁.setTop (entryFrame m #[(.int c)] 1)) (s₁.setTop (mkF m 50 #[.val (.int c)] [(.int (1 : Int32))])) := fun t h => k t (XS.goto X0.here hx rfl (pc0 := 46) (pc' := 50) rfl (hb hby own_d21_46) (by decide) (by decide) h)
              obtain ⟨fs, hr, hrun, hended, hEnd⟩ := X0.leaveW hS0 (by rw [e0]; exact hk0) (v := some (.int (1 : Int32))) (fun h => by rw [Bd.returns] at h; cases h) Bd.notSynchronized
              have CHe : CHr Z consts_1 s.vm s.heap (s₁.setFrames fs).vm (s₁.setFrames fs).heap := by
                show CHr Z consts_1 s.vm s.heap s₁.vm s₁.heap
                rw [hh, e0]
                exact CH.trans (CHv.at X0 hZ hEL CH.1)
              refine ⟨_, _, k _ (retOut X0 hx Bd.returns rfl (Or.inl ⟨rfl, by simp, _, rfl⟩) (hb hby own_d21_50) hr), hrun, hended, _, _, rfl, ?_, CHe, hEnd.1, hEnd.2.1, hEnd.2.2.1, hEnd.2.2.2.mono (by decide) (by decide)⟩
              show Q9 Z c G1 h0 n0 _ s₁.heap _
              rw [e0]
              exact ⟨rfl, N0, (own_extRefl _)⟩
        · replace k : own_K p.tables e below (s₁.setTop (entryFrame m #[(.int c)] 1)) (s₁.setTop (mkF m 45 #[.val (.int c)] [])) := fun t h => k t (XS.icmpYes X0.here hx rfl (pc0 := 21) (pc' := 45) rfl (hb hby own_d21_21) rfl (flt cc5).2.2.2 (by decide) (by decide) h)
          replace k : own_K p.tables e below (s₁.setTop (entryFrame m #[(.int c)] 1)) (s₁.setTop (mkF m 46 #[.val (.int c)] [(.int (1 : Int32))])) := fun t h => k t (XS.iconst X0.here hx rfl (hb hby own_d21_45) h)
          replace k : own_K p.tables e below (s₁.setTop (entryFrame m #[(.int c)] 1)) (s₁.setTop (mkF m 50 #[.val (.int c)] [(.int (1 : Int32))])) := fun t h => k t (XS.goto X0.here hx rfl (pc0 := 46) (pc' := 50) rfl (hb hby own_d21_46) (by decide) (by decide) h)
          obtain ⟨fs, hr, hrun, hended, hEnd⟩ := X0.leaveW hS0 (by rw [e0]; exact hk0) (v := some (.int (1 : Int32))) (fun h => by rw [Bd.returns] at h; cases h) Bd.notSynchronized
          have CHe : CHr Z consts_1 s.vm s.heap (s₁.setFrames fs).vm (s₁.setFrames fs).heap := by
            show CHr Z consts_1 s.vm s.heap s₁.vm s₁.heap
            rw [hh, e0]
            exact CH.trans (CHv.at X0 hZ hEL CH.1)
          refine ⟨_, _, k _ (retOut X0 hx Bd.returns rfl (Or.inl ⟨rfl, by simp, _, rfl⟩) (hb hby own_d21_50) hr), hrun, hended, _, _, rfl, ?_, CHe, hEnd.1, hEnd.2.1, hEnd.2.2.1, hEnd.2.2.2.mono (by decide) (by decide)⟩
          show Q9 Z c G1 h0 n0 _ s₁.heap _
          rw [e0]
          exact ⟨rfl, N0, (own_extRefl _)⟩
    · replace k : own_K p.tables e below (s₁.setTop (entryFrame m #[(.int c)] 1)) (s₁.setTop (mkF m 6 #[.val (.int c)] [])) := fun t h => k t (XS.icmpNo X0.here hx rfl (hb hby own_d21_3) rfl (flt cc1).1 h)
      replace k : own_K p.tables e below (s₁.setTop (entryFrame m #[(.int c)] 1)) (s₁.setTop (mkF m 7 #[.val (.int c)] [(.int c)])) := fun t h => k t (XS.iloadN X0.here hx rfl (hb hby own_d21_6) rfl h)
      replace k : own_K p.tables e below (s₁.setTop (entryFrame m #[(.int c)] 1)) (s₁.setTop (mkF m 9 #[.val (.int c)] [(.int (90 : Int32)), (.int c)])) := fun t h => k t (XS.bipush X0.here hx rfl (hb hby own_d21_7) h)
      by_cases cc8 : (90 : Int32) < c
      · replace k : own_K p.tables e below (s₁.setTop (entryFrame m #[(.int c)] 1)) (s₁.setTop (mkF m 12 #[.val (.int c)] [])) := fun t h => k t (XS.icmpNo X0.here hx rfl (hb hby own_d21_9) rfl (tlt cc8).2.2.2 h)
        replace k : own_K p.tables e below (s₁.setTop (entryFrame m #[(.int c)] 1)) (s₁.setTop (mkF m 13 #[.val (.int c)] [(.int c)])) := fun t h => k t (XS.iloadN X0.here hx rfl (hb hby own_d21_12) rfl h)
        replace k : own_K p.tables e below (s₁.setTop (entryFrame m #[(.int c)] 1)) (s₁.setTop (mkF m 15 #[.val (.int c)] [(.int (97 : Int32)), (.int c)])) := fun t h => k t (XS.bipush X0.here hx rfl (hb hby own_d21_13) h)
        by_cases cc9 : c < (97 : Int32)
        · replace k : own_K p.tables e below (s₁.setTop (entryFrame m #[(.int c)] 1)) (s₁.setTop (mkF m 24 #[.val (.int c)] [])) := fun t h => k t (XS.icmpYes X0.here hx rfl (pc0 := 15) (pc' := 24) rfl (hb hby own_d21_15) rfl (tlt cc9).1 (by decide) (by decide) h)
          replace k : own_K p.tables e below (s₁.setTop (entryFrame m #[(.int c)] 1)) (s₁.setTop (mkF m 25 #[.val (.int c)] [(.int c)])) := fun t h => k t (XS.iloadN X0.here hx rfl (hb hby own_d21_24) rfl h)
          replace k : own_K p.tables e below (s₁.setTop (entryFrame m #[(.int c)] 1)) (s₁.setTop (mkF m 27 #[.val (.int c)] [(.int (48 : Int32)), (.int c)])) := fun t h => k t (XS.bipush X0.here hx rfl (hb hby own_d21_25) h)
          by_cases cc10 : c < (48 : Int32)
          · replace k : own_K p.tables e below (s₁.setTop (entryFrame m #[(.int c)] 1)) (s₁.setTop (mkF m 36 #[.val (.int c)] [])) := fun t h => k t (XS.icmpYes X0.here hx rfl (pc0 := 27) (pc' := 36) rfl (hb hby own_d21_27) rfl (tlt cc10).1 (by decide) (by decide) h)
            rw [Int32.lt_iff_toInt_lt] at cc1
            rw [Int32.lt_iff_toInt_lt] at cc8
            rw [Int32.lt_iff_toInt_lt] at cc9
            rw [Int32.lt_iff_toInt_lt] at cc10
            have t65 : (65 : Int32).toInt = 65 := by decide
            have t90 : (90 : Int32).toInt = 90 := by decide
            have t97 : (97 : Int32).toInt = 97 := by decide
            have t122 : (122 : Int32).toInt = 122 := by decide
            have t48 : (48 : Int32).toInt = 48 := by decide
            have t57 : (57 : Int32).toInt = 57 := by decide
            unfold own_ok at hok
            exact tail ⟨own_p5_of (by omega), k⟩
          · replace k : own_K p.tables e below (s₁.setTop (entryFrame m #[(.int c)] 1)) (s₁.setTop (mkF m 30 #[.val (.int c)] [])) := fun t h => k t (XS.icmpNo X0.here hx rfl (hb hby own_d21_27) rfl (flt cc10).1 h)
            replace k : own_K p.tables e below (s₁.setTop (entryFrame m #[(.int c)] 1)) (s₁.setTop (mkF m 31 #[.val (.int c)] [(.int c)])) := fun t h => k t (XS.iloadN X0.here hx rfl (hb hby own_d21_30) rfl h)
            replace k : own_K p.tables e below (s₁.setTop (entryFrame m #[(.int c)] 1)) (s₁.setTop (mkF m 33 #[.val (.int c)] [(.int (57 : Int32)), (.int c)])) := fun t h => k t (XS.bipush X0.here hx rfl (hb hby own_d21_31) h)
            by_cases cc11 : (57 : Int32) < c
            · replace k : own_K p.tables e below (s₁.setTop (entryFrame m #[(.int c)] 1)) (s₁.setTop (mkF m 36 #[.val (.int c)] [])) := fun t h => k t (XS.icmpNo X0.here hx rfl (hb hby own_d21_33) rfl (tlt cc11).2.2.2 h)
              rw [Int32.lt_iff_toInt_lt] at cc1
              rw [Int32.lt_iff_toInt_lt] at cc8
              rw [Int32.lt_iff_toInt_lt] at cc9
              rw [Int32.lt_iff_toInt_lt] at cc10
              rw [Int32.lt_iff_toInt_lt] at cc11
              have t65 : (65 : Int32).toInt = 65 := by decide
              have t90 : (90 : Int32).toInt = 90 := by decide
              have t97 : (97 : Int32).toInt = 97 := by decide
              have t122 : (122 : Int32).toInt = 122 := by decide
              have t48 : (48 : Int32).toInt = 48 := by decide
              have t57 : (57 : Int32).toInt = 57 := by decide
              unfold own_ok at hok
              exact tail ⟨own_p5_of (by omega), k⟩
            · replace k : own_K p.tables e below (s₁.setTop (entryFrame m #[(.int c)] 1)) (s₁.setTop (mkF m 45 #[.val (.int c)] [])) := fun t h => k t (XS.icmpYes X0.here hx rfl (pc0 := 33) (pc' := 45) rfl (hb hby own_d21_33) rfl (flt cc11).2.2.2 (by decide) (by decide) h)
              replace k : own_K p.tables e below (s₁.setTop (entryFrame m #[(.int c)] 1)) (s₁.setTop (mkF m 46 #[.val (.int c)] [(.int (1 : Int32))])) := fun t h => k t (XS.iconst X0.here hx rfl (hb hby own_d21_45) h)
              replace k : own_K p.tables e below (s₁.setTop (entryFrame m #[(.int c)] 1)) (s₁.setTop (mkF m 50 #[.val (.int c)] [(.int (1 : Int32))])) := fun t h => k t (XS.goto X0.here hx rfl (pc0 := 46) (pc' := 50) rfl (hb hby own_d21_46) (by decide) (by decide) h)
              obtain ⟨fs, hr, hrun, hended, hEnd⟩ := X0.leaveW hS0 (by rw [e0]; exact hk0) (v := some (.int (1 : Int32))) (fun h => by rw [Bd.returns] at h; cases h) Bd.notSynchronized
              have CHe : CHr Z consts_1 s.vm s.heap (s₁.setFrames fs).vm (s₁.setFrames fs).heap := by
                show CHr Z consts_1 s.vm s.heap s₁.vm s₁.heap
                rw [hh, e0]
                exact CH.trans (CHv.at X0 hZ hEL CH.1)
              refine ⟨_, _, k _ (retOut X0 hx Bd.returns rfl (Or.inl ⟨rfl, by simp, _, rfl⟩) (hb hby own_d21_50) hr), hrun, hended, _, _, rfl, ?_, CHe, hEnd.1, hEnd.2.1, hEnd.2.2.1, hEnd.2.2.2.mono (by decide) (by decide)⟩
              show Q9 Z c G1 h0 n0 _ s₁.heap _
              rw [e0]
              exact ⟨rfl, N0, (own_extRefl _)⟩
        · replace k : own_K p.tables e below (s₁.setTop (entryFrame m #[(.int c)] 1)) (s₁.setTop (mkF m 18 #[.val (.int c)] [])) := fun t h => k t (XS.icmpNo X0.here hx rfl (hb hby own_d21_15) rfl (flt cc9).1 h)
          replace k : own_K p.tables e below (s₁.setTop (entryFrame m #[(.int c)] 1)) (s₁.setTop (mkF m 19 #[.val (.int c)] [(.int c)])) := fun t h => k t (XS.iloadN X0.here hx rfl (hb hby own_d21_18) rfl h)
          replace k : own_K p.tables e below (s₁.setTop (entryFrame m #[(.int c)] 1)) (s₁.setTop (mkF m 21 #[.val (.int c)] [(.int (122 : Int32)), (.int c)])) := fun t h => k t (XS.bipush X0.here hx rfl (hb hby own_d21_19) h)
          by_cases cc12 : (122 : Int32) < c
          · replace k : own_K p.tables e below (s₁.setTop (entryFrame m #[(.int c)] 1)) (s₁.setTop (mkF m 24 #[.val (.int c)] [])) := fun t h => k t (XS.icmpNo X0.here hx rfl (hb hby own_d21_21) rfl (tlt cc12).2.2.2 h)
            replace k : own_K p.tables e below (s₁.setTop (entryFrame m #[(.int c)] 1)) (s₁.setTop (mkF m 25 #[.val (.int c)] [(.int c)])) := fun t h => k t (XS.iloadN X0.here hx rfl (hb hby own_d21_24) rfl h)
            replace k : own_K p.tables e below (s₁.setTop (entryFrame m #[(.int c)] 1)) (s₁.setTop (mkF m 27 #[.val (.int c)] [(.int (48 : Int32)), (.int c)])) := fun t h => k t (XS.bipush X0.here hx rfl (hb hby own_d21_25) h)
            by_cases cc13 : c < (48 : Int32)
            · replace k : own_K p.tables e below (s₁.setTop (entryFrame m #[(.int c)] 1)) (s₁.setTop (mkF m 36 #[.val (.int c)] [])) := fun t h => k t (XS.icmpYes X0.here hx rfl (pc0 := 27) (pc' := 36) rfl (hb hby own_d21_27) rfl (tlt cc13).1 (by decide) (by decide) h)
              rw [Int32.lt_iff_toInt_lt] at cc1
              rw [Int32.lt_iff_toInt_lt] at cc8
              rw [Int32.lt_iff_toInt_lt] at cc9
              rw [Int32.lt_iff_toInt_lt] at cc12
              rw [Int32.lt_iff_toInt_lt] at cc13
              have t65 : (65 : Int32).toInt = 65 := by decide
              have t90 : (90 : Int32).toInt = 90 := by decide
              have t97 : (97 : Int32).toInt = 97 := by decide
              have t122 : (122 : Int32).toInt = 122 := by decide
              have t48 : (48 : Int32).toInt = 48 := by decide
              have t57 : (57 : Int32).toInt = 57 := by decide
              unfold own_ok at hok
              exact tail ⟨own_p5_of (by omega), k⟩
            · replace k : own_K p.tables e below (s₁.setTop (entryFrame m #[(.int c)] 1)) (s₁.setTop (mkF m 30 #[.val (.int c)] [])) := fun t h => k t (XS.icmpNo X0.here hx rfl (hb hby own_d21_27) rfl (flt cc13).1 h)
              replace k : own_K p.tables e below (s₁.setTop (entryFrame m #[(.int c)] 1)) (s₁.setTop (mkF m 31 #[.val (.int c)] [(.int c)])) := fun t h => k t (XS.iloadN X0.here hx rfl (hb hby own_d21_30) rfl h)
              replace k : own_K p.tables e below (s₁.setTop (entryFrame m #[(.int c)] 1)) (s₁.setTop (mkF m 33 #[.val (.int c)] [(.int (57 : Int32)), (.int c)])) := fun t h => k t (XS.bipush X0.here hx rfl (hb hby own_d21_31) h)
              by_cases cc14 : (57 : Int32) < c
              · replace k : own_K p.tables e below (s₁.setTop (entryFrame m #[(.int c)] 1)) (s₁.setTop (mkF m 36 #[.val (.int c)] [])) := fun t h => k t (XS.icmpNo X0.here hx rfl (hb hby own_d21_33) rfl (tlt cc14).2.2.2 h)
                rw [Int32.lt_iff_toInt_lt] at cc1
                rw [Int32.lt_iff_toInt_lt] at cc8
                rw [Int32.lt_iff_toInt_lt] at cc9
                rw [Int32.lt_iff_toInt_lt] at cc12
                rw [Int32.lt_iff_toInt_lt] at cc13
                rw [Int32.lt_iff_toInt_lt] at cc14
                have t65 : (65 : Int32).toInt = 65 := by decide
                have t90 : (90 : Int32).toInt = 90 := by decide
                have t97 : (97 : Int32).toInt = 97 := by decide
                have t122 : (122 : Int32).toInt = 122 := by decide
                have t48 : (48 : Int32).toInt = 48 := by decide
                have t57 : (57 : Int32).toInt = 57 := by decide
                unfold own_ok at hok
                exact tail ⟨own_p5_of (by omega), k⟩
              · replace k : own_K p.tables e below (s₁.setTop (entryFrame m #[(.int c)] 1)) (s₁.setTop (mkF m 45 #[.val (.int c)] [])) := fun t h => k t (XS.icmpYes X0.here hx rfl (pc0 := 33) (pc' := 45) rfl (hb hby own_d21_33) rfl (flt cc14).2.2.2 (by decide) (by decide) h)
                replace k : own_K p.tables e below (s₁.setTop (entryFrame m #[(.int c)] 1)) (s₁.setTop (mkF m 46 #[.val (.int c)] [(.int (1 : Int32))])) := fun t h => k t (XS.iconst X0.here hx rfl (hb hby own_d21_45) h)
                replace k : own_K p.tables e below (s₁.setTop (entryFrame m #[(.int c)] 1)) (s₁.setTop (mkF m 50 #[.val (.int c)] [(.int (1 : Int32))])) := fun t h => k t (XS.goto X0.here hx rfl (pc0 := 46) (pc' := 50) rfl (hb hby own_d21_46) (by decide) (by decide) h)
                obtain ⟨fs, hr, hrun, hended, hEnd⟩ := X0.leaveW hS0 (by rw [e0]; exact hk0) (v := some (.int (1 : Int32))) (fun h => by rw [Bd.returns] at h; cases h) Bd.notSynchronized
                have CHe : CHr Z consts_1 s.vm s.heap (s₁.setFrames fs).vm (s₁.setFrames fs).heap := by
                  show CHr Z consts_1 s.vm s.heap s₁.vm s₁.heap
                  rw [hh, e0]
                  exact CH.trans (CHv.at X0 hZ hEL CH.1)
                refine ⟨_, _, k _ (retOut X0 hx Bd.returns rfl (Or.inl ⟨rfl, by simp, _, rfl⟩) (hb hby own_d21_50) hr), hrun, hended, _, _, rfl, ?_, CHe, hEnd.1, hEnd.2.1, hEnd.2.2.1, hEnd.2.2.2.mono (by decide) (by decide)⟩
                show Q9 Z c G1 h0 n0 _ s₁.heap _
                rw [e0]
                exact ⟨rfl, N0, (own_extRefl _)⟩
          · replace k : own_K p.tables e below (s₁.setTop (entryFrame m #[(.int c)] 1)) (s₁.setTop (mkF m 45 #[.val (.int c)] [])) := fun t h => k t (XS.icmpYes X0.here hx rfl (pc0 := 21) (pc' := 45) rfl (hb hby own_d21_21) rfl (flt cc12).2.2.2 (by decide) (by decide) h)
            replace k : own_K p.tables e below (s₁.setTop (entryFrame m #[(.int c)] 1)) (s₁.setTop (mkF m 46 #[.val (.int c)] [(.int (1 : Int32))])) := fun t h => k t (XS.iconst X0.here hx rfl (hb hby own_d21_45) h)
            replace k : own_K p.tables e below (s₁.setTop (entryFrame m #[(.int c)] 1)) (s₁.setTop (mkF m 50 #[.val (.int c)] [(.int (1 : Int32))])) := fun t h => k t (XS.goto X0.here hx rfl (pc0 := 46) (pc' := 50) rfl (hb hby own_d21_46) (by decide) (by decide) h)
            obtain ⟨fs, hr, hrun, hended, hEnd⟩ := X0.leaveW hS0 (by rw [e0]; exact hk0) (v := some (.int (1 : Int32))) (fun h => by rw [Bd.returns] at h; cases h) Bd.notSynchronized
            have CHe : CHr Z consts_1 s.vm s.heap (s₁.setFrames fs).vm (s₁.setFrames fs).heap := by
              show CHr Z consts_1 s.vm s.heap s₁.vm s₁.heap
              rw [hh, e0]
              exact CH.trans (CHv.at X0 hZ hEL CH.1)
            refine ⟨_, _, k _ (retOut X0 hx Bd.returns rfl (Or.inl ⟨rfl, by simp, _, rfl⟩) (hb hby own_d21_50) hr), hrun, hended, _, _, rfl, ?_, CHe, hEnd.1, hEnd.2.1, hEnd.2.2.1, hEnd.2.2.2.mono (by decide) (by decide)⟩
            show Q9 Z c G1 h0 n0 _ s₁.heap _
            rw [e0]
            exact ⟨rfl, N0, (own_extRefl _)⟩
      · replace k : own_K p.tables e below (s₁.setTop (entryFrame m #[(.int c)] 1)) (s₁.setTop (mkF m 45 #[.val (.int c)] [])) := fun t h => k t (XS.icmpYes X0.here hx rfl (pc0 := 9) (pc' := 45) rfl (hb hby own_d21_9) rfl (flt cc8).2.2.2 (by decide) (by decide) h)
        replace k : own_K p.tables e below (s₁.setTop (entryFrame m #[(.int c)] 1)) (s₁.setTop (mkF m 46 #[.val (.int c)] [(.int (1 : Int32))])) := fun t h => k t (XS.iconst X0.here hx rfl (hb hby own_d21_45) h)
        replace k : own_K p.tables e below (s₁.setTop (entryFrame m #[(.int c)] 1)) (s₁.setTop (mkF m 50 #[.val (.int c)] [(.int (1 : Int32))])) := fun t h => k t (XS.goto X0.here hx rfl (pc0 := 46) (pc' := 50) rfl (hb hby own_d21_46) (by decide) (by decide) h)
        obtain ⟨fs, hr, hrun, hended, hEnd⟩ := X0.leaveW hS0 (by rw [e0]; exact hk0) (v := some (.int (1 : Int32))) (fun h => by rw [Bd.returns] at h; cases h) Bd.notSynchronized
        have CHe : CHr Z consts_1 s.vm s.heap (s₁.setFrames fs).vm (s₁.setFrames fs).heap := by
          show CHr Z consts_1 s.vm s.heap s₁.vm s₁.heap
          rw [hh, e0]
          exact CH.trans (CHv.at X0 hZ hEL CH.1)
        refine ⟨_, _, k _ (retOut X0 hx Bd.returns rfl (Or.inl ⟨rfl, by simp, _, rfl⟩) (hb hby own_d21_50) hr), hrun, hended, _, _, rfl, ?_, CHe, hEnd.1, hEnd.2.1, hEnd.2.2.1, hEnd.2.2.2.mono (by decide) (by decide)⟩
        show Q9 Z c G1 h0 n0 _ s₁.heap _
        rw [e0]
        exact ⟨rfl, N0, (own_extRefl _)⟩
  · rintro ⟨hp, k⟩
    obtain ⟨b15, T15, h15, k15, t15, kb15, X15, e15, E15, hS15, hk15, hZ15, hown15, LE15, LC15, LV15, LK15, -, -, CH15, -, -, st15⟩ := ldcCH X0 hx hZ hown (hw _ (List.mem_of_getElem? (i := 124) rfl)) (own_wS hw) e0 hS0 hk0 hEL (by decide) CH.1 (vs := ([.int 46, .int 95, .int 58, .int 47, .int 45] : List Value)) (z := (5 : Int32)) own_lit61 (by decide) (by decide) (g := (mkF m 36 #[.val (.int c)] [])) rfl (hb hby own_d21_36) (n := 20) (by first | decide | decide +kernel | simp) (by decide) (by decide) (by decide)
    replace CH := CH.trans CH15
    replace k : own_K p.tables e below (s₁.setTop (entryFrame m #[(.int c)] 1)) (T15.setTop (mkF m 38 #[.val (.int c)] [(.ref b15)])) := fun t h => k t (st15 _ h)
    replace XO := XO.ext E15
    have XE := E15
    replace k : own_K p.tables e below (s₁.setTop (entryFrame m #[(.int c)] 1)) (T15.setTop (mkF m 39 #[.val (.int c)] [(.int c), (.ref b15)])) := fun t h => k t (XS.iloadN X15.here hx rfl (hb hby own_d21_38) rfl h)
    obtain ⟨hb0, hb1⟩ := own_bd hok
    obtain ⟨cq17, kq17, q17a, q17b, q17c⟩ := isOf hZ15 e15 LE15
    obtain ⟨_, _, ⟨T17, L17, kk17, n17⟩, -, X17, ⟨Lc17, hQ17, l17, y17, z17⟩, st17⟩ := X15.virtualBack hx (y := (⟨"java/lang/String", "indexOf", "(I)I"⟩ : MethodName)) (z := (⟨"java/lang/String", "indexOf", "(I)I"⟩ : MethodName)) hown15 (mvT hZ15 (hw _ (List.mem_of_getElem? (i := 125) rfl))) (mvT hZ15 (hw _ (List.mem_of_getElem? (i := 126) rfl))) (notFace_of_selects (args := #[]) (mvT hZ15 (hw _ (List.mem_of_getElem? (i := 128) rfl)))) (mvT hZ15 (hw _ (List.mem_of_getElem? (i := 128) rfl))) (mvT hZ15 (hw _ (List.mem_of_getElem? (i := 127) rfl))) (by decide) (backOf (W := 0) (rm8 l Z a0 hw [] b15 t15 kb15 c G1 h15 n0 O2 P5 XO LE15 LV15 LC15 LK15 hp hb0 hb1) hZ15 (hw _ (List.mem_of_getElem? (i := 129) rfl)) (hw _ (List.mem_of_getElem? (i := 14) rfl)) (by decide) (by decide)) q17a q17c (g := (mkF m 39 #[.val (.int c)] [(.int c), (.ref b15)])) rfl (by rw [hml]; rfl) (Steps.refl _) (argsL := [(.int c)]) (rest := []) (lenOf own_pd5 rfl) rfl (by show 2 * 0 + _ ≤ _; exact Nat.le_of_eq rfl) (hb hby own_d21_39) (fun _ _ => ⟨rfl, e15, (by decide : 2 + 0 ≤ _), (by decide : 24 + 0 ≤ _)⟩)
    dsimp only [Pt.U, Pt.locs, Pt.cells, Pt.slots] at X17 l17 y17 z17 st17 hQ17
    subst l17 y17 z17
    obtain ⟨rfl, N17q, eq16⟩ := hQ17
    have N17 := Fr.app N0 N17q
    replace k : own_K p.tables e below (s₁.setTop (entryFrame m #[(.int c)] 1)) (T17.setTop (mkF m 42 #[.val (.int c)] [(.int (own_pos c))])) := fun t h => k t (st17.trans h)
    replace k : own_K p.tables e below (s₁.setTop (entryFrame m #[(.int c)] 1)) (T17.setTop (mkF m 45 #[.val (.int c)] [])) := fun t h => k t (XS.ifNo X17.here hx rfl (hb hby own_d21_42) rfl ((if0 _ _).trans (flt (own_pos_ge c)).1) h)
    replace k : own_K p.tables e below (s₁.setTop (entryFrame m #[(.int c)] 1)) (T17.setTop (mkF m 46 #[.val (.int c)] [(.int (1 : Int32))])) := fun t h => k t (XS.iconst X17.here hx rfl (hb hby own_d21_45) h)
    replace k : own_K p.tables e below (s₁.setTop (entryFrame m #[(.int c)] 1)) (T17.setTop (mkF m 50 #[.val (.int c)] [(.int (1 : Int32))])) := fun t h => k t (XS.goto X17.here hx rfl (pc0 := 46) (pc' := 50) rfl (hb hby own_d21_46) (by decide) (by decide) h)
    obtain ⟨fs, hr, hrun, hended, hEnd⟩ := X17.leaveW hS15 (by rw [eq16]; exact hk15) (v := some (.int (1 : Int32))) (fun h => by rw [Bd.returns] at h; cases h) Bd.notSynchronized
    have CHe : CHr Z consts_1 s.vm s.heap (T17.setFrames fs).vm (T17.setFrames fs).heap := by
      show CHr Z consts_1 s.vm s.heap T17.vm T17.heap
      rw [hh, eq16]
      exact CH.trans (CHv.at X17 hZ15 hEL CH.1)
    refine ⟨_, _, k _ (retOut X17 hx Bd.returns rfl (Or.inl ⟨rfl, by simp, _, rfl⟩) (hb hby own_d21_50) hr), hrun, hended, _, _, rfl, ?_, CHe, hEnd.1, hEnd.2.1, hEnd.2.2.1, hEnd.2.2.2.mono (by decide) (by decide)⟩
    show Q9 Z c G1 h0 n0 _ T17.heap _
    rw [eq16]
    exact ⟨rfl, N17, XE⟩
theorem own_pn4 : plainName "java/util/Objects" = true := by first | (simp [plainName, overriddenIn]; done) | decide +kernel
theorem own_d10_0 : decode jdk_31_method_11_code 0 = .ok (.aload_n 0, 1) := by decide +kernel
theorem own_d10_1 : decode jdk_31_method_11_code 1 = .ok (.ifnonnull 12, 3) := by decide +kernel
theorem own_d10_13 : decode jdk_31_method_11_code 13 = .ok (.aload_n 0, 1) := by decide +kernel
theorem own_d10_14 : decode jdk_31_method_11_code 14 = .ok (.areturn, 1) := by decide +kernel
theorem own_ef10 (m : MethodId) (y0 : Addr) (y1 : Addr) : entryFrame m #[(.ref y0), (.ref y1)] 2 = mkF m 0 #[.val (.ref y0), .val (.ref y1)] [] := by first | (simp [entryFrame, mkF, argsToLocals, Value.category]; done) | rfl
def Q10 (Z : State) (o1 : Addr) (s1 : Addr) (h0 : Heap) (n0 : Nat) (v : Option Value) (h : Heap) (L : List Loc) : Prop := v = some (.ref o1) ∧ Fr n0 L ∧ h = h0
set_option maxRecDepth 65536 in
set_option maxHeartbeats 40000000 in
theorem rm10 (l : Launch) (Z : State) (a0 : Array Value) (hw : ∀ d ∈ tables_1, d.before a0 Z = true) (ws : List Jvm.Cond) (o1 : Addr) (s1 : Addr) (h0 : Heap) (n0 : Nat) :
    MetFree l (⟨"java/util/Objects", "requireNonNull", "(Ljava/lang/Object;Ljava/lang/String;)Ljava/lang/Object;"⟩ : MethodName) (head1 (Jvm.Cond.code (⟨"java/util/Objects", "requireNonNull", "(Ljava/lang/Object;Ljava/lang/String;)Ljava/lang/Object;"⟩ : MethodName) jdk_31_method_11_code 2 (some (.object "java/lang/Object")) :: ws) ({ frames := 0, cells := 0, slots := 0, locals := 0 } : Room)) (fun aaz U => aaz = #[(.ref o1), (.ref s1)] ∧ Z.Warmed39 U.vm ∧ U.heap = h0) (fun _ _ _ _ _ => True) (fun _ U o U' => ∃ v L, o = .returned v ∧ Q10 Z o1 s1 h0 n0 v U'.heap L ∧ FrameEnd U o U' L ({ frames := 0, cells := 0, slots := 0, locals := 0 } : Room).cells ({ frames := 0, cells := 0, slots := 0, locals := 0 } : Room).slots) := by
  refine MetFree.of_bodySF (plainFor_of_name own_pn4) hisR ?_
  intro p e s m args below meth cde s₁ Bd hml0 hP hK
  obtain ⟨rfl, hZ, hh⟩ := hP
  have hx := Bd.exec
  have hby := Bd.bytes
  have hml : cde.maxLocals = 2 := hml0
  have hown : s.vm.findClass "java/util/Objects" = some m.cls := findClass_of_methodNamed Bd.named
  have hnm := (name_of_methodNamed Bd.named Bd.method).1
  have X0 : Stand p l e ({ frames := 0, cells := 0, slots := 0, locals := 0 } : Room) s m #[(.ref o1), (.ref s1)] below meth cde s₁ [] 0 0 := Stand.of_body Bd
  have e0 : s₁.heap = h0 := by rw [← hh, Bd.state]; rfl
  have N0 := Fr.nil n0
  have k : own_K p.tables e below (s₁.setTop (entryFrame m #[(.ref o1), (.ref s1)] 2)) (s₁.setTop (mkF m 0 #[.val (.ref o1), .val (.ref s1)] [])) := fun t h => castTop (own_ef10 m o1 s1) h
  replace k : own_K p.tables e below (s₁.setTop (entryFrame m #[(.ref o1), (.ref s1)] 2)) (s₁.setTop (mkF m 1 #[.val (.ref o1), .val (.ref s1)] [(.ref o1)])) := fun t h => k t (XS.aloadN X0.here hx rfl (hb hby own_d10_0) rfl rfl h)
  replace k : own_K p.tables e below (s₁.setTop (entryFrame m #[(.ref o1), (.ref s1)] 2)) (s₁.setTop (mkF m 13 #[.val (.ref o1), .val (.ref s1)] [])) := fun t h => k t (XS.ifnonnullYes X0.here hx rfl (pc0 := 1) (pc' := 13) rfl (hb hby own_d10_1) rfl (by decide) (by decide) h)
  replace k : own_K p.tables e below (s₁.setTop (entryFrame m #[(.ref o1), (.ref s1)] 2)) (s₁.setTop (mkF m 14 #[.val (.ref o1), .val (.ref s1)] [(.ref o1)])) := fun t h => k t (XS.aloadN X0.here hx rfl (hb hby own_d10_13) rfl rfl h)
  obtain ⟨fs, hr, hrun, hended, hW, hsame⟩ := X0.leave (v := some (.ref o1)) (fun h => by rw [Bd.returns] at h; cases h) Bd.notSynchronized
  refine ⟨_, _, k _ (retOut X0 hx Bd.returns rfl (Or.inr (Or.inr (Or.inr (Or.inr ⟨rfl, rfl, rfl⟩)))) (hb hby own_d10_14) hr), hrun, hended, _, _, rfl, ?_, ⟨_, rfl⟩, hW, hsame.mono (by decide) (by decide)⟩
  show Q10 Z o1 s1 h0 n0 _ s₁.heap _
  rw [e0]
  exact ⟨rfl, N0, rfl⟩
theorem own_pn5 : plainName "jdk/internal/util/Preconditions" = true := by first | (simp [plainName, overriddenIn]; done) | decide +kernel
theorem own_d15_0 : decode jdk_41_method_12_code 0 = .ok (.iload_n 0, 1) := by decide +kernel
theorem own_d15_1 : decode jdk_41_method_12_code 1 = .ok (.ifCond .lt 13, 3) := by decide +kernel
theorem own_d15_4 : decode jdk_41_method_12_code 4 = .ok (.iload_n 0, 1) := by decide +kernel
theorem own_d15_5 : decode jdk_41_method_12_code 5 = .ok (.iload_n 1, 1) := by decide +kernel
theorem own_d15_6 : decode jdk_41_method_12_code 6 = .ok (.if_icmp .gt 8, 3) := by decide +kernel
theorem own_d15_9 : decode jdk_41_method_12_code 9 = .ok (.iload_n 1, 1) := by decide +kernel
theorem own_d15_10 : decode jdk_41_method_12_code 10 = .ok (.iload_n 2, 1) := by decide +kernel
theorem own_d15_11 : decode jdk_41_method_12_code 11 = .ok (.if_icmp .le 11, 3) := by decide +kernel
theorem own_d15_22 : decode jdk_41_method_12_code 22 = .ok (.iload_n 0, 1) := by decide +kernel
theorem own_d15_23 : decode jdk_41_method_12_code 23 = .ok (.ireturn, 1) := by decide +kernel
theorem own_ef11 (m : MethodId) (y0 : Int32) (y1 : Int32) (y2 : Int32) : entryFrame m #[(.int y0), (.int y1), (.int y2), .null] 4 = mkF m 0 #[.val (.int y0), .val (.int y1), .val (.int y2), .val .null] [] := by first | (simp [entryFrame, mkF, argsToLocals, Value.category]; done) | rfl
def Q11 (Z : State) (nl : Int32) (h0 : Heap) (n0 : Nat) (v : Option Value) (h : Heap) (L : List Loc) : Prop := v = some (.int (0 : Int32)) ∧ Fr n0 L ∧ h = h0
set_option maxRecDepth 65536 in
set_option maxHeartbeats 40000000 in
theorem rm11 (l : Launch) (Z : State) (a0 : Array Value) (hw : ∀ d ∈ tables_1, d.before a0 Z = true) (ws : List Jvm.Cond) (nl : Int32) (h0 : Heap) (n0 : Nat) (c0 : ¬ nl < (0 : Int32)) (c1 : ¬ nl < nl) :
    MetFree l (⟨"jdk/internal/util/Preconditions", "checkFromToIndex", "(IIILjava/util/function/BiFunction;)I"⟩ : MethodName) (head1 (Jvm.Cond.code (⟨"jdk/internal/util/Preconditions", "checkFromToIndex", "(IIILjava/util/function/BiFunction;)I"⟩ : MethodName) jdk_41_method_12_code 4 (some .int) :: ws) ({ frames := 0, cells := 0, slots := 0, locals := 0 } : Room)) (fun aaz U => aaz = #[(.int (0 : Int32)), (.int nl), (.int nl), .null] ∧ Z.Warmed39 U.vm ∧ U.heap = h0) (fun _ _ _ _ _ => True) (fun _ U o U' => ∃ v L, o = .returned v ∧ Q11 Z nl h0 n0 v U'.heap L ∧ FrameEnd U o U' L ({ frames := 0, cells := 0, slots := 0, locals := 0 } : Room).cells ({ frames := 0, cells := 0, slots := 0, locals := 0 } : Room).slots) := by
  refine MetFree.of_bodySF (plainFor_of_name own_pn5) hisR ?_
  intro p e s m args below meth cde s₁ Bd hml0 hP hK
  obtain ⟨rfl, hZ, hh⟩ := hP
  have hx := Bd.exec
  have hby := Bd.bytes
  have hml : cde.maxLocals = 4 := hml0
  have hown : s.vm.findClass "jdk/internal/util/Preconditions" = some m.cls := findClass_of_methodNamed Bd.named
  have hnm := (name_of_methodNamed Bd.named Bd.method).1
  have X0 : Stand p l e ({ frames := 0, cells := 0, slots := 0, locals := 0 } : Room) s m #[(.int (0 : Int32)), (.int nl), (.int nl), .null] below meth cde s₁ [] 0 0 := Stand.of_body Bd
  have e0 : s₁.heap = h0 := by rw [← hh, Bd.state]; rfl
  have N0 := Fr.nil n0
  have k : own_K p.tables e below (s₁.setTop (entryFrame m #[(.int (0 : Int32)), (.int nl), (.int nl), .null] 4)) (s₁.setTop (mkF m 0 #[.val (.int (0 : Int32)), .val (.int nl), .val (.int nl), .val .null] [])) := fun t h => castTop (own_ef11 m (0 : Int32) nl nl) h
  replace k : own_K p.tables e below (s₁.setTop (entryFrame m #[(.int (0 : Int32)), (.int nl), (.int nl), .null] 4)) (s₁.setTop (mkF m 1 #[.val (.int (0 : Int32)), .val (.int nl), .val (.int nl), .val .null] [(.int (0 : Int32))])) := fun t h => k t (XS.iloadN X0.here hx rfl (hb hby own_d15_0) rfl h)
  replace k : own_K p.tables e below (s₁.setTop (entryFrame m #[(.int (0 : Int32)), (.int nl), (.int nl), .null] 4)) (s₁.setTop (mkF m 4 #[.val (.int (0 : Int32)), .val (.int nl), .val (.int nl), .val .null] [])) := fun t h => k t (XS.ifNo X0.here hx rfl (hb hby own_d15_1) rfl ((if0 _ _).trans (flt (by decide : ¬ ((0 : Int32) < (0 : Int32)))).1) h)
  replace k : own_K p.tables e below (s₁.setTop (entryFrame m #[(.int (0 : Int32)), (.int nl), (.int nl), .null] 4)) (s₁.setTop (mkF m 5 #[.val (.int (0 : Int32)), .val (.int nl), .val (.int nl), .val .null] [(.int (0 : Int32))])) := fun t h => k t (XS.iloadN X0.here hx rfl (hb hby own_d15_4) rfl h)
  replace k : own_K p.tables e below (s₁.setTop (entryFrame m #[(.int (0 : Int32)), (.int nl), (.int nl), .null] 4)) (s₁.setTop (mkF m 6 #[.val (.int (0 : Int32)), .val (.int nl), .val (.int nl), .val .null] [(.int nl), (.int (0 : Int32))])) := fun t h => k t (XS.iloadN X0.here hx rfl (hb hby own_d15_5) rfl h)
  replace k : own_K p.tables e below (s₁.setTop (entryFrame m #[(.int (0 : Int32)), (.int nl), (.int nl), .null] 4)) (s₁.setTop (mkF m 9 #[.val (.int (0 : Int32)), .val (.int nl), .val (.int nl), .val .null] [])) := fun t h => k t (XS.icmpNo X0.here hx rfl (hb hby own_d15_6) rfl (flt c0).2.2.1 h)
  replace k : own_K p.tables e below (s₁.setTop (entryFrame m #[(.int (0 : Int32)), (.int nl), (.int nl), .null] 4)) (s₁.setTop (mkF m 10 #[.val (.int (0 : Int32)), .val (.int nl), .val (.int nl), .val .null] [(.int nl)])) := fun t h => k t (XS.iloadN X0.here hx rfl (hb hby own_d15_9) rfl h)
  replace k : own_K p.tables e below (s₁.setTop (entryFrame m #[(.int (0 : Int32)), (.int nl), (.int nl), .null] 4)) (s₁.setTop (mkF m 11 #[.val (.int (0 : Int32)), .val (.int nl), .val (.int nl), .val .null] [(.int nl), (.int nl)])) := fun t h => k t (XS.iloadN X0.here hx rfl (hb hby own_d15_10) rfl h)
  replace k : own_K p.tables e below (s₁.setTop (entryFrame m #[(.int (0 : Int32)), (.int nl), (.int nl), .null] 4)) (s₁.setTop (mkF m 22 #[.val (.int (0 : Int32)), .val (.int nl), .val (.int nl), .val .null] [])) := fun t h => k t (XS.icmpYes X0.here hx rfl (pc0 := 11) (pc' := 22) rfl (hb hby own_d15_11) rfl (flt c1).2.2.2 (by decide) (by decide) h)
  replace k : own_K p.tables e below (s₁.setTop (entryFrame m #[(.int (0 : Int32)), (.int nl), (.int nl), .null] 4)) (s₁.setTop (mkF m 23 #[.val (.int (0 : Int32)), .val (.int nl), .val (.int nl), .val .null] [(.int (0 : Int32))])) := fun t h => k t (XS.iloadN X0.here hx rfl (hb hby own_d15_22) rfl h)
  obtain ⟨fs, hr, hrun, hended, hW, hsame⟩ := X0.leave (v := some (.int (0 : Int32))) (fun h => by rw [Bd.returns] at h; cases h) Bd.notSynchronized
  refine ⟨_, _, k _ (retOut X0 hx Bd.returns rfl (Or.inl ⟨rfl, by simp, _, rfl⟩) (hb hby own_d15_23) hr), hrun, hended, _, _, rfl, ?_, ⟨_, rfl⟩, hW, hsame.mono (by decide) (by decide)⟩
  show Q11 Z nl h0 n0 _ s₁.heap _
  rw [e0]
  exact ⟨rfl, N0, rfl⟩
theorem own_pd6 : parseMethodDescriptor "(IIILjava/util/function/BiFunction;)I" = some ⟨[.int, .int, .int, (.object "java/util/function/BiFunction")], some .int⟩ := by decide +kernel
theorem own_d14_0 : decode jdk_31_method_18_code 0 = .ok (.iload_n 0, 1) := by decide +kernel
theorem own_d14_1 : decode jdk_31_method_18_code 1 = .ok (.iload_n 1, 1) := by decide +kernel
theorem own_d14_2 : decode jdk_31_method_18_code 2 = .ok (.iload_n 2, 1) := by decide +kernel
theorem own_d14_3 : decode jdk_31_method_18_code 3 = .ok (.aconst_null, 1) := by decide +kernel
theorem own_d14_4 : decode jdk_31_method_18_code 4 = .ok (.invokestatic 111, 3) := by decide +kernel
theorem own_d14_7 : decode jdk_31_method_18_code 7 = .ok (.ireturn, 1) := by decide +kernel
theorem own_ef12 (m : MethodId) (y0 : Int32) (y1 : Int32) (y2 : Int32) : entryFrame m #[(.int y0), (.int y1), (.int y2)] 3 = mkF m 0 #[.val (.int y0), .val (.int y1), .val (.int y2)] [] := by first | (simp [entryFrame, mkF, argsToLocals, Value.category]; done) | rfl
def Q12 (Z : State) (nl : Int32) (h0 : Heap) (n0 : Nat) (v : Option Value) (h : Heap) (L : List Loc) : Prop := v = some (.int (0 : Int32)) ∧ Fr n0 L ∧ h = h0
set_option maxRecDepth 65536 in
set_option maxHeartbeats 40000000 in
theorem rm12 (l : Launch) (Z : State) (a0 : Array Value) (hw : ∀ d ∈ tables_1, d.before a0 Z = true) (ws : List Jvm.Cond) (nl : Int32) (h0 : Heap) (n0 : Nat) (c0 : ¬ nl < (0 : Int32)) (c1 : ¬ nl < nl) :
    MetFree l (⟨"java/util/Objects", "checkFromToIndex", "(III)I"⟩ : MethodName) (head1 (Jvm.Cond.code (⟨"java/util/Objects", "checkFromToIndex", "(III)I"⟩ : MethodName) jdk_31_method_18_code 3 (some .int) :: ws) ({ frames := 1, cells := 0, slots := 0, locals := 20 } : Room)) (fun aaz U => aaz = #[(.int (0 : Int32)), (.int nl), (.int nl)] ∧ Z.Warmed39 U.vm ∧ U.heap = h0) (fun _ _ _ _ _ => True) (fun _ U o U' => ∃ v L, o = .returned v ∧ Q12 Z nl h0 n0 v U'.heap L ∧ FrameEnd U o U' L ({ frames := 1, cells := 0, slots := 0, locals := 20 } : Room).cells ({ frames := 1, cells := 0, slots := 0, locals := 20 } : Room).slots) := by
  refine MetFree.of_bodySF (plainFor_of_name own_pn4) hisR ?_
  intro p e s m args below meth cde s₁ Bd hml0 hP hK
  obtain ⟨rfl, hZ, hh⟩ := hP
  have hx := Bd.exec
  have hby := Bd.bytes
  have hml : cde.maxLocals = 3 := hml0
  have hown : s.vm.findClass "java/util/Objects" = some m.cls := findClass_of_methodNamed Bd.named
  have hnm := (name_of_methodNamed Bd.named Bd.method).1
  have X0 : Stand p l e ({ frames := 1, cells := 0, slots := 0, locals := 20 } : Room) s m #[(.int (0 : Int32)), (.int nl), (.int nl)] below meth cde s₁ [] 0 0 := Stand.of_body Bd
  have e0 : s₁.heap = h0 := by rw [← hh, Bd.state]; rfl
  have N0 := Fr.nil n0
  have k : own_K p.tables e below (s₁.setTop (entryFrame m #[(.int (0 : Int32)), (.int nl), (.int nl)] 3)) (s₁.setTop (mkF m 0 #[.val (.int (0 : Int32)), .val (.int nl), .val (.int nl)] [])) := fun t h => castTop (own_ef12 m (0 : Int32) nl nl) h
  replace k : own_K p.tables e below (s₁.setTop (entryFrame m #[(.int (0 : Int32)), (.int nl), (.int nl)] 3)) (s₁.setTop (mkF m 1 #[.val (.int (0 : Int32)), .val (.int nl), .val (.int nl)] [(.int (0 : Int32))])) := fun t h => k t (XS.iloadN X0.here hx rfl (hb hby own_d14_0) rfl h)
  replace k : own_K p.tables e below (s₁.setTop (entryFrame m #[(.int (0 : Int32)), (.int nl), (.int nl)] 3)) (s₁.setTop (mkF m 2 #[.val (.int (0 : Int32)), .val (.int nl), .val (.int nl)] [(.int nl), (.int (0 : Int32))])) := fun t h => k t (XS.iloadN X0.here hx rfl (hb hby own_d14_1) rfl h)
  replace k : own_K p.tables e below (s₁.setTop (entryFrame m #[(.int (0 : Int32)), (.int nl), (.int nl)] 3)) (s₁.setTop (mkF m 3 #[.val (.int (0 : Int32)), .val (.int nl), .val (.int nl)] [(.int nl), (.int nl), (.int (0 : Int32))])) := fun t h => k t (XS.iloadN X0.here hx rfl (hb hby own_d14_2) rfl h)
  replace k : own_K p.tables e below (s₁.setTop (entryFrame m #[(.int (0 : Int32)), (.int nl), (.int nl)] 3)) (s₁.setTop (mkF m 4 #[.val (.int (0 : Int32)), .val (.int nl), .val (.int nl)] [.null, (.int nl), (.int nl), (.int (0 : Int32))])) := fun t h => k t (XS.aconstNull X0.here hx rfl (hb hby own_d14_3) h)
  obtain ⟨_, _, ⟨T2, L2, kk2, n2⟩, -, X2, ⟨Lc2, hQ2, l2, y2, z2⟩, st2⟩ := Jvm.LawKit.callS X0 hx (y := (⟨"jdk/internal/util/Preconditions", "checkFromToIndex", "(IIILjava/util/function/BiFunction;)I"⟩ : MethodName)) hown (mvT hZ (hw _ (List.mem_of_getElem? (i := 71) rfl))) (mvT hZ (hw _ (List.mem_of_getElem? (i := 72) rfl))) (mvT hZ (hw _ (List.mem_of_getElem? (i := 73) rfl))) (mvT hZ (hw _ (List.mem_of_getElem? (i := 74) rfl))) (by decide) (backOf (W := 0) (rm11 l Z a0 hw [] nl h0 n0 c0 c1) hZ (hw _ (List.mem_of_getElem? (i := 74) rfl)) (hw _ (List.mem_of_getElem? (i := 73) rfl)) (by decide) (by decide)) (g := (mkF m 4 #[.val (.int (0 : Int32)), .val (.int nl), .val (.int nl)] [.null, (.int nl), (.int nl), (.int (0 : Int32))])) rfl (by rw [hml]; rfl) (argsL := [(.int (0 : Int32)), (.int nl), (.int nl), .null]) (rest := []) (lenOf own_pd6 rfl) rfl (by show 2 * 0 + _ ≤ _; exact Nat.le_of_eq rfl) (hb hby own_d14_4) (fun _ _ => ⟨rfl, e0, (by decide : 0 + 0 ≤ _), (by decide : 0 + 0 ≤ _)⟩)
  dsimp only [Pt.U, Pt.locs, Pt.cells, Pt.slots] at X2 l2 y2 z2 st2 hQ2
  subst l2 y2 z2
  obtain ⟨rfl, N2q, eq1⟩ := hQ2
  have N2 := Fr.app N0 N2q
  replace k : own_K p.tables e below (s₁.setTop (entryFrame m #[(.int (0 : Int32)), (.int nl), (.int nl)] 3)) (T2.setTop (mkF m 7 #[.val (.int (0 : Int32)), .val (.int nl), .val (.int nl)] [(.int (0 : Int32))])) := fun t h => k t (st2 _ h)
  obtain ⟨fs, hr, hrun, hended, hW, hsame⟩ := X2.leave (v := some (.int (0 : Int32))) (fun h => by rw [Bd.returns] at h; cases h) Bd.notSynchronized
  refine ⟨_, _, k _ (retOut X2 hx Bd.returns rfl (Or.inl ⟨rfl, by simp, _, rfl⟩) (hb hby own_d14_7) hr), hrun, hended, _, _, rfl, ?_, ⟨_, rfl⟩, hW, hsame.mono (by decide) (by decide)⟩
  show Q12 Z nl h0 n0 _ T2.heap _
  rw [eq1]
  exact ⟨rfl, N2, rfl⟩
theorem own_pd7 : parseMethodDescriptor "(III)I" = some ⟨[.int, .int, .int], some .int⟩ := by decide +kernel
theorem own_d13_0 : decode jdk_42_method_59_code 0 = .ok (.iload_n 1, 1) := by decide +kernel
theorem own_d13_1 : decode jdk_42_method_59_code 1 = .ok (.iload_n 2, 1) := by decide +kernel
theorem own_d13_2 : decode jdk_42_method_59_code 2 = .ok (.aload_n 0, 1) := by decide +kernel
theorem own_d13_3 : decode jdk_42_method_59_code 3 = .ok (.invokevirtual 505, 3) := by decide +kernel
theorem own_d13_6 : decode jdk_42_method_59_code 6 = .ok (.invokestatic 511, 3) := by decide +kernel
theorem own_d13_9 : decode jdk_42_method_59_code 9 = .ok (.pop, 1) := by decide +kernel
theorem own_d13_10 : decode jdk_42_method_59_code 10 = .ok (.aload_n 0, 1) := by decide +kernel
theorem own_d13_11 : decode jdk_42_method_59_code 11 = .ok (.invokevirtual 492, 3) := by decide +kernel
theorem own_d13_14 : decode jdk_42_method_59_code 14 = .ok (.ifCond .eq 7, 3) := by decide +kernel
theorem own_d13_17 : decode jdk_42_method_59_code 17 = .ok (.iload_n 2, 1) := by decide +kernel
theorem own_d13_18 : decode jdk_42_method_59_code 18 = .ok (.iload_n 1, 1) := by decide +kernel
theorem own_d13_19 : decode jdk_42_method_59_code 19 = .ok (.isub, 1) := by decide +kernel
theorem own_d13_20 : decode jdk_42_method_59_code 20 = .ok (.ireturn, 1) := by decide +kernel
theorem own_ef13 (m : MethodId) (y0 : Addr) (y1 : Int32) (y2 : Int32) : entryFrame m #[(.ref y0), (.int y1), (.int y2)] 3 = mkF m 0 #[.val (.ref y0), .val (.int y1), .val (.int y2)] [] := by first | (simp [entryFrame, mkF, argsToLocals, Value.category]; done) | rfl
def Q13 (Z : State) (x1 : Addr) (t1 : Addr) (kb1 : ClassId) (cs : List Int32) (nl : Int32) (G1 : Int32) (h0 : Heap) (n0 : Nat) (v : Option Value) (h : Heap) (L : List Loc) : Prop := v = some (.int (nl - (0 : Int32))) ∧ Fr n0 L ∧ h = h0
set_option maxRecDepth 65536 in
set_option maxHeartbeats 40000000 in
theorem rm13 (l : Launch) (Z : State) (a0 : Array Value) (hw : ∀ d ∈ tables_1, d.before a0 Z = true) (ws : List Jvm.Cond) (x1 : Addr) (t1 : Addr) (kb1 : ClassId) (cs : List Int32) (nl : Int32) (G1 : Int32) (h0 : Heap) (n0 : Nat) (O2 : Sta Z Z.heap "java/lang/String" "COMPACT_STRINGS" "Z" (.int G1)) (P5 : ¬ G1 = (0 : Int32)) (XO : Old Z n0 h0) (ST : own_Str Z h0 x1 t1 kb1 cs) (hbc : ∀ c ∈ cs, ¬ c < 0 ∧ ¬ (255 : Int32) < c) (ln2 : cs.length ≤ 4000) (hnl : nl = Int32.ofNat cs.length) (c0 : ¬ nl < (0 : Int32)) (c1 : ¬ nl < nl) :
    MetFree l (⟨"java/lang/String", "codePointCount", "(II)I"⟩ : MethodName) (head1 (Jvm.Cond.code (⟨"java/lang/String", "codePointCount", "(II)I"⟩ : MethodName) jdk_42_method_59_code 3 (some .int) :: ws) ({ frames := 2, cells := 0, slots := 0, locals := 50 } : Room)) (fun aaz U => aaz = #[(.ref x1), (.int (0 : Int32)), (.int nl)] ∧ Z.Warmed39 U.vm ∧ U.heap = h0) (fun _ _ _ _ _ => True) (fun _ U o U' => ∃ v L, o = .returned v ∧ Q13 Z x1 t1 kb1 cs nl G1 h0 n0 v U'.heap L ∧ FrameEnd U o U' L ({ frames := 2, cells := 0, slots := 0, locals := 50 } : Room).cells ({ frames := 2, cells := 0, slots := 0, locals := 50 } : Room).slots) := by
  refine MetFree.of_bodySF (plainFor_of_name own_pn0) hisR ?_
  intro p e s m args below meth cde s₁ Bd hml0 hP hK
  obtain ⟨rfl, hZ, hh⟩ := hP
  have hx := Bd.exec
  have hby := Bd.bytes
  have hml : cde.maxLocals = 3 := hml0
  have hown : s.vm.findClass "java/lang/String" = some m.cls := findClass_of_methodNamed Bd.named
  have hnm := (name_of_methodNamed Bd.named Bd.method).1
  have X0 : Stand p l e ({ frames := 2, cells := 0, slots := 0, locals := 50 } : Room) s m #[(.ref x1), (.int (0 : Int32)), (.int nl)] below meth cde s₁ [] 0 0 := Stand.of_body Bd
  have e0 : s₁.heap = h0 := by rw [← hh, Bd.state]; rfl
  have N0 := Fr.nil n0
  have k : own_K p.tables e below (s₁.setTop (entryFrame m #[(.ref x1), (.int (0 : Int32)), (.int nl)] 3)) (s₁.setTop (mkF m 0 #[.val (.ref x1), .val (.int (0 : Int32)), .val (.int nl)] [])) := fun t h => castTop (own_ef13 m x1 (0 : Int32) nl) h
  replace k : own_K p.tables e below (s₁.setTop (entryFrame m #[(.ref x1), (.int (0 : Int32)), (.int nl)] 3)) (s₁.setTop (mkF m 1 #[.val (.ref x1), .val (.int (0 : Int32)), .val (.int nl)] [(.int (0 : Int32))])) := fun t h => k t (XS.iloadN X0.here hx rfl (hb hby own_d13_0) rfl h)
  replace k : own_K p.tables e below (s₁.setTop (entryFrame m #[(.ref x1), (.int (0 : Int32)), (.int nl)] 3)) (s₁.setTop (mkF m 2 #[.val (.ref x1), .val (.int (0 : Int32)), .val (.int nl)] [(.int nl), (.int (0 : Int32))])) := fun t h => k t (XS.iloadN X0.here hx rfl (hb hby own_d13_1) rfl h)
  replace k : own_K p.tables e below (s₁.setTop (entryFrame m #[(.ref x1), (.int (0 : Int32)), (.int nl)] 3)) (s₁.setTop (mkF m 3 #[.val (.ref x1), .val (.int (0 : Int32)), .val (.int nl)] [(.ref x1), (.int nl), (.int (0 : Int32))])) := fun t h => k t (XS.aloadN X0.here hx rfl (hb hby own_d13_2) rfl rfl h)
  obtain ⟨cq2, kq2, q2a, q2b, q2c⟩ := isOf hZ e0 ST.1
  obtain ⟨_, _, ⟨T2, L2, kk2, n2⟩, -, X2, ⟨Lc2, hQ2, l2, y2, z2⟩, st2⟩ := X0.virtualBack hx (y := (⟨"java/lang/String", "length", "()I"⟩ : MethodName)) (z := (⟨"java/lang/String", "length", "()I"⟩ : MethodName)) hown (mvT hZ (hw _ (List.mem_of_getElem? (i := 67) rfl))) (mvT hZ (hw _ (List.mem_of_getElem? (i := 53) rfl))) (notFace_of_selects (args := #[]) (mvT hZ (hw _ (List.mem_of_getElem? (i := 55) rfl)))) (mvT hZ (hw _ (List.mem_of_getElem? (i := 55) rfl))) (mvT hZ (hw _ (List.mem_of_getElem? (i := 54) rfl))) (by decide) (StrChars.Road.lenW (W := 2) hZ (own_wL hw) (kI := 4) (hw _ (List.mem_of_getElem? (i := 13) rfl)) ST.1 ST.2.1 ST.2.2.1 ST.2.2.2 (StrChars.Road.codOf (cs := cs) (n := (cs : List Int32).length) rfl (fun c hc => (hbc c hc).2)) (own_up hbc) (O2.ext XO.2) P5 ln2 (by decide) (by decide)) q2a q2c (g := (mkF m 3 #[.val (.ref x1), .val (.int (0 : Int32)), .val (.int nl)] [(.ref x1), (.int nl), (.int (0 : Int32))])) rfl (by rw [hml]; rfl) (Steps.refl _) (argsL := []) (rest := [(.int nl), (.int (0 : Int32))]) (lenOf own_pd4 rfl) rfl (by show 2 * 0 + _ ≤ _; exact Nat.le_of_eq rfl) (hb hby own_d13_3) (fun _ _ => ⟨rfl, e0, (by decide : 0 + 0 ≤ _), (by decide : 0 + 0 ≤ _)⟩)
  dsimp only [Pt.U, Pt.locs, Pt.cells, Pt.slots] at X2 l2 y2 z2 st2 hQ2
  subst l2 y2 z2
  obtain ⟨rfl, rfl, eq1⟩ := hQ2
  have N2 := Fr.app N0 (Fr.nil n0)
  replace k : own_K p.tables e below (s₁.setTop (entryFrame m #[(.ref x1), (.int (0 : Int32)), (.int nl)] 3)) (T2.setTop (mkF m 6 #[.val (.ref x1), .val (.int (0 : Int32)), .val (.int nl)] [(.int (Int32.ofNat cs.length)), (.int nl), (.int (0 : Int32))])) := fun t h => k t (st2.trans h)
  rw [← hnl] at k
  obtain ⟨_, _, ⟨T4, L4, kk4, n4⟩, -, X4, ⟨Lc4, hQ4, l4, y4, z4⟩, st4⟩ := Jvm.LawKit.callS X2 hx (y := (⟨"java/util/Objects", "checkFromToIndex", "(III)I"⟩ : MethodName)) hown (mvT hZ (hw _ (List.mem_of_getElem? (i := 68) rfl))) (mvT hZ (hw _ (List.mem_of_getElem? (i := 69) rfl))) (mvT hZ (hw _ (List.mem_of_getElem? (i := 50) rfl))) (mvT hZ (hw _ (List.mem_of_getElem? (i := 70) rfl))) (by decide) (backOf (W := 0) (rm12 l Z a0 hw [] nl h0 n0 c0 c1) hZ (hw _ (List.mem_of_getElem? (i := 70) rfl)) (hw _ (List.mem_of_getElem? (i := 50) rfl)) (by decide) (by decide)) (g := (mkF m 6 #[.val (.ref x1), .val (.int (0 : Int32)), .val (.int nl)] [(.int nl), (.int nl), (.int (0 : Int32))])) rfl (by rw [hml]; rfl) (argsL := [(.int (0 : Int32)), (.int nl), (.int nl)]) (rest := []) (lenOf own_pd7 rfl) rfl (by show 2 * 0 + _ ≤ _; exact Nat.le_of_eq rfl) (hb hby own_d13_6) (fun _ _ => ⟨rfl, eq1, (by decide : 0 + 0 ≤ _), (by decide : 0 + 0 ≤ _)⟩)
  dsimp only [Pt.U, Pt.locs, Pt.cells, Pt.slots] at X4 l4 y4 z4 st4 hQ4
  subst l4 y4 z4
  obtain ⟨rfl, N4q, eq3⟩ := hQ4
  have N4 := Fr.app N2 N4q
  replace k : own_K p.tables e below (s₁.setTop (entryFrame m #[(.ref x1), (.int (0 : Int32)), (.int nl)] 3)) (T4.setTop (mkF m 9 #[.val (.ref x1), .val (.int (0 : Int32)), .val (.int nl)] [(.int (0 : Int32))])) := fun t h => k t (st4 _ h)
  replace k : own_K p.tables e below (s₁.setTop (entryFrame m #[(.ref x1), (.int (0 : Int32)), (.int nl)] 3)) (T4.setTop (mkF m 10 #[.val (.ref x1), .val (.int (0 : Int32)), .val (.int nl)] [])) := fun t h => k t (XS.pop X4.here hx rfl (hb hby own_d13_9) rfl rfl h)
  replace k : own_K p.tables e below (s₁.setTop (entryFrame m #[(.ref x1), (.int (0 : Int32)), (.int nl)] 3)) (T4.setTop (mkF m 11 #[.val (.ref x1), .val (.int (0 : Int32)), .val (.int nl)] [(.ref x1)])) := fun t h => k t (XS.aloadN X4.here hx rfl (hb hby own_d13_10) rfl rfl h)
  obtain ⟨cq6, kq6, q6a, q6b, q6c⟩ := isOf hZ eq3 ST.1
  obtain ⟨_, _, ⟨T6, L6, kk6, n6⟩, -, X6, ⟨Lc6, hQ6, l6, y6, z6⟩, st6⟩ := X4.virtualBack hx (y := (⟨"java/lang/String", "isLatin1", "()Z"⟩ : MethodName)) (z := (⟨"java/lang/String", "isLatin1", "()Z"⟩ : MethodName)) hown (mvT hZ (hw _ (List.mem_of_getElem? (i := 75) rfl))) (mvT hZ (hw _ (List.mem_of_getElem? (i := 76) rfl))) (notFace_of_selects (args := #[]) (mvT hZ (hw _ (List.mem_of_getElem? (i := 78) rfl)))) (mvT hZ (hw _ (List.mem_of_getElem? (i := 78) rfl))) (mvT hZ (hw _ (List.mem_of_getElem? (i := 77) rfl))) (by decide) (backOf (W := 0) (rm1 l Z a0 hw [] x1 G1 h0 n0 O2 P5 XO ST.2.2.1) hZ (hw _ (List.mem_of_getElem? (i := 79) rfl)) (hw _ (List.mem_of_getElem? (i := 14) rfl)) (by decide) (by decide)) q6a q6c (g := (mkF m 11 #[.val (.ref x1), .val (.int (0 : Int32)), .val (.int nl)] [(.ref x1)])) rfl (by rw [hml]; rfl) (Steps.refl _) (argsL := []) (rest := []) (lenOf own_pd3 rfl) rfl (by show 2 * 0 + _ ≤ _; exact Nat.le_of_eq rfl) (hb hby own_d13_11) (fun _ _ => ⟨rfl, eq3, (by decide : 0 + 0 ≤ _), (by decide : 0 + 0 ≤ _)⟩)
  dsimp only [Pt.U, Pt.locs, Pt.cells, Pt.slots] at X6 l6 y6 z6 st6 hQ6
  subst l6 y6 z6
  obtain ⟨rfl, N6q, eq5⟩ := hQ6
  have N6 := Fr.app N4 N6q
  replace k : own_K p.tables e below (s₁.setTop (entryFrame m #[(.ref x1), (.int (0 : Int32)), (.int nl)] 3)) (T6.setTop (mkF m 14 #[.val (.ref x1), .val (.int (0 : Int32)), .val (.int nl)] [(.int (1 : Int32))])) := fun t h => k t (st6.trans h)
  replace k : own_K p.tables e below (s₁.setTop (entryFrame m #[(.ref x1), (.int (0 : Int32)), (.int nl)] 3)) (T6.setTop (mkF m 17 #[.val (.ref x1), .val (.int (0 : Int32)), .val (.int nl)] [])) := fun t h => k t (XS.ifNo X6.here hx rfl (hb hby own_d13_14) rfl ((if0 _ _).trans (feq (by decide : ¬ ((1 : Int32) = (0 : Int32)))).1) h)
  replace k : own_K p.tables e below (s₁.setTop (entryFrame m #[(.ref x1), (.int (0 : Int32)), (.int nl)] 3)) (T6.setTop (mkF m 18 #[.val (.ref x1), .val (.int (0 : Int32)), .val (.int nl)] [(.int nl)])) := fun t h => k t (XS.iloadN X6.here hx rfl (hb hby own_d13_17) rfl h)
  replace k : own_K p.tables e below (s₁.setTop (entryFrame m #[(.ref x1), (.int (0 : Int32)), (.int nl)] 3)) (T6.setTop (mkF m 19 #[.val (.ref x1), .val (.int (0 : Int32)), .val (.int nl)] [(.int (0 : Int32)), (.int nl)])) := fun t h => k t (XS.iloadN X6.here hx rfl (hb hby own_d13_18) rfl h)
  replace k : own_K p.tables e below (s₁.setTop (entryFrame m #[(.ref x1), (.int (0 : Int32)), (.int nl)] 3)) (T6.setTop (mkF m 20 #[.val (.ref x1), .val (.int (0 : Int32)), .val (.int nl)] [(.int (nl - (0 : Int32)))])) := fun t h => k t (XS.isub X6.here hx rfl (hb hby own_d13_19) rfl h)
  obtain ⟨fs, hr, hrun, hended, hW, hsame⟩ := X6.leave (v := some (.int (nl - (0 : Int32)))) (fun h => by rw [Bd.returns] at h; cases h) Bd.notSynchronized
  refine ⟨_, _, k _ (retOut X6 hx Bd.returns rfl (Or.inl ⟨rfl, by simp, _, rfl⟩) (hb hby own_d13_20) hr), hrun, hended, _, _, rfl, ?_, ⟨_, rfl⟩, hW, hsame.mono (by decide) (by decide)⟩
  show Q13 Z x1 t1 kb1 cs nl G1 h0 n0 _ T6.heap _
  rw [eq5]
  exact ⟨rfl, N6, rfl⟩
theorem own_pd8 : parseMethodDescriptor "(Ljava/lang/Object;Ljava/lang/String;)Ljava/lang/Object;" = some ⟨[(.object "java/lang/Object"), (.object "java/lang/String")], some (.object "java/lang/Object")⟩ := by decide +kernel
theorem own_pd9 : parseMethodDescriptor "(I)C" = some ⟨[.int], some .char⟩ := by decide +kernel
theorem own_pd10 : parseMethodDescriptor "(C)Z" = some ⟨[.char], some .boolean⟩ := by decide +kernel
theorem own_d9_0 : decode prog_21_method_1_code 0 = .ok (.aload_n 0, 1) := by decide +kernel
theorem own_d9_1 : decode prog_21_method_1_code 1 = .ok (.invokespecial 1, 3) := by decide +kernel
theorem own_d9_4 : decode prog_21_method_1_code 4 = .ok (.aload_n 1, 1) := by decide +kernel
theorem own_d9_5 : decode prog_21_method_1_code 5 = .ok (.ldc 7, 2) := by decide +kernel
theorem own_d9_7 : decode prog_21_method_1_code 7 = .ok (.invokestatic 9, 3) := by decide +kernel
theorem own_d9_10 : decode prog_21_method_1_code 10 = .ok (.pop, 1) := by decide +kernel
theorem own_d9_11 : decode prog_21_method_1_code 11 = .ok (.aload_n 1, 1) := by decide +kernel
theorem own_d9_12 : decode prog_21_method_1_code 12 = .ok (.iconst 0, 1) := by decide +kernel
theorem own_d9_13 : decode prog_21_method_1_code 13 = .ok (.aload_n 1, 1) := by decide +kernel
theorem own_d9_14 : decode prog_21_method_1_code 14 = .ok (.invokevirtual 15, 3) := by decide +kernel
theorem own_d9_17 : decode prog_21_method_1_code 17 = .ok (.invokevirtual 21, 3) := by decide +kernel
theorem own_d9_20 : decode prog_21_method_1_code 20 = .ok (.istore_n 2, 1) := by decide +kernel
theorem own_d9_21 : decode prog_21_method_1_code 21 = .ok (.iload_n 2, 1) := by decide +kernel
theorem own_d9_22 : decode prog_21_method_1_code 22 = .ok (.ifCond .ne 13, 3) := by decide +kernel
theorem own_d9_35 : decode prog_21_method_1_code 35 = .ok (.iload_n 2, 1) := by decide +kernel
theorem own_d9_36 : decode prog_21_method_1_code 36 = .ok (.sipush 200, 3) := by decide +kernel
theorem own_d9_39 : decode prog_21_method_1_code 39 = .ok (.if_icmp .le 17, 3) := by decide +kernel
theorem own_d9_56 : decode prog_21_method_1_code 56 = .ok (.iconst 0, 1) := by decide +kernel
theorem own_d9_57 : decode prog_21_method_1_code 57 = .ok (.istore_n 3, 1) := by decide +kernel
theorem own_d9_58 : decode prog_21_method_1_code 58 = .ok (.iload_n 3, 1) := by decide +kernel
theorem own_d9_59 : decode prog_21_method_1_code 59 = .ok (.aload_n 1, 1) := by decide +kernel
theorem own_d9_60 : decode prog_21_method_1_code 60 = .ok (.invokevirtual 15, 3) := by decide +kernel
theorem own_d9_63 : decode prog_21_method_1_code 63 = .ok (.if_icmp .ge 48, 3) := by decide +kernel
theorem own_d9_66 : decode prog_21_method_1_code 66 = .ok (.aload_n 1, 1) := by decide +kernel
theorem own_d9_67 : decode prog_21_method_1_code 67 = .ok (.iload_n 3, 1) := by decide +kernel
theorem own_d9_68 : decode prog_21_method_1_code 68 = .ok (.invokevirtual 38, 3) := by decide +kernel
theorem own_d9_71 : decode prog_21_method_1_code 71 = .ok (.invokestatic 42, 3) := by decide +kernel
theorem own_d9_74 : decode prog_21_method_1_code 74 = .ok (.ifCond .ne 31, 3) := by decide +kernel
theorem own_d9_105 : decode prog_21_method_1_code 105 = .ok (.iinc 3 1, 3) := by decide +kernel
theorem own_d9_108 : decode prog_21_method_1_code 108 = .ok (.goto (-50), 3) := by decide +kernel
theorem own_d9_111 : decode prog_21_method_1_code 111 = .ok (.aload_n 0, 1) := by decide +kernel
theorem own_d9_112 : decode prog_21_method_1_code 112 = .ok (.aload_n 1, 1) := by decide +kernel
theorem own_d9_113 : decode prog_21_method_1_code 113 = .ok (.putfield 58, 3) := by decide +kernel
theorem own_d9_116 : decode prog_21_method_1_code 116 = .ok (.return_, 1) := by decide +kernel
theorem own_ef14 (m : MethodId) (y0 : Addr) (y1 : Addr) : entryFrame m #[(.ref y0), (.ref y1)] 5 = mkF m 0 #[.val (.ref y0), .val (.ref y1), .unset, .unset, .unset] [] := by first | (simp [entryFrame, mkF, argsToLocals, Value.category]; done) | rfl
def Q14 (Z : State) (a1 : Addr) (u0 : Value) (x1 : Addr) (t1 : Addr) (kb1 : ClassId) (cs : List Int32) (G1 : Int32) (G3 : Value) (h0 : Heap) (n0 : Nat) (v : Option Value) (h : Heap) (L : List Loc) : Prop := v = none ∧ Fr n0 L ∧ Keep h0 h [a1] ∧ Exa Z h a1 "com/example/ferrolho/ferrolho/lock/LockName" ∧ Fld Z h a1 "com/example/ferrolho/ferrolho/lock/LockName" "value" "Ljava/lang/String;" (.ref x1)
set_option maxRecDepth 65536 in
set_option maxHeartbeats 40000000 in
theorem rm14 (l : Launch) (Z : State) (a0 : Array Value) (hw : ∀ d ∈ tables_1, d.before a0 Z = true) (ws : List Jvm.Cond) (a1 : Addr) (u0 : Value) (x1 : Addr) (t1 : Addr) (kb1 : ClassId) (cs : List Int32) (G1 : Int32) (G3 : Value) (h0 : Heap) (n0 : Nat) (O2 : Sta Z Z.heap "java/lang/String" "COMPACT_STRINGS" "Z" (.int G1)) (P5 : ¬ G1 = (0 : Int32)) (XO : Old Z n0 h0) (O4 : Sta Z Z.heap "jdk/internal/util/Preconditions" "SIOOBE_FORMATTER" "Ljava/util/function/BiFunction;" G3) (rG3 : G3.isRef = true) (ST : own_Str Z h0 x1 t1 kb1 cs) (hcs : (∃ d0, cs = [d0] ∧ own_ok d0) ∨ (∃ d0 d1, cs = [d0, d1] ∧ own_ok d0 ∧ own_ok d1)) (E1 : Exa Z h0 a1 "com/example/ferrolho/ferrolho/lock/LockName") (F1 : Fld Z h0 a1 "com/example/ferrolho/ferrolho/lock/LockName" "value" "Ljava/lang/String;" u0) (g1 : n0 ≤ a1) :
    MetFree l (⟨"com/example/ferrolho/ferrolho/lock/LockName", "<init>", "(Ljava/lang/String;)V"⟩ : MethodName) (head1 (Jvm.Cond.code (⟨"com/example/ferrolho/ferrolho/lock/LockName", "<init>", "(Ljava/lang/String;)V"⟩ : MethodName) prog_21_method_1_code 5 none :: ws) ({ frames := 5, cells := 6, slots := 72, locals := 100 } : Room)) (fun aaz U => aaz = #[(.ref a1), (.ref x1)] ∧ Z.Warmed39 U.vm ∧ U.heap = h0 ∧ CHv Z consts_1 U.vm h0) (fun _ _ _ _ _ => True) (fun _ U o U' => ∃ v L, o = .returned v ∧ Q14 Z a1 u0 x1 t1 kb1 cs G1 G3 h0 n0 v U'.heap L ∧ CHr Z consts_1 U.vm U.heap U'.vm U'.heap ∧ ReturnedEndW U o U' L ({ frames := 5, cells := 6, slots := 72, locals := 100 } : Room).cells ({ frames := 5, cells := 6, slots := 72, locals := 100 } : Room).slots) := by
  refine MetFree.of_bodySF (plainFor_of_name own_pn3) hisR ?_
  intro p e s m args below meth cde s₁ Bd hml0 hP hK
  obtain ⟨rfl, hZ, hh, hCH⟩ := hP
  have hx := Bd.exec
  have hby := Bd.bytes
  have hml : cde.maxLocals = 5 := hml0
  have hown : (s.setVm s.vm).vm.findClass "com/example/ferrolho/ferrolho/lock/LockName" = some m.cls := findClass_of_methodNamed Bd.named
  have hZ : Z.Warmed39 (s.setVm s.vm).vm := hZ
  have hnm := (name_of_methodNamed Bd.named Bd.method).1
  have X0 : Stand p l e ({ frames := 5, cells := 6, slots := 72, locals := 100 } : Room) (s.setVm s.vm) m #[(.ref a1), (.ref x1)] below meth cde s₁ [] 0 0 := Stand.of_body Bd
  have e0 : s₁.heap = h0 := by rw [← hh, Bd.state]; rfl
  have N0 := Fr.nil n0
  have hS0 : s.Since s.vm h0.size := (State.WarmedH.refl s).since _
  have hk0 : h0.size ≤ h0.size := Nat.le_refl _
  have hEL := own_EW hw
  have CH : CHr Z consts_1 s.vm h0 (s.setVm s.vm).vm h0 := CHr.refl hCH
  have k : own_K p.tables e below (s₁.setTop (entryFrame m #[(.ref a1), (.ref x1)] 5)) (s₁.setTop (mkF m 0 #[.val (.ref a1), .val (.ref x1), .unset, .unset, .unset] [])) := fun t h => castTop (own_ef14 m a1 x1) h
  have K1 : Keep h0 h0 [a1] := Keep.refl h0 [a1]
  obtain ⟨hbc, ln2⟩ := own_csb hcs
  rcases hcs with ⟨d0, rfl, k0⟩ | ⟨d0, d1, rfl, k0, k1⟩
  · replace k : own_K p.tables e below (s₁.setTop (entryFrame m #[(.ref a1), (.ref x1)] 5)) (s₁.setTop (mkF m 1 #[.val (.ref a1), .val (.ref x1), .unset, .unset, .unset] [(.ref a1)])) := fun t h => k t (XS.aloadN X0.here hx rfl (hb hby own_d9_0) rfl rfl h)
    obtain ⟨T1, X1, e1, st1⟩ := initO X0 hx hZ hown (hw _ (List.mem_of_getElem? (i := 44) rfl)) (hw _ (List.mem_of_getElem? (i := 23) rfl)) (hw _ (List.mem_of_getElem? (i := 24) rfl)) e0 (g := (mkF m 1 #[.val (.ref a1), .val (.ref x1), .unset, .unset, .unset] [(.ref a1)])) rfl (by rw [hml]; rfl) rfl (hb hby own_d9_1) (by decide) (W := 0) (by show 2 * 0 + _ ≤ _; exact Nat.le_of_eq rfl) (by decide)
    replace k : own_K p.tables e below (s₁.setTop (entryFrame m #[(.ref a1), (.ref x1)] 5)) (T1.setTop (mkF m 4 #[.val (.ref a1), .val (.ref x1), .unset, .unset, .unset] [])) := fun t h => k t (st1 _ h)
    replace k : own_K p.tables e below (s₁.setTop (entryFrame m #[(.ref a1), (.ref x1)] 5)) (T1.setTop (mkF m 5 #[.val (.ref a1), .val (.ref x1), .unset, .unset, .unset] [(.ref x1)])) := fun t h => k t (XS.aloadN X1.here hx rfl (hb hby own_d9_4) rfl rfl h)
    obtain ⟨b2, T2, h2, k2, X2, e2, E2, hS2, hk2, hZ2, hown2, CH2, -, st2⟩ := ldcOH X1 hx hZ hown (hw _ (List.mem_of_getElem? (i := 45) rfl)) (own_wS hw) e1 hS0 hk0 hEL CH.1 (g := (mkF m 5 #[.val (.ref a1), .val (.ref x1), .unset, .unset, .unset] [(.ref x1)])) rfl (hb hby own_d9_5) (n := 20) (by first | decide | decide +kernel | simp) (by decide) (by decide) (by decide)
    replace CH := CH.trans CH2
    replace k : own_K p.tables e below (s₁.setTop (entryFrame m #[(.ref a1), (.ref x1)] 5)) (T2.setTop (mkF m 7 #[.val (.ref a1), .val (.ref x1), .unset, .unset, .unset] [(.ref b2), (.ref x1)])) := fun t h => k t (st2 _ h)
    replace XO := XO.ext E2
    replace ST := ST.ext E2
    replace E1 := E1.ext E2
    replace F1 := F1.ext E2
    replace K1 := K1.ext E2
    obtain ⟨_, _, ⟨T4, L4, kk4, n4⟩, -, X4, ⟨Lc4, hQ4, l4, y4, z4⟩, st4⟩ := Jvm.LawKit.callS X2 hx (y := (⟨"java/util/Objects", "requireNonNull", "(Ljava/lang/Object;Ljava/lang/String;)Ljava/lang/Object;"⟩ : MethodName)) hown2 (mvT hZ2 (hw _ (List.mem_of_getElem? (i := 48) rfl))) (mvT hZ2 (hw _ (List.mem_of_getElem? (i := 49) rfl))) (mvT hZ2 (hw _ (List.mem_of_getElem? (i := 50) rfl))) (mvT hZ2 (hw _ (List.mem_of_getElem? (i := 51) rfl))) (by decide) (backOf (W := 0) (rm10 l Z a0 hw [] x1 b2 h2 n0) hZ2 (hw _ (List.mem_of_getElem? (i := 51) rfl)) (hw _ (List.mem_of_getElem? (i := 50) rfl)) (by decide) (by decide)) (g := (mkF m 7 #[.val (.ref a1), .val (.ref x1), .unset, .unset, .unset] [(.ref b2), (.ref x1)])) rfl (by rw [hml]; rfl) (argsL := [(.ref x1), (.ref b2)]) (rest := []) (lenOf own_pd8 rfl) rfl (by show 2 * 0 + _ ≤ _; exact Nat.le_of_eq rfl) (hb hby own_d9_7) (fun _ _ => ⟨rfl, e2, (by decide : 2 + 0 ≤ _), (by decide : 24 + 0 ≤ _)⟩)
    dsimp only [Pt.U, Pt.locs, Pt.cells, Pt.slots] at X4 l4 y4 z4 st4 hQ4
    subst l4 y4 z4
    obtain ⟨rfl, N4q, eq3⟩ := hQ4
    have N4 := Fr.app N0 N4q
    replace k : own_K p.tables e below (s₁.setTop (entryFrame m #[(.ref a1), (.ref x1)] 5)) (T4.setTop (mkF m 10 #[.val (.ref a1), .val (.ref x1), .unset, .unset, .unset] [(.ref x1)])) := fun t h => k t (st4 _ h)
    replace k : own_K p.tables e below (s₁.setTop (entryFrame m #[(.ref a1), (.ref x1)] 5)) (T4.setTop (mkF m 11 #[.val (.ref a1), .val (.ref x1), .unset, .unset, .unset] [])) := fun t h => k t (XS.pop X4.here hx rfl (hb hby own_d9_10) rfl rfl h)
    replace k : own_K p.tables e below (s₁.setTop (entryFrame m #[(.ref a1), (.ref x1)] 5)) (T4.setTop (mkF m 12 #[.val (.ref a1), .val (.ref x1), .unset, .unset, .unset] [(.ref x1)])) := fun t h => k t (XS.aloadN X4.here hx rfl (hb hby own_d9_11) rfl rfl h)
    replace k : own_K p.tables e below (s₁.setTop (entryFrame m #[(.ref a1), (.ref x1)] 5)) (T4.setTop (mkF m 13 #[.val (.ref a1), .val (.ref x1), .unset, .unset, .unset] [(.int (0 : Int32)), (.ref x1)])) := fun t h => k t (XS.iconst X4.here hx rfl (hb hby own_d9_12) h)
    replace k : own_K p.tables e below (s₁.setTop (entryFrame m #[(.ref a1), (.ref x1)] 5)) (T4.setTop (mkF m 14 #[.val (.ref a1), .val (.ref x1), .unset, .unset, .unset] [(.ref x1), (.int (0 : Int32)), (.ref x1)])) := fun t h => k t (XS.aloadN X4.here hx rfl (hb hby own_d9_13) rfl rfl h)
    obtain ⟨cq6, kq6, q6a, q6b, q6c⟩ := isOf hZ2 eq3 ST.1
    obtain ⟨_, _, ⟨T6, L6, kk6, n6⟩, -, X6, ⟨Lc6, hQ6, l6, y6, z6⟩, st6⟩ := X4.virtualBack hx (y := (⟨"java/lang/String", "length", "()I"⟩ : MethodName)) (z := (⟨"java/lang/String", "length", "()I"⟩ : MethodName)) hown2 (mvT hZ2 (hw _ (List.mem_of_getElem? (i := 52) rfl))) (mvT hZ2 (hw _ (List.mem_of_getElem? (i := 53) rfl))) (notFace_of_selects (args := #[]) (mvT hZ2 (hw _ (List.mem_of_getElem? (i := 55) rfl)))) (mvT hZ2 (hw _ (List.mem_of_getElem? (i := 55) rfl))) (mvT hZ2 (hw _ (List.mem_of_getElem? (i := 54) rfl))) (by decide) (StrChars.Road.lenW (W := 2) hZ2 (own_wL hw) (kI := 4) (hw _ (List.mem_of_getElem? (i := 13) rfl)) ST.1 ST.2.1 ST.2.2.1 ST.2.2.2 (StrChars.Road.codOf (cs := [d0]) (n := ([d0] : List Int32).length) rfl (fun c hc => (hbc c hc).2)) (own_up hbc) (O2.ext XO.2) P5 ln2 (by decide) (by decide)) q6a q6c (g := (mkF m 14 #[.val (.ref a1), .val (.ref x1), .unset, .unset, .unset] [(.ref x1), (.int (0 : Int32)), (.ref x1)])) rfl (by rw [hml]; rfl) (Steps.refl _) (argsL := []) (rest := [(.int (0 : Int32)), (.ref x1)]) (lenOf own_pd4 rfl) rfl (by show 2 * 0 + _ ≤ _; exact Nat.le_of_eq rfl) (hb hby own_d9_14) (fun _ _ => ⟨rfl, eq3, (by decide : 2 + 0 ≤ _), (by decide : 24 + 0 ≤ _)⟩)
    dsimp only [Pt.U, Pt.locs, Pt.cells, Pt.slots] at X6 l6 y6 z6 st6 hQ6
    subst l6 y6 z6
    obtain ⟨rfl, rfl, eq5⟩ := hQ6
    have N6 := Fr.app N4 (Fr.nil n0)
    replace k : own_K p.tables e below (s₁.setTop (entryFrame m #[(.ref a1), (.ref x1)] 5)) (T6.setTop (mkF m 17 #[.val (.ref a1), .val (.ref x1), .unset, .unset, .unset] [(.int (1 : Int32)), (.int (0 : Int32)), (.ref x1)])) := fun t h => k t (st6.trans h)
    obtain ⟨cq8, kq8, q8a, q8b, q8c⟩ := isOf hZ2 eq5 ST.1
    obtain ⟨_, _, ⟨T8, L8, kk8, n8⟩, -, X8, ⟨Lc8, hQ8, l8, y8, z8⟩, st8⟩ := X6.virtualBack hx (y := (⟨"java/lang/String", "codePointCount", "(II)I"⟩ : MethodName)) (z := (⟨"java/lang/String", "codePointCount", "(II)I"⟩ : MethodName)) hown2 (mvT hZ2 (hw _ (List.mem_of_getElem? (i := 62) rfl))) (mvT hZ2 (hw _ (List.mem_of_getElem? (i := 63) rfl))) (notFace_of_selects (args := #[]) (mvT hZ2 (hw _ (List.mem_of_getElem? (i := 65) rfl)))) (mvT hZ2 (hw _ (List.mem_of_getElem? (i := 65) rfl))) (mvT hZ2 (hw _ (List.mem_of_getElem? (i := 64) rfl))) (by decide) (backOf (W := 0) (rm13 l Z a0 hw [] x1 t1 kb1 [d0] (1 : Int32) G1 h2 n0 O2 P5 XO ST hbc ln2 rfl (by decide) (by decide)) hZ2 (hw _ (List.mem_of_getElem? (i := 66) rfl)) (hw _ (List.mem_of_getElem? (i := 14) rfl)) (by decide) (by decide)) q8a q8c (g := (mkF m 17 #[.val (.ref a1), .val (.ref x1), .unset, .unset, .unset] [(.int (1 : Int32)), (.int (0 : Int32)), (.ref x1)])) rfl (by rw [hml]; rfl) (Steps.refl _) (argsL := [(.int (0 : Int32)), (.int (1 : Int32))]) (rest := []) (lenOf own_pd1 rfl) rfl (by show 2 * 0 + _ ≤ _; exact Nat.le_of_eq rfl) (hb hby own_d9_17) (fun _ _ => ⟨rfl, eq5, (by decide : 2 + 0 ≤ _), (by decide : 24 + 0 ≤ _)⟩)
    dsimp only [Pt.U, Pt.locs, Pt.cells, Pt.slots] at X8 l8 y8 z8 st8 hQ8
    subst l8 y8 z8
    obtain ⟨rfl, N8q, eq7⟩ := hQ8
    have N8 := Fr.app N6 N8q
    replace k : own_K p.tables e below (s₁.setTop (entryFrame m #[(.ref a1), (.ref x1)] 5)) (T8.setTop (mkF m 20 #[.val (.ref a1), .val (.ref x1), .unset, .unset, .unset] [(.int ((1 : Int32) - (0 : Int32)))])) := fun t h => k t (st8.trans h)
    replace k : own_K p.tables e below (s₁.setTop (entryFrame m #[(.ref a1), (.ref x1)] 5)) (T8.setTop (mkF m 21 #[.val (.ref a1), .val (.ref x1), .val (.int ((1 : Int32) - (0 : Int32))), .unset, .unset] [])) := fun t h => k t (XS.istoreN X8.here hx rfl (hb hby own_d9_20) rfl (l' := #[.val (.ref a1), .val (.ref x1), .val (.int ((1 : Int32) - (0 : Int32))), .unset, .unset]) rfl h)
    replace k : own_K p.tables e below (s₁.setTop (entryFrame m #[(.ref a1), (.ref x1)] 5)) (T8.setTop (mkF m 22 #[.val (.ref a1), .val (.ref x1), .val (.int ((1 : Int32) - (0 : Int32))), .unset, .unset] [(.int ((1 : Int32) - (0 : Int32)))])) := fun t h => k t (XS.iloadN X8.here hx rfl (hb hby own_d9_21) rfl h)
    replace k : own_K p.tables e below (s₁.setTop (entryFrame m #[(.ref a1), (.ref x1)] 5)) (T8.setTop (mkF m 35 #[.val (.ref a1), .val (.ref x1), .val (.int ((1 : Int32) - (0 : Int32))), .unset, .unset] [])) := fun t h => k t (XS.ifYes X8.here hx rfl (pc0 := 22) (pc' := 35) rfl (hb hby own_d9_22) rfl ((if0 _ _).trans (feq (by decide : ¬ (((1 : Int32) - (0 : Int32)) = (0 : Int32)))).2) (by decide) (by decide) h)
    replace k : own_K p.tables e below (s₁.setTop (entryFrame m #[(.ref a1), (.ref x1)] 5)) (T8.setTop (mkF m 36 #[.val (.ref a1), .val (.ref x1), .val (.int ((1 : Int32) - (0 : Int32))), .unset, .unset] [(.int ((1 : Int32) - (0 : Int32)))])) := fun t h => k t (XS.iloadN X8.here hx rfl (hb hby own_d9_35) rfl h)
    replace k : own_K p.tables e below (s₁.setTop (entryFrame m #[(.ref a1), (.ref x1)] 5)) (T8.setTop (mkF m 39 #[.val (.ref a1), .val (.ref x1), .val (.int ((1 : Int32) - (0 : Int32))), .unset, .unset] [(.int (200 : Int32)), (.int ((1 : Int32) - (0 : Int32)))])) := fun t h => k t (XS.sipush X8.here hx rfl (hb hby own_d9_36) h)
    replace k : own_K p.tables e below (s₁.setTop (entryFrame m #[(.ref a1), (.ref x1)] 5)) (T8.setTop (mkF m 56 #[.val (.ref a1), .val (.ref x1), .val (.int ((1 : Int32) - (0 : Int32))), .unset, .unset] [])) := fun t h => k t (XS.icmpYes X8.here hx rfl (pc0 := 39) (pc' := 56) rfl (hb hby own_d9_39) rfl (flt (by decide : ¬ ((200 : Int32) < ((1 : Int32) - (0 : Int32))))).2.2.2 (by decide) (by decide) h)
    replace k : own_K p.tables e below (s₁.setTop (entryFrame m #[(.ref a1), (.ref x1)] 5)) (T8.setTop (mkF m 57 #[.val (.ref a1), .val (.ref x1), .val (.int ((1 : Int32) - (0 : Int32))), .unset, .unset] [(.int (0 : Int32))])) := fun t h => k t (XS.iconst X8.here hx rfl (hb hby own_d9_56) h)
    replace k : own_K p.tables e below (s₁.setTop (entryFrame m #[(.ref a1), (.ref x1)] 5)) (T8.setTop (mkF m 58 #[.val (.ref a1), .val (.ref x1), .val (.int ((1 : Int32) - (0 : Int32))), .val (.int (0 : Int32)), .unset] [])) := fun t h => k t (XS.istoreN X8.here hx rfl (hb hby own_d9_57) rfl (l' := #[.val (.ref a1), .val (.ref x1), .val (.int ((1 : Int32) - (0 : Int32))), .val (.int (0 : Int32)), .unset]) rfl h)
    replace k : own_K p.tables e below (s₁.setTop (entryFrame m #[(.ref a1), (.ref x1)] 5)) (T8.setTop (mkF m 59 #[.val (.ref a1), .val (.ref x1), .val (.int ((1 : Int32) - (0 : Int32))), .val (.int (0 : Int32)), .unset] [(.int (0 : Int32))])) := fun t h => k t (XS.iloadN X8.here hx rfl (hb hby own_d9_58) rfl h)
    replace k : own_K p.tables e below (s₁.setTop (entryFrame m #[(.ref a1), (.ref x1)] 5)) (T8.setTop (mkF m 60 #[.val (.ref a1), .val (.ref x1), .val (.int ((1 : Int32) - (0 : Int32))), .val (.int (0 : Int32)), .unset] [(.ref x1), (.int (0 : Int32))])) := fun t h => k t (XS.aloadN X8.here hx rfl (hb hby own_d9_59) rfl rfl h)
    obtain ⟨cq10, kq10, q10a, q10b, q10c⟩ := isOf hZ2 eq7 ST.1
    obtain ⟨_, _, ⟨T10, L10, kk10, n10⟩, -, X10, ⟨Lc10, hQ10, l10, y10, z10⟩, st10⟩ := X8.virtualBack hx (y := (⟨"java/lang/String", "length", "()I"⟩ : MethodName)) (z := (⟨"java/lang/String", "length", "()I"⟩ : MethodName)) hown2 (mvT hZ2 (hw _ (List.mem_of_getElem? (i := 52) rfl))) (mvT hZ2 (hw _ (List.mem_of_getElem? (i := 53) rfl))) (notFace_of_selects (args := #[]) (mvT hZ2 (hw _ (List.mem_of_getElem? (i := 55) rfl)))) (mvT hZ2 (hw _ (List.mem_of_getElem? (i := 55) rfl))) (mvT hZ2 (hw _ (List.mem_of_getElem? (i := 54) rfl))) (by decide) (StrChars.Road.lenW (W := 1) hZ2 (own_wL hw) (kI := 4) (hw _ (List.mem_of_getElem? (i := 13) rfl)) ST.1 ST.2.1 ST.2.2.1 ST.2.2.2 (StrChars.Road.codOf (cs := [d0]) (n := ([d0] : List Int32).length) rfl (fun c hc => (hbc c hc).2)) (own_up hbc) (O2.ext XO.2) P5 ln2 (by decide) (by decide)) q10a q10c (g := (mkF m 60 #[.val (.ref a1), .val (.ref x1), .val (.int ((1 : Int32) - (0 : Int32))), .val (.int (0 : Int32)), .unset] [(.ref x1), (.int (0 : Int32))])) rfl (by rw [hml]; rfl) (Steps.refl _) (argsL := []) (rest := [(.int (0 : Int32))]) (lenOf own_pd4 rfl) rfl (by show 2 * 0 + _ ≤ _; exact Nat.le_of_eq rfl) (hb hby own_d9_60) (fun _ _ => ⟨rfl, eq7, (by decide : 2 + 0 ≤ _), (by decide : 24 + 0 ≤ _)⟩)
    dsimp only [Pt.U, Pt.locs, Pt.cells, Pt.slots] at X10 l10 y10 z10 st10 hQ10
    subst l10 y10 z10
    obtain ⟨rfl, rfl, eq9⟩ := hQ10
    have N10 := Fr.app N8 (Fr.nil n0)
    replace k : own_K p.tables e below (s₁.setTop (entryFrame m #[(.ref a1), (.ref x1)] 5)) (T10.setTop (mkF m 63 #[.val (.ref a1), .val (.ref x1), .val (.int ((1 : Int32) - (0 : Int32))), .val (.int (0 : Int32)), .unset] [(.int (1 : Int32)), (.int (0 : Int32))])) := fun t h => k t (st10.trans h)
    replace k : own_K p.tables e below (s₁.setTop (entryFrame m #[(.ref a1), (.ref x1)] 5)) (T10.setTop (mkF m 66 #[.val (.ref a1), .val (.ref x1), .val (.int ((1 : Int32) - (0 : Int32))), .val (.int (0 : Int32)), .unset] [])) := fun t h => k t (XS.icmpNo X10.here hx rfl (hb hby own_d9_63) rfl (tlt (by decide : (0 : Int32) < (1 : Int32))).2.1 h)
    replace k : own_K p.tables e below (s₁.setTop (entryFrame m #[(.ref a1), (.ref x1)] 5)) (T10.setTop (mkF m 67 #[.val (.ref a1), .val (.ref x1), .val (.int ((1 : Int32) - (0 : Int32))), .val (.int (0 : Int32)), .unset] [(.ref x1)])) := fun t h => k t (XS.aloadN X10.here hx rfl (hb hby own_d9_66) rfl rfl h)
    replace k : own_K p.tables e below (s₁.setTop (entryFrame m #[(.ref a1), (.ref x1)] 5)) (T10.setTop (mkF m 68 #[.val (.ref a1), .val (.ref x1), .val (.int ((1 : Int32) - (0 : Int32))), .val (.int (0 : Int32)), .unset] [(.int (0 : Int32)), (.ref x1)])) := fun t h => k t (XS.iloadN X10.here hx rfl (hb hby own_d9_67) rfl h)
    obtain ⟨cq12, kq12, q12a, q12b, q12c⟩ := isOf hZ2 eq9 ST.1
    obtain ⟨_, _, ⟨T12, L12, kk12, n12⟩, -, X12, ⟨Lc12, hQ12, l12, y12, z12⟩, st12⟩ := X10.virtualBack hx (y := (⟨"java/lang/String", "charAt", "(I)C"⟩ : MethodName)) (z := (⟨"java/lang/String", "charAt", "(I)C"⟩ : MethodName)) hown2 (mvT hZ2 (hw _ (List.mem_of_getElem? (i := 80) rfl))) (mvT hZ2 (hw _ (List.mem_of_getElem? (i := 81) rfl))) (notFace_of_selects (args := #[]) (mvT hZ2 (hw _ (List.mem_of_getElem? (i := 83) rfl)))) (mvT hZ2 (hw _ (List.mem_of_getElem? (i := 83) rfl))) (mvT hZ2 (hw _ (List.mem_of_getElem? (i := 82) rfl))) (by decide) (StrChars.Road.chN (W := 0) hZ2 (own_wC hw) (kI := 4) (hw _ (List.mem_of_getElem? (i := 13) rfl)) ST.1 ST.2.1 ST.2.2.1 ST.2.2.2 (StrChars.Road.codOf (cs := [d0]) (n := ([d0] : List Int32).length) rfl (fun c hc => (hbc c hc).2)) (own_up hbc) (O2.ext XO.2) P5 (O4.ext XO.2) rG3 ln2 (i := 0) (by simp) (by rfl) (by decide) (by decide)) q12a q12c (g := (mkF m 68 #[.val (.ref a1), .val (.ref x1), .val (.int ((1 : Int32) - (0 : Int32))), .val (.int (0 : Int32)), .unset] [(.int (0 : Int32)), (.ref x1)])) rfl (by rw [hml]; rfl) (Steps.refl _) (argsL := [(.int (0 : Int32))]) (rest := []) (lenOf own_pd9 rfl) rfl (by show 2 * 0 + _ ≤ _; exact Nat.le_of_eq rfl) (hb hby own_d9_68) (fun _ _ => ⟨rfl, eq9, (by decide : 2 + 0 ≤ _), (by decide : 24 + 0 ≤ _)⟩)
    dsimp only [Pt.U, Pt.locs, Pt.cells, Pt.slots] at X12 l12 y12 z12 st12 hQ12
    subst l12 y12 z12
    obtain ⟨rfl, rfl, eq11⟩ := hQ12
    have N12 := Fr.app N10 (Fr.nil n0)
    replace k : own_K p.tables e below (s₁.setTop (entryFrame m #[(.ref a1), (.ref x1)] 5)) (T12.setTop (mkF m 71 #[.val (.ref a1), .val (.ref x1), .val (.int ((1 : Int32) - (0 : Int32))), .val (.int (0 : Int32)), .unset] [(.int d0)])) := fun t h => k t (st12.trans h)
    obtain ⟨_, _, ⟨T13, L13, kk13, n13⟩, -, X13, S13, gr13, ⟨Lc13, hQ13, l13, y13, z13, hC13⟩, st13⟩ := callSS X12 hx (y := (⟨"com/example/ferrolho/ferrolho/lock/LockName", "isAllowed", "(C)Z"⟩ : MethodName)) hown2 (mvT hZ2 (hw _ (List.mem_of_getElem? (i := 96) rfl))) (mvT hZ2 (hw _ (List.mem_of_getElem? (i := 97) rfl))) (mvT hZ2 (hw _ (List.mem_of_getElem? (i := 7) rfl))) (mvT hZ2 (hw _ (List.mem_of_getElem? (i := 98) rfl))) (by decide) (backOfSH (W := 0) (rm9 l Z a0 hw [] d0 G1 h2 n0 O2 P5 XO k0) hZ2 (hw _ (List.mem_of_getElem? (i := 98) rfl)) (hw _ (List.mem_of_getElem? (i := 7) rfl)) (by decide) (by decide) hEL CH.1) (g := (mkF m 71 #[.val (.ref a1), .val (.ref x1), .val (.int ((1 : Int32) - (0 : Int32))), .val (.int (0 : Int32)), .unset] [(.int d0)])) rfl (by rw [hml]; rfl) (argsL := [(.int d0)]) (rest := []) (lenOf own_pd10 rfl) rfl (by show 2 * 0 + _ ≤ _; exact Nat.le_of_eq rfl) (hb hby own_d9_71) (fun _ _ => ⟨rfl, eq11, (by decide : 2 + 2 ≤ _), (by decide : 24 + 24 ≤ _)⟩)
    dsimp only [Pt.U, Pt.locs, Pt.cells, Pt.slots] at X13 l13 y13 z13 st13 hQ13 S13 gr13 hC13
    subst l13 y13 z13
    replace CH := CH.trans hC13
    obtain ⟨rfl, N13q, EX⟩ := hQ13
    have N13 := Fr.app N12 N13q
    obtain ⟨X13, hS13, hZ13, hown13⟩ := rebS hS2 hk2 X13 S13 (by rw [← eq11]; exact gr13) hZ2 hown2
    have hk13 : T13.heap.size ≤ T13.heap.size := Nat.le_refl _
    replace k : own_K p.tables e below (s₁.setTop (entryFrame m #[(.ref a1), (.ref x1)] 5)) (T13.setTop (mkF m 74 #[.val (.ref a1), .val (.ref x1), .val (.int ((1 : Int32) - (0 : Int32))), .val (.int (0 : Int32)), .unset] [(.int (1 : Int32))])) := fun t h => k t (st13.trans h)
    replace XO := XO.ext EX
    replace ST := ST.ext EX
    replace E1 := E1.ext EX
    replace F1 := F1.ext EX
    replace K1 := K1.ext EX
    replace k : own_K p.tables e below (s₁.setTop (entryFrame m #[(.ref a1), (.ref x1)] 5)) (T13.setTop (mkF m 105 #[.val (.ref a1), .val (.ref x1), .val (.int ((1 : Int32) - (0 : Int32))), .val (.int (0 : Int32)), .unset] [])) := fun t h => k t (XS.ifYes X13.here hx rfl (pc0 := 74) (pc' := 105) rfl (hb hby own_d9_74) rfl ((if0 _ _).trans (feq (by decide : ¬ ((1 : Int32) = (0 : Int32)))).2) (by decide) (by decide) h)
    replace k : own_K p.tables e below (s₁.setTop (entryFrame m #[(.ref a1), (.ref x1)] 5)) (T13.setTop (mkF m 108 #[.val (.ref a1), .val (.ref x1), .val (.int ((1 : Int32) - (0 : Int32))), .val (.int ((0 : Int32) + (1 : Int32))), .unset] [])) := fun t h => k t (XS.iinc X13.here hx rfl (hb hby own_d9_105) rfl (l' := #[.val (.ref a1), .val (.ref x1), .val (.int ((1 : Int32) - (0 : Int32))), .val (.int ((0 : Int32) + (1 : Int32))), .unset]) rfl h)
    replace k : own_K p.tables e below (s₁.setTop (entryFrame m #[(.ref a1), (.ref x1)] 5)) (T13.setTop (mkF m 58 #[.val (.ref a1), .val (.ref x1), .val (.int ((1 : Int32) - (0 : Int32))), .val (.int ((0 : Int32) + (1 : Int32))), .unset] [])) := fun t h => k t (XS.goto X13.here hx rfl (pc0 := 108) (pc' := 58) rfl (hb hby own_d9_108) (by decide) (by decide) h)
    replace k : own_K p.tables e below (s₁.setTop (entryFrame m #[(.ref a1), (.ref x1)] 5)) (T13.setTop (mkF m 59 #[.val (.ref a1), .val (.ref x1), .val (.int ((1 : Int32) - (0 : Int32))), .val (.int ((0 : Int32) + (1 : Int32))), .unset] [(.int ((0 : Int32) + (1 : Int32)))])) := fun t h => k t (XS.iloadN X13.here hx rfl (hb hby own_d9_58) rfl h)
    replace k : own_K p.tables e below (s₁.setTop (entryFrame m #[(.ref a1), (.ref x1)] 5)) (T13.setTop (mkF m 60 #[.val (.ref a1), .val (.ref x1), .val (.int ((1 : Int32) - (0 : Int32))), .val (.int ((0 : Int32) + (1 : Int32))), .unset] [(.ref x1), (.int ((0 : Int32) + (1 : Int32)))])) := fun t h => k t (XS.aloadN X13.here hx rfl (hb hby own_d9_59) rfl rfl h)
    obtain ⟨cq15, kq15, q15a, q15b, q15c⟩ := isOf hZ13 rfl ST.1
    obtain ⟨_, _, ⟨T15, L15, kk15, n15⟩, -, X15, ⟨Lc15, hQ15, l15, y15, z15⟩, st15⟩ := X13.virtualBack hx (y := (⟨"java/lang/String", "length", "()I"⟩ : MethodName)) (z := (⟨"java/lang/String", "length", "()I"⟩ : MethodName)) hown13 (mvT hZ13 (hw _ (List.mem_of_getElem? (i := 52) rfl))) (mvT hZ13 (hw _ (List.mem_of_getElem? (i := 53) rfl))) (notFace_of_selects (args := #[]) (mvT hZ13 (hw _ (List.mem_of_getElem? (i := 55) rfl)))) (mvT hZ13 (hw _ (List.mem_of_getElem? (i := 55) rfl))) (mvT hZ13 (hw _ (List.mem_of_getElem? (i := 54) rfl))) (by decide) (StrChars.Road.lenW (W := 1) hZ13 (own_wL hw) (kI := 4) (hw _ (List.mem_of_getElem? (i := 13) rfl)) ST.1 ST.2.1 ST.2.2.1 ST.2.2.2 (StrChars.Road.codOf (cs := [d0]) (n := ([d0] : List Int32).length) rfl (fun c hc => (hbc c hc).2)) (own_up hbc) (O2.ext XO.2) P5 ln2 (by decide) (by decide)) q15a q15c (g := (mkF m 60 #[.val (.ref a1), .val (.ref x1), .val (.int ((1 : Int32) - (0 : Int32))), .val (.int ((0 : Int32) + (1 : Int32))), .unset] [(.ref x1), (.int ((0 : Int32) + (1 : Int32)))])) rfl (by rw [hml]; rfl) (Steps.refl _) (argsL := []) (rest := [(.int ((0 : Int32) + (1 : Int32)))]) (lenOf own_pd4 rfl) rfl (by show 2 * 0 + _ ≤ _; exact Nat.le_of_eq rfl) (hb hby own_d9_60) (fun _ _ => ⟨rfl, rfl, (by decide : 4 + 0 ≤ _), (by decide : 48 + 0 ≤ _)⟩)
    dsimp only [Pt.U, Pt.locs, Pt.cells, Pt.slots] at X15 l15 y15 z15 st15 hQ15
    subst l15 y15 z15
    obtain ⟨rfl, rfl, eq14⟩ := hQ15
    have N15 := Fr.app N13 (Fr.nil n0)
    replace k : own_K p.tables e below (s₁.setTop (entryFrame m #[(.ref a1), (.ref x1)] 5)) (T15.setTop (mkF m 63 #[.val (.ref a1), .val (.ref x1), .val (.int ((1 : Int32) - (0 : Int32))), .val (.int ((0 : Int32) + (1 : Int32))), .unset] [(.int (1 : Int32)), (.int ((0 : Int32) + (1 : Int32)))])) := fun t h => k t (st15.trans h)
    replace k : own_K p.tables e below (s₁.setTop (entryFrame m #[(.ref a1), (.ref x1)] 5)) (T15.setTop (mkF m 111 #[.val (.ref a1), .val (.ref x1), .val (.int ((1 : Int32) - (0 : Int32))), .val (.int ((0 : Int32) + (1 : Int32))), .unset] [])) := fun t h => k t (XS.icmpYes X15.here hx rfl (pc0 := 63) (pc' := 111) rfl (hb hby own_d9_63) rfl (flt (by decide : ¬ (((0 : Int32) + (1 : Int32)) < (1 : Int32)))).2.1 (by decide) (by decide) h)
    replace k : own_K p.tables e below (s₁.setTop (entryFrame m #[(.ref a1), (.ref x1)] 5)) (T15.setTop (mkF m 112 #[.val (.ref a1), .val (.ref x1), .val (.int ((1 : Int32) - (0 : Int32))), .val (.int ((0 : Int32) + (1 : Int32))), .unset] [(.ref a1)])) := fun t h => k t (XS.aloadN X15.here hx rfl (hb hby own_d9_111) rfl rfl h)
    replace k : own_K p.tables e below (s₁.setTop (entryFrame m #[(.ref a1), (.ref x1)] 5)) (T15.setTop (mkF m 113 #[.val (.ref a1), .val (.ref x1), .val (.int ((1 : Int32) - (0 : Int32))), .val (.int ((0 : Int32) + (1 : Int32))), .unset] [(.ref x1), (.ref a1)])) := fun t h => k t (XS.aloadN X15.here hx rfl (hb hby own_d9_112) rfl rfl h)
    obtain ⟨T16, h16, X16, e16, W16, st16⟩ := putF X15 hx hZ13 hown13 (host := "") (Or.inl (hw _ (List.mem_of_getElem? (i := 99) rfl))) Via.refl eq14 F1 E1 (Or.inr ⟨(hw _ (List.mem_of_getElem? (i := 100) rfl)), rfl, hnm⟩) (hw _ (List.mem_of_getElem? (i := 6) rfl)) (ty := (.object "java/lang/String")) (by decide) rfl rfl (g := (mkF m 113 #[.val (.ref a1), .val (.ref x1), .val (.int ((1 : Int32) - (0 : Int32))), .val (.int ((0 : Int32) + (1 : Int32))), .unset] [(.ref x1), (.ref a1)])) rfl rfl (hb hby own_d9_113)
    have N16 := Fr.snoc X16 N15 g1
    replace k : own_K p.tables e below (s₁.setTop (entryFrame m #[(.ref a1), (.ref x1)] 5)) (T16.setTop (mkF m 116 #[.val (.ref a1), .val (.ref x1), .val (.int ((1 : Int32) - (0 : Int32))), .val (.int ((0 : Int32) + (1 : Int32))), .unset] [])) := fun t h => k t (st16 _ h)
    replace hk13 := Nat.le_trans hk13 (Nat.le_of_eq W16.size.symm)
    replace CH := CH.trans (CHr.wr W16 (Safe.exa hZ13.alike E1 (by decide) (by decide)) CH.1)
    replace F1 := F1.same W16
    replace E1 := E1.wr W16
    replace K1 := K1.wr W16 (Or.inl (List.mem_of_getElem? (i := 0) rfl))
    obtain ⟨fs, hr, hrun, hended, hEnd⟩ := X16.leaveW hS13 (by rw [e16]; exact hk13) (v := none) (fun _ => rfl) Bd.notSynchronized
    have CHe : CHr Z consts_1 s.vm s.heap (T16.setFrames fs).vm (T16.setFrames fs).heap := by
      show CHr Z consts_1 s.vm s.heap T16.vm T16.heap
      rw [hh, e16]
      exact CH.trans (CHv.at X16 hZ13 hEL CH.1)
    refine ⟨_, _, k _ (X16.returnOut hx Bd.returns (hb hby own_d9_116) hr), hrun, hended, _, _, rfl, ?_, CHe, hEnd.1, hEnd.2.1, hEnd.2.2.1, hEnd.2.2.2.mono (by decide) (by decide)⟩
    show Q14 Z a1 u0 x1 t1 kb1 [d0] G1 G3 h0 n0 _ T16.heap _
    rw [e16]
    exact ⟨rfl, N16, K1, E1, F1⟩
  · replace k : own_K p.tables e below (s₁.setTop (entryFrame m #[(.ref a1), (.ref x1)] 5)) (s₁.setTop (mkF m 1 #[.val (.ref a1), .val (.ref x1), .unset, .unset, .unset] [(.ref a1)])) := fun t h => k t (XS.aloadN X0.here hx rfl (hb hby own_d9_0) rfl rfl h)
    obtain ⟨T17, X17, e17, st17⟩ := initO X0 hx hZ hown (hw _ (List.mem_of_getElem? (i := 44) rfl)) (hw _ (List.mem_of_getElem? (i := 23) rfl)) (hw _ (List.mem_of_getElem? (i := 24) rfl)) e0 (g := (mkF m 1 #[.val (.ref a1), .val (.ref x1), .unset, .unset, .unset] [(.ref a1)])) rfl (by rw [hml]; rfl) rfl (hb hby own_d9_1) (by decide) (W := 0) (by show 2 * 0 + _ ≤ _; exact Nat.le_of_eq rfl) (by decide)
    replace k : own_K p.tables e below (s₁.setTop (entryFrame m #[(.ref a1), (.ref x1)] 5)) (T17.setTop (mkF m 4 #[.val (.ref a1), .val (.ref x1), .unset, .unset, .unset] [])) := fun t h => k t (st17 _ h)
    replace k : own_K p.tables e below (s₁.setTop (entryFrame m #[(.ref a1), (.ref x1)] 5)) (T17.setTop (mkF m 5 #[.val (.ref a1), .val (.ref x1), .unset, .unset, .unset] [(.ref x1)])) := fun t h => k t (XS.aloadN X17.here hx rfl (hb hby own_d9_4) rfl rfl h)
    obtain ⟨b18, T18, h18, k18, X18, e18, E18, hS18, hk18, hZ18, hown18, CH18, -, st18⟩ := ldcOH X17 hx hZ hown (hw _ (List.mem_of_getElem? (i := 45) rfl)) (own_wS hw) e17 hS0 hk0 hEL CH.1 (g := (mkF m 5 #[.val (.ref a1), .val (.ref x1), .unset, .unset, .unset] [(.ref x1)])) rfl (hb hby own_d9_5) (n := 20) (by first | decide | decide +kernel | simp) (by decide) (by decide) (by decide)
    replace CH := CH.trans CH18
    replace k : own_K p.tables e below (s₁.setTop (entryFrame m #[(.ref a1), (.ref x1)] 5)) (T18.setTop (mkF m 7 #[.val (.ref a1), .val (.ref x1), .unset, .unset, .unset] [(.ref b18), (.ref x1)])) := fun t h => k t (st18 _ h)
    replace XO := XO.ext E18
    replace ST := ST.ext E18
    replace E1 := E1.ext E18
    replace F1 := F1.ext E18
    replace K1 := K1.ext E18
    obtain ⟨_, _, ⟨T20, L20, kk20, n20⟩, -, X20, ⟨Lc20, hQ20, l20, y20, z20⟩, st20⟩ := Jvm.LawKit.callS X18 hx (y := (⟨"java/util/Objects", "requireNonNull", "(Ljava/lang/Object;Ljava/lang/String;)Ljava/lang/Object;"⟩ : MethodName)) hown18 (mvT hZ18 (hw _ (List.mem_of_getElem? (i := 48) rfl))) (mvT hZ18 (hw _ (List.mem_of_getElem? (i := 49) rfl))) (mvT hZ18 (hw _ (List.mem_of_getElem? (i := 50) rfl))) (mvT hZ18 (hw _ (List.mem_of_getElem? (i := 51) rfl))) (by decide) (backOf (W := 0) (rm10 l Z a0 hw [] x1 b18 h18 n0) hZ18 (hw _ (List.mem_of_getElem? (i := 51) rfl)) (hw _ (List.mem_of_getElem? (i := 50) rfl)) (by decide) (by decide)) (g := (mkF m 7 #[.val (.ref a1), .val (.ref x1), .unset, .unset, .unset] [(.ref b18), (.ref x1)])) rfl (by rw [hml]; rfl) (argsL := [(.ref x1), (.ref b18)]) (rest := []) (lenOf own_pd8 rfl) rfl (by show 2 * 0 + _ ≤ _; exact Nat.le_of_eq rfl) (hb hby own_d9_7) (fun _ _ => ⟨rfl, e18, (by decide : 2 + 0 ≤ _), (by decide : 24 + 0 ≤ _)⟩)
    dsimp only [Pt.U, Pt.locs, Pt.cells, Pt.slots] at X20 l20 y20 z20 st20 hQ20
    subst l20 y20 z20
    obtain ⟨rfl, N20q, eq19⟩ := hQ20
    have N20 := Fr.app N0 N20q
    replace k : own_K p.tables e below (s₁.setTop (entryFrame m #[(.ref a1), (.ref x1)] 5)) (T20.setTop (mkF m 10 #[.val (.ref a1), .val (.ref x1), .unset, .unset, .unset] [(.ref x1)])) := fun t h => k t (st20 _ h)
    replace k : own_K p.tables e below (s₁.setTop (entryFrame m #[(.ref a1), (.ref x1)] 5)) (T20.setTop (mkF m 11 #[.val (.ref a1), .val (.ref x1), .unset, .unset, .unset] [])) := fun t h => k t (XS.pop X20.here hx rfl (hb hby own_d9_10) rfl rfl h)
    replace k : own_K p.tables e below (s₁.setTop (entryFrame m #[(.ref a1), (.ref x1)] 5)) (T20.setTop (mkF m 12 #[.val (.ref a1), .val (.ref x1), .unset, .unset, .unset] [(.ref x1)])) := fun t h => k t (XS.aloadN X20.here hx rfl (hb hby own_d9_11) rfl rfl h)
    replace k : own_K p.tables e below (s₁.setTop (entryFrame m #[(.ref a1), (.ref x1)] 5)) (T20.setTop (mkF m 13 #[.val (.ref a1), .val (.ref x1), .unset, .unset, .unset] [(.int (0 : Int32)), (.ref x1)])) := fun t h => k t (XS.iconst X20.here hx rfl (hb hby own_d9_12) h)
    replace k : own_K p.tables e below (s₁.setTop (entryFrame m #[(.ref a1), (.ref x1)] 5)) (T20.setTop (mkF m 14 #[.val (.ref a1), .val (.ref x1), .unset, .unset, .unset] [(.ref x1), (.int (0 : Int32)), (.ref x1)])) := fun t h => k t (XS.aloadN X20.here hx rfl (hb hby own_d9_13) rfl rfl h)
    obtain ⟨cq22, kq22, q22a, q22b, q22c⟩ := isOf hZ18 eq19 ST.1
    obtain ⟨_, _, ⟨T22, L22, kk22, n22⟩, -, X22, ⟨Lc22, hQ22, l22, y22, z22⟩, st22⟩ := X20.virtualBack hx (y := (⟨"java/lang/String", "length", "()I"⟩ : MethodName)) (z := (⟨"java/lang/String", "length", "()I"⟩ : MethodName)) hown18 (mvT hZ18 (hw _ (List.mem_of_getElem? (i := 52) rfl))) (mvT hZ18 (hw _ (List.mem_of_getElem? (i := 53) rfl))) (notFace_of_selects (args := #[]) (mvT hZ18 (hw _ (List.mem_of_getElem? (i := 55) rfl)))) (mvT hZ18 (hw _ (List.mem_of_getElem? (i := 55) rfl))) (mvT hZ18 (hw _ (List.mem_of_getElem? (i := 54) rfl))) (by decide) (StrChars.Road.lenW (W := 2) hZ18 (own_wL hw) (kI := 4) (hw _ (List.mem_of_getElem? (i := 13) rfl)) ST.1 ST.2.1 ST.2.2.1 ST.2.2.2 (StrChars.Road.codOf (cs := [d0, d1]) (n := ([d0, d1] : List Int32).length) rfl (fun c hc => (hbc c hc).2)) (own_up hbc) (O2.ext XO.2) P5 ln2 (by decide) (by decide)) q22a q22c (g := (mkF m 14 #[.val (.ref a1), .val (.ref x1), .unset, .unset, .unset] [(.ref x1), (.int (0 : Int32)), (.ref x1)])) rfl (by rw [hml]; rfl) (Steps.refl _) (argsL := []) (rest := [(.int (0 : Int32)), (.ref x1)]) (lenOf own_pd4 rfl) rfl (by show 2 * 0 + _ ≤ _; exact Nat.le_of_eq rfl) (hb hby own_d9_14) (fun _ _ => ⟨rfl, eq19, (by decide : 2 + 0 ≤ _), (by decide : 24 + 0 ≤ _)⟩)
    dsimp only [Pt.U, Pt.locs, Pt.cells, Pt.slots] at X22 l22 y22 z22 st22 hQ22
    subst l22 y22 z22
    obtain ⟨rfl, rfl, eq21⟩ := hQ22
    have N22 := Fr.app N20 (Fr.nil n0)
    replace k : own_K p.tables e below (s₁.setTop (entryFrame m #[(.ref a1), (.ref x1)] 5)) (T22.setTop (mkF m 17 #[.val (.ref a1), .val (.ref x1), .unset, .unset, .unset] [(.int (2 : Int32)), (.int (0 : Int32)), (.ref x1)])) := fun t h => k t (st22.trans h)
    obtain ⟨cq24, kq24, q24a, q24b, q24c⟩ := isOf hZ18 eq21 ST.1
    obtain ⟨_, _, ⟨T24, L24, kk24, n24⟩, -, X24, ⟨Lc24, hQ24, l24, y24, z24⟩, st24⟩ := X22.virtualBack hx (y := (⟨"java/lang/String", "codePointCount", "(II)I"⟩ : MethodName)) (z := (⟨"java/lang/String", "codePointCount", "(II)I"⟩ : MethodName)) hown18 (mvT hZ18 (hw _ (List.mem_of_getElem? (i := 62) rfl))) (mvT hZ18 (hw _ (List.mem_of_getElem? (i := 63) rfl))) (notFace_of_selects (args := #[]) (mvT hZ18 (hw _ (List.mem_of_getElem? (i := 65) rfl)))) (mvT hZ18 (hw _ (List.mem_of_getElem? (i := 65) rfl))) (mvT hZ18 (hw _ (List.mem_of_getElem? (i := 64) rfl))) (by decide) (backOf (W := 0) (rm13 l Z a0 hw [] x1 t1 kb1 [d0, d1] (2 : Int32) G1 h18 n0 O2 P5 XO ST hbc ln2 rfl (by decide) (by decide)) hZ18 (hw _ (List.mem_of_getElem? (i := 66) rfl)) (hw _ (List.mem_of_getElem? (i := 14) rfl)) (by decide) (by decide)) q24a q24c (g := (mkF m 17 #[.val (.ref a1), .val (.ref x1), .unset, .unset, .unset] [(.int (2 : Int32)), (.int (0 : Int32)), (.ref x1)])) rfl (by rw [hml]; rfl) (Steps.refl _) (argsL := [(.int (0 : Int32)), (.int (2 : Int32))]) (rest := []) (lenOf own_pd1 rfl) rfl (by show 2 * 0 + _ ≤ _; exact Nat.le_of_eq rfl) (hb hby own_d9_17) (fun _ _ => ⟨rfl, eq21, (by decide : 2 + 0 ≤ _), (by decide : 24 + 0 ≤ _)⟩)
    dsimp only [Pt.U, Pt.locs, Pt.cells, Pt.slots] at X24 l24 y24 z24 st24 hQ24
    subst l24 y24 z24
    obtain ⟨rfl, N24q, eq23⟩ := hQ24
    have N24 := Fr.app N22 N24q
    replace k : own_K p.tables e below (s₁.setTop (entryFrame m #[(.ref a1), (.ref x1)] 5)) (T24.setTop (mkF m 20 #[.val (.ref a1), .val (.ref x1), .unset, .unset, .unset] [(.int ((2 : Int32) - (0 : Int32)))])) := fun t h => k t (st24.trans h)
    replace k : own_K p.tables e below (s₁.setTop (entryFrame m #[(.ref a1), (.ref x1)] 5)) (T24.setTop (mkF m 21 #[.val (.ref a1), .val (.ref x1), .val (.int ((2 : Int32) - (0 : Int32))), .unset, .unset] [])) := fun t h => k t (XS.istoreN X24.here hx rfl (hb hby own_d9_20) rfl (l' := #[.val (.ref a1), .val (.ref x1), .val (.int ((2 : Int32) - (0 : Int32))), .unset, .unset]) rfl h)
    replace k : own_K p.tables e below (s₁.setTop (entryFrame m #[(.ref a1), (.ref x1)] 5)) (T24.setTop (mkF m 22 #[.val (.ref a1), .val (.ref x1), .val (.int ((2 : Int32) - (0 : Int32))), .unset, .unset] [(.int ((2 : Int32) - (0 : Int32)))])) := fun t h => k t (XS.iloadN X24.here hx rfl (hb hby own_d9_21) rfl h)
    replace k : own_K p.tables e below (s₁.setTop (entryFrame m #[(.ref a1), (.ref x1)] 5)) (T24.setTop (mkF m 35 #[.val (.ref a1), .val (.ref x1), .val (.int ((2 : Int32) - (0 : Int32))), .unset, .unset] [])) := fun t h => k t (XS.ifYes X24.here hx rfl (pc0 := 22) (pc' := 35) rfl (hb hby own_d9_22) rfl ((if0 _ _).trans (feq (by decide : ¬ (((2 : Int32) - (0 : Int32)) = (0 : Int32)))).2) (by decide) (by decide) h)
    replace k : own_K p.tables e below (s₁.setTop (entryFrame m #[(.ref a1), (.ref x1)] 5)) (T24.setTop (mkF m 36 #[.val (.ref a1), .val (.ref x1), .val (.int ((2 : Int32) - (0 : Int32))), .unset, .unset] [(.int ((2 : Int32) - (0 : Int32)))])) := fun t h => k t (XS.iloadN X24.here hx rfl (hb hby own_d9_35) rfl h)
    replace k : own_K p.tables e below (s₁.setTop (entryFrame m #[(.ref a1), (.ref x1)] 5)) (T24.setTop (mkF m 39 #[.val (.ref a1), .val (.ref x1), .val (.int ((2 : Int32) - (0 : Int32))), .unset, .unset] [(.int (200 : Int32)), (.int ((2 : Int32) - (0 : Int32)))])) := fun t h => k t (XS.sipush X24.here hx rfl (hb hby own_d9_36) h)
    replace k : own_K p.tables e below (s₁.setTop (entryFrame m #[(.ref a1), (.ref x1)] 5)) (T24.setTop (mkF m 56 #[.val (.ref a1), .val (.ref x1), .val (.int ((2 : Int32) - (0 : Int32))), .unset, .unset] [])) := fun t h => k t (XS.icmpYes X24.here hx rfl (pc0 := 39) (pc' := 56) rfl (hb hby own_d9_39) rfl (flt (by decide : ¬ ((200 : Int32) < ((2 : Int32) - (0 : Int32))))).2.2.2 (by decide) (by decide) h)
    replace k : own_K p.tables e below (s₁.setTop (entryFrame m #[(.ref a1), (.ref x1)] 5)) (T24.setTop (mkF m 57 #[.val (.ref a1), .val (.ref x1), .val (.int ((2 : Int32) - (0 : Int32))), .unset, .unset] [(.int (0 : Int32))])) := fun t h => k t (XS.iconst X24.here hx rfl (hb hby own_d9_56) h)
    replace k : own_K p.tables e below (s₁.setTop (entryFrame m #[(.ref a1), (.ref x1)] 5)) (T24.setTop (mkF m 58 #[.val (.ref a1), .val (.ref x1), .val (.int ((2 : Int32) - (0 : Int32))), .val (.int (0 : Int32)), .unset] [])) := fun t h => k t (XS.istoreN X24.here hx rfl (hb hby own_d9_57) rfl (l' := #[.val (.ref a1), .val (.ref x1), .val (.int ((2 : Int32) - (0 : Int32))), .val (.int (0 : Int32)), .unset]) rfl h)
    replace k : own_K p.tables e below (s₁.setTop (entryFrame m #[(.ref a1), (.ref x1)] 5)) (T24.setTop (mkF m 59 #[.val (.ref a1), .val (.ref x1), .val (.int ((2 : Int32) - (0 : Int32))), .val (.int (0 : Int32)), .unset] [(.int (0 : Int32))])) := fun t h => k t (XS.iloadN X24.here hx rfl (hb hby own_d9_58) rfl h)
    replace k : own_K p.tables e below (s₁.setTop (entryFrame m #[(.ref a1), (.ref x1)] 5)) (T24.setTop (mkF m 60 #[.val (.ref a1), .val (.ref x1), .val (.int ((2 : Int32) - (0 : Int32))), .val (.int (0 : Int32)), .unset] [(.ref x1), (.int (0 : Int32))])) := fun t h => k t (XS.aloadN X24.here hx rfl (hb hby own_d9_59) rfl rfl h)
    obtain ⟨cq26, kq26, q26a, q26b, q26c⟩ := isOf hZ18 eq23 ST.1
    obtain ⟨_, _, ⟨T26, L26, kk26, n26⟩, -, X26, ⟨Lc26, hQ26, l26, y26, z26⟩, st26⟩ := X24.virtualBack hx (y := (⟨"java/lang/String", "length", "()I"⟩ : MethodName)) (z := (⟨"java/lang/String", "length", "()I"⟩ : MethodName)) hown18 (mvT hZ18 (hw _ (List.mem_of_getElem? (i := 52) rfl))) (mvT hZ18 (hw _ (List.mem_of_getElem? (i := 53) rfl))) (notFace_of_selects (args := #[]) (mvT hZ18 (hw _ (List.mem_of_getElem? (i := 55) rfl)))) (mvT hZ18 (hw _ (List.mem_of_getElem? (i := 55) rfl))) (mvT hZ18 (hw _ (List.mem_of_getElem? (i := 54) rfl))) (by decide) (StrChars.Road.lenW (W := 1) hZ18 (own_wL hw) (kI := 4) (hw _ (List.mem_of_getElem? (i := 13) rfl)) ST.1 ST.2.1 ST.2.2.1 ST.2.2.2 (StrChars.Road.codOf (cs := [d0, d1]) (n := ([d0, d1] : List Int32).length) rfl (fun c hc => (hbc c hc).2)) (own_up hbc) (O2.ext XO.2) P5 ln2 (by decide) (by decide)) q26a q26c (g := (mkF m 60 #[.val (.ref a1), .val (.ref x1), .val (.int ((2 : Int32) - (0 : Int32))), .val (.int (0 : Int32)), .unset] [(.ref x1), (.int (0 : Int32))])) rfl (by rw [hml]; rfl) (Steps.refl _) (argsL := []) (rest := [(.int (0 : Int32))]) (lenOf own_pd4 rfl) rfl (by show 2 * 0 + _ ≤ _; exact Nat.le_of_eq rfl) (hb hby own_d9_60) (fun _ _ => ⟨rfl, eq23, (by decide : 2 + 0 ≤ _), (by decide : 24 + 0 ≤ _)⟩)
    dsimp only [Pt.U, Pt.locs, Pt.cells, Pt.slots] at X26 l26 y26 z26 st26 hQ26
    subst l26 y26 z26
    obtain ⟨rfl, rfl, eq25⟩ := hQ26
    have N26 := Fr.app N24 (Fr.nil n0)
    replace k : own_K p.tables e below (s₁.setTop (entryFrame m #[(.ref a1), (.ref x1)] 5)) (T26.setTop (mkF m 63 #[.val (.ref a1), .val (.ref x1), .val (.int ((2 : Int32) - (0 : Int32))), .val (.int (0 : Int32)), .unset] [(.int (2 : Int32)), (.int (0 : Int32))])) := fun t h => k t (st26.trans h)
    replace k : own_K p.tables e below (s₁.setTop (entryFrame m #[(.ref a1), (.ref x1)] 5)) (T26.setTop (mkF m 66 #[.val (.ref a1), .val (.ref x1), .val (.int ((2 : Int32) - (0 : Int32))), .val (.int (0 : Int32)), .unset] [])) := fun t h => k t (XS.icmpNo X26.here hx rfl (hb hby own_d9_63) rfl (tlt (by decide : (0 : Int32) < (2 : Int32))).2.1 h)
    replace k : own_K p.tables e below (s₁.setTop (entryFrame m #[(.ref a1), (.ref x1)] 5)) (T26.setTop (mkF m 67 #[.val (.ref a1), .val (.ref x1), .val (.int ((2 : Int32) - (0 : Int32))), .val (.int (0 : Int32)), .unset] [(.ref x1)])) := fun t h => k t (XS.aloadN X26.here hx rfl (hb hby own_d9_66) rfl rfl h)
    replace k : own_K p.tables e below (s₁.setTop (entryFrame m #[(.ref a1), (.ref x1)] 5)) (T26.setTop (mkF m 68 #[.val (.ref a1), .val (.ref x1), .val (.int ((2 : Int32) - (0 : Int32))), .val (.int (0 : Int32)), .unset] [(.int (0 : Int32)), (.ref x1)])) := fun t h => k t (XS.iloadN X26.here hx rfl (hb hby own_d9_67) rfl h)
    obtain ⟨cq28, kq28, q28a, q28b, q28c⟩ := isOf hZ18 eq25 ST.1
    obtain ⟨_, _, ⟨T28, L28, kk28, n28⟩, -, X28, ⟨Lc28, hQ28, l28, y28, z28⟩, st28⟩ := X26.virtualBack hx (y := (⟨"java/lang/String", "charAt", "(I)C"⟩ : MethodName)) (z := (⟨"java/lang/String", "charAt", "(I)C"⟩ : MethodName)) hown18 (mvT hZ18 (hw _ (List.mem_of_getElem? (i := 80) rfl))) (mvT hZ18 (hw _ (List.mem_of_getElem? (i := 81) rfl))) (notFace_of_selects (args := #[]) (mvT hZ18 (hw _ (List.mem_of_getElem? (i := 83) rfl)))) (mvT hZ18 (hw _ (List.mem_of_getElem? (i := 83) rfl))) (mvT hZ18 (hw _ (List.mem_of_getElem? (i := 82) rfl))) (by decide) (StrChars.Road.chN (W := 0) hZ18 (own_wC hw) (kI := 4) (hw _ (List.mem_of_getElem? (i := 13) rfl)) ST.1 ST.2.1 ST.2.2.1 ST.2.2.2 (StrChars.Road.codOf (cs := [d0, d1]) (n := ([d0, d1] : List Int32).length) rfl (fun c hc => (hbc c hc).2)) (own_up hbc) (O2.ext XO.2) P5 (O4.ext XO.2) rG3 ln2 (i := 0) (by simp) (by rfl) (by decide) (by decide)) q28a q28c (g := (mkF m 68 #[.val (.ref a1), .val (.ref x1), .val (.int ((2 : Int32) - (0 : Int32))), .val (.int (0 : Int32)), .unset] [(.int (0 : Int32)), (.ref x1)])) rfl (by rw [hml]; rfl) (Steps.refl _) (argsL := [(.int (0 : Int32))]) (rest := []) (lenOf own_pd9 rfl) rfl (by show 2 * 0 + _ ≤ _; exact Nat.le_of_eq rfl) (hb hby own_d9_68) (fun _ _ => ⟨rfl, eq25, (by decide : 2 + 0 ≤ _), (by decide : 24 + 0 ≤ _)⟩)
    dsimp only [Pt.U, Pt.locs, Pt.cells, Pt.slots] at X28 l28 y28 z28 st28 hQ28
    subst l28 y28 z28
    obtain ⟨rfl, rfl, eq27⟩ := hQ28
    have N28 := Fr.app N26 (Fr.nil n0)
    replace k : own_K p.tables e below (s₁.setTop (entryFrame m #[(.ref a1), (.ref x1)] 5)) (T28.setTop (mkF m 71 #[.val (.ref a1), .val (.ref x1), .val (.int ((2 : Int32) - (0 : Int32))), .val (.int (0 : Int32)), .unset] [(.int d0)])) := fun t h => k t (st28.trans h)
    obtain ⟨_, _, ⟨T29, L29, kk29, n29⟩, -, X29, S29, gr29, ⟨Lc29, hQ29, l29, y29, z29, hC29⟩, st29⟩ := callSS X28 hx (y := (⟨"com/example/ferrolho/ferrolho/lock/LockName", "isAllowed", "(C)Z"⟩ : MethodName)) hown18 (mvT hZ18 (hw _ (List.mem_of_getElem? (i := 96) rfl))) (mvT hZ18 (hw _ (List.mem_of_getElem? (i := 97) rfl))) (mvT hZ18 (hw _ (List.mem_of_getElem? (i := 7) rfl))) (mvT hZ18 (hw _ (List.mem_of_getElem? (i := 98) rfl))) (by decide) (backOfSH (W := 0) (rm9 l Z a0 hw [] d0 G1 h18 n0 O2 P5 XO k0) hZ18 (hw _ (List.mem_of_getElem? (i := 98) rfl)) (hw _ (List.mem_of_getElem? (i := 7) rfl)) (by decide) (by decide) hEL CH.1) (g := (mkF m 71 #[.val (.ref a1), .val (.ref x1), .val (.int ((2 : Int32) - (0 : Int32))), .val (.int (0 : Int32)), .unset] [(.int d0)])) rfl (by rw [hml]; rfl) (argsL := [(.int d0)]) (rest := []) (lenOf own_pd10 rfl) rfl (by show 2 * 0 + _ ≤ _; exact Nat.le_of_eq rfl) (hb hby own_d9_71) (fun _ _ => ⟨rfl, eq27, (by decide : 2 + 2 ≤ _), (by decide : 24 + 24 ≤ _)⟩)
    dsimp only [Pt.U, Pt.locs, Pt.cells, Pt.slots] at X29 l29 y29 z29 st29 hQ29 S29 gr29 hC29
    subst l29 y29 z29
    replace CH := CH.trans hC29
    obtain ⟨rfl, N29q, EX⟩ := hQ29
    have N29 := Fr.app N28 N29q
    obtain ⟨X29, hS29, hZ29, hown29⟩ := rebS hS18 hk18 X29 S29 (by rw [← eq27]; exact gr29) hZ18 hown18
    have hk29 : T29.heap.size ≤ T29.heap.size := Nat.le_refl _
    replace k : own_K p.tables e below (s₁.setTop (entryFrame m #[(.ref a1), (.ref x1)] 5)) (T29.setTop (mkF m 74 #[.val (.ref a1), .val (.ref x1), .val (.int ((2 : Int32) - (0 : Int32))), .val (.int (0 : Int32)), .unset] [(.int (1 : Int32))])) := fun t h => k t (st29.trans h)
    replace XO := XO.ext EX
    replace ST := ST.ext EX
    replace E1 := E1.ext EX
    replace F1 := F1.ext EX
    replace K1 := K1.ext EX
    replace k : own_K p.tables e below (s₁.setTop (entryFrame m #[(.ref a1), (.ref x1)] 5)) (T29.setTop (mkF m 105 #[.val (.ref a1), .val (.ref x1), .val (.int ((2 : Int32) - (0 : Int32))), .val (.int (0 : Int32)), .unset] [])) := fun t h => k t (XS.ifYes X29.here hx rfl (pc0 := 74) (pc' := 105) rfl (hb hby own_d9_74) rfl ((if0 _ _).trans (feq (by decide : ¬ ((1 : Int32) = (0 : Int32)))).2) (by decide) (by decide) h)
    replace k : own_K p.tables e below (s₁.setTop (entryFrame m #[(.ref a1), (.ref x1)] 5)) (T29.setTop (mkF m 108 #[.val (.ref a1), .val (.ref x1), .val (.int ((2 : Int32) - (0 : Int32))), .val (.int ((0 : Int32) + (1 : Int32))), .unset] [])) := fun t h => k t (XS.iinc X29.here hx rfl (hb hby own_d9_105) rfl (l' := #[.val (.ref a1), .val (.ref x1), .val (.int ((2 : Int32) - (0 : Int32))), .val (.int ((0 : Int32) + (1 : Int32))), .unset]) rfl h)
    replace k : own_K p.tables e below (s₁.setTop (entryFrame m #[(.ref a1), (.ref x1)] 5)) (T29.setTop (mkF m 58 #[.val (.ref a1), .val (.ref x1), .val (.int ((2 : Int32) - (0 : Int32))), .val (.int ((0 : Int32) + (1 : Int32))), .unset] [])) := fun t h => k t (XS.goto X29.here hx rfl (pc0 := 108) (pc' := 58) rfl (hb hby own_d9_108) (by decide) (by decide) h)
    replace k : own_K p.tables e below (s₁.setTop (entryFrame m #[(.ref a1), (.ref x1)] 5)) (T29.setTop (mkF m 59 #[.val (.ref a1), .val (.ref x1), .val (.int ((2 : Int32) - (0 : Int32))), .val (.int ((0 : Int32) + (1 : Int32))), .unset] [(.int ((0 : Int32) + (1 : Int32)))])) := fun t h => k t (XS.iloadN X29.here hx rfl (hb hby own_d9_58) rfl h)
    replace k : own_K p.tables e below (s₁.setTop (entryFrame m #[(.ref a1), (.ref x1)] 5)) (T29.setTop (mkF m 60 #[.val (.ref a1), .val (.ref x1), .val (.int ((2 : Int32) - (0 : Int32))), .val (.int ((0 : Int32) + (1 : Int32))), .unset] [(.ref x1), (.int ((0 : Int32) + (1 : Int32)))])) := fun t h => k t (XS.aloadN X29.here hx rfl (hb hby own_d9_59) rfl rfl h)
    obtain ⟨cq31, kq31, q31a, q31b, q31c⟩ := isOf hZ29 rfl ST.1
    obtain ⟨_, _, ⟨T31, L31, kk31, n31⟩, -, X31, ⟨Lc31, hQ31, l31, y31, z31⟩, st31⟩ := X29.virtualBack hx (y := (⟨"java/lang/String", "length", "()I"⟩ : MethodName)) (z := (⟨"java/lang/String", "length", "()I"⟩ : MethodName)) hown29 (mvT hZ29 (hw _ (List.mem_of_getElem? (i := 52) rfl))) (mvT hZ29 (hw _ (List.mem_of_getElem? (i := 53) rfl))) (notFace_of_selects (args := #[]) (mvT hZ29 (hw _ (List.mem_of_getElem? (i := 55) rfl)))) (mvT hZ29 (hw _ (List.mem_of_getElem? (i := 55) rfl))) (mvT hZ29 (hw _ (List.mem_of_getElem? (i := 54) rfl))) (by decide) (StrChars.Road.lenW (W := 1) hZ29 (own_wL hw) (kI := 4) (hw _ (List.mem_of_getElem? (i := 13) rfl)) ST.1 ST.2.1 ST.2.2.1 ST.2.2.2 (StrChars.Road.codOf (cs := [d0, d1]) (n := ([d0, d1] : List Int32).length) rfl (fun c hc => (hbc c hc).2)) (own_up hbc) (O2.ext XO.2) P5 ln2 (by decide) (by decide)) q31a q31c (g := (mkF m 60 #[.val (.ref a1), .val (.ref x1), .val (.int ((2 : Int32) - (0 : Int32))), .val (.int ((0 : Int32) + (1 : Int32))), .unset] [(.ref x1), (.int ((0 : Int32) + (1 : Int32)))])) rfl (by rw [hml]; rfl) (Steps.refl _) (argsL := []) (rest := [(.int ((0 : Int32) + (1 : Int32)))]) (lenOf own_pd4 rfl) rfl (by show 2 * 0 + _ ≤ _; exact Nat.le_of_eq rfl) (hb hby own_d9_60) (fun _ _ => ⟨rfl, rfl, (by decide : 4 + 0 ≤ _), (by decide : 48 + 0 ≤ _)⟩)
    dsimp only [Pt.U, Pt.locs, Pt.cells, Pt.slots] at X31 l31 y31 z31 st31 hQ31
    subst l31 y31 z31
    obtain ⟨rfl, rfl, eq30⟩ := hQ31
    have N31 := Fr.app N29 (Fr.nil n0)
    replace k : own_K p.tables e below (s₁.setTop (entryFrame m #[(.ref a1), (.ref x1)] 5)) (T31.setTop (mkF m 63 #[.val (.ref a1), .val (.ref x1), .val (.int ((2 : Int32) - (0 : Int32))), .val (.int ((0 : Int32) + (1 : Int32))), .unset] [(.int (2 : Int32)), (.int ((0 : Int32) + (1 : Int32)))])) := fun t h => k t (st31.trans h)
    replace k : own_K p.tables e below (s₁.setTop (entryFrame m #[(.ref a1), (.ref x1)] 5)) (T31.setTop (mkF m 66 #[.val (.ref a1), .val (.ref x1), .val (.int ((2 : Int32) - (0 : Int32))), .val (.int ((0 : Int32) + (1 : Int32))), .unset] [])) := fun t h => k t (XS.icmpNo X31.here hx rfl (hb hby own_d9_63) rfl (tlt (by decide : ((0 : Int32) + (1 : Int32)) < (2 : Int32))).2.1 h)
    replace k : own_K p.tables e below (s₁.setTop (entryFrame m #[(.ref a1), (.ref x1)] 5)) (T31.setTop (mkF m 67 #[.val (.ref a1), .val (.ref x1), .val (.int ((2 : Int32) - (0 : Int32))), .val (.int ((0 : Int32) + (1 : Int32))), .unset] [(.ref x1)])) := fun t h => k t (XS.aloadN X31.here hx rfl (hb hby own_d9_66) rfl rfl h)
    replace k : own_K p.tables e below (s₁.setTop (entryFrame m #[(.ref a1), (.ref x1)] 5)) (T31.setTop (mkF m 68 #[.val (.ref a1), .val (.ref x1), .val (.int ((2 : Int32) - (0 : Int32))), .val (.int ((0 : Int32) + (1 : Int32))), .unset] [(.int ((0 : Int32) + (1 : Int32))), (.ref x1)])) := fun t h => k t (XS.iloadN X31.here hx rfl (hb hby own_d9_67) rfl h)
    obtain ⟨cq33, kq33, q33a, q33b, q33c⟩ := isOf hZ29 eq30 ST.1
    obtain ⟨_, _, ⟨T33, L33, kk33, n33⟩, -, X33, ⟨Lc33, hQ33, l33, y33, z33⟩, st33⟩ := X31.virtualBack hx (y := (⟨"java/lang/String", "charAt", "(I)C"⟩ : MethodName)) (z := (⟨"java/lang/String", "charAt", "(I)C"⟩ : MethodName)) hown29 (mvT hZ29 (hw _ (List.mem_of_getElem? (i := 80) rfl))) (mvT hZ29 (hw _ (List.mem_of_getElem? (i := 81) rfl))) (notFace_of_selects (args := #[]) (mvT hZ29 (hw _ (List.mem_of_getElem? (i := 83) rfl)))) (mvT hZ29 (hw _ (List.mem_of_getElem? (i := 83) rfl))) (mvT hZ29 (hw _ (List.mem_of_getElem? (i := 82) rfl))) (by decide) (StrChars.Road.chN (W := 0) hZ29 (own_wC hw) (kI := 4) (hw _ (List.mem_of_getElem? (i := 13) rfl)) ST.1 ST.2.1 ST.2.2.1 ST.2.2.2 (StrChars.Road.codOf (cs := [d0, d1]) (n := ([d0, d1] : List Int32).length) rfl (fun c hc => (hbc c hc).2)) (own_up hbc) (O2.ext XO.2) P5 (O4.ext XO.2) rG3 ln2 (i := 1) (by simp) (by rfl) (by decide) (by decide)) q33a q33c (g := (mkF m 68 #[.val (.ref a1), .val (.ref x1), .val (.int ((2 : Int32) - (0 : Int32))), .val (.int ((0 : Int32) + (1 : Int32))), .unset] [(.int ((0 : Int32) + (1 : Int32))), (.ref x1)])) rfl (by rw [hml]; rfl) (Steps.refl _) (argsL := [(.int ((0 : Int32) + (1 : Int32)))]) (rest := []) (lenOf own_pd9 rfl) rfl (by show 2 * 0 + _ ≤ _; exact Nat.le_of_eq rfl) (hb hby own_d9_68) (fun _ _ => ⟨rfl, eq30, (by decide : 4 + 0 ≤ _), (by decide : 48 + 0 ≤ _)⟩)
    dsimp only [Pt.U, Pt.locs, Pt.cells, Pt.slots] at X33 l33 y33 z33 st33 hQ33
    subst l33 y33 z33
    obtain ⟨rfl, rfl, eq32⟩ := hQ33
    have N33 := Fr.app N31 (Fr.nil n0)
    replace k : own_K p.tables e below (s₁.setTop (entryFrame m #[(.ref a1), (.ref x1)] 5)) (T33.setTop (mkF m 71 #[.val (.ref a1), .val (.ref x1), .val (.int ((2 : Int32) - (0 : Int32))), .val (.int ((0 : Int32) + (1 : Int32))), .unset] [(.int d1)])) := fun t h => k t (st33.trans h)
    obtain ⟨_, _, ⟨T34, L34, kk34, n34⟩, -, X34, S34, gr34, ⟨Lc34, hQ34, l34, y34, z34, hC34⟩, st34⟩ := callSS X33 hx (y := (⟨"com/example/ferrolho/ferrolho/lock/LockName", "isAllowed", "(C)Z"⟩ : MethodName)) hown29 (mvT hZ29 (hw _ (List.mem_of_getElem? (i := 96) rfl))) (mvT hZ29 (hw _ (List.mem_of_getElem? (i := 97) rfl))) (mvT hZ29 (hw _ (List.mem_of_getElem? (i := 7) rfl))) (mvT hZ29 (hw _ (List.mem_of_getElem? (i := 98) rfl))) (by decide) (backOfSH (W := 0) (rm9 l Z a0 hw [] d1 G1 T29.heap n0 O2 P5 XO k1) hZ29 (hw _ (List.mem_of_getElem? (i := 98) rfl)) (hw _ (List.mem_of_getElem? (i := 7) rfl)) (by decide) (by decide) hEL CH.1) (g := (mkF m 71 #[.val (.ref a1), .val (.ref x1), .val (.int ((2 : Int32) - (0 : Int32))), .val (.int ((0 : Int32) + (1 : Int32))), .unset] [(.int d1)])) rfl (by rw [hml]; rfl) (argsL := [(.int d1)]) (rest := []) (lenOf own_pd10 rfl) rfl (by show 2 * 0 + _ ≤ _; exact Nat.le_of_eq rfl) (hb hby own_d9_71) (fun _ _ => ⟨rfl, eq32, (by decide : 4 + 2 ≤ _), (by decide : 48 + 24 ≤ _)⟩)
    dsimp only [Pt.U, Pt.locs, Pt.cells, Pt.slots] at X34 l34 y34 z34 st34 hQ34 S34 gr34 hC34
    subst l34 y34 z34
    replace CH := CH.trans hC34
    obtain ⟨rfl, N34q, EX⟩ := hQ34
    have N34 := Fr.app N33 N34q
    obtain ⟨X34, hS34, hZ34, hown34⟩ := rebS hS29 hk29 X34 S34 (by rw [← eq32]; exact gr34) hZ29 hown29
    have hk34 : T34.heap.size ≤ T34.heap.size := Nat.le_refl _
    replace k : own_K p.tables e below (s₁.setTop (entryFrame m #[(.ref a1), (.ref x1)] 5)) (T34.setTop (mkF m 74 #[.val (.ref a1), .val (.ref x1), .val (.int ((2 : Int32) - (0 : Int32))), .val (.int ((0 : Int32) + (1 : Int32))), .unset] [(.int (1 : Int32))])) := fun t h => k t (st34.trans h)
    replace XO := XO.ext EX
    replace ST := ST.ext EX
    replace E1 := E1.ext EX
    replace F1 := F1.ext EX
    replace K1 := K1.ext EX
    replace k : own_K p.tables e below (s₁.setTop (entryFrame m #[(.ref a1), (.ref x1)] 5)) (T34.setTop (mkF m 105 #[.val (.ref a1), .val (.ref x1), .val (.int ((2 : Int32) - (0 : Int32))), .val (.int ((0 : Int32) + (1 : Int32))), .unset] [])) := fun t h => k t (XS.ifYes X34.here hx rfl (pc0 := 74) (pc' := 105) rfl (hb hby own_d9_74) rfl ((if0 _ _).trans (feq (by decide : ¬ ((1 : Int32) = (0 : Int32)))).2) (by decide) (by decide) h)
    replace k : own_K p.tables e below (s₁.setTop (entryFrame m #[(.ref a1), (.ref x1)] 5)) (T34.setTop (mkF m 108 #[.val (.ref a1), .val (.ref x1), .val (.int ((2 : Int32) - (0 : Int32))), .val (.int (((0 : Int32) + (1 : Int32)) + (1 : Int32))), .unset] [])) := fun t h => k t (XS.iinc X34.here hx rfl (hb hby own_d9_105) rfl (l' := #[.val (.ref a1), .val (.ref x1), .val (.int ((2 : Int32) - (0 : Int32))), .val (.int (((0 : Int32) + (1 : Int32)) + (1 : Int32))), .unset]) rfl h)
    replace k : own_K p.tables e below (s₁.setTop (entryFrame m #[(.ref a1), (.ref x1)] 5)) (T34.setTop (mkF m 58 #[.val (.ref a1), .val (.ref x1), .val (.int ((2 : Int32) - (0 : Int32))), .val (.int (((0 : Int32) + (1 : Int32)) + (1 : Int32))), .unset] [])) := fun t h => k t (XS.goto X34.here hx rfl (pc0 := 108) (pc' := 58) rfl (hb hby own_d9_108) (by decide) (by decide) h)
    replace k : own_K p.tables e below (s₁.setTop (entryFrame m #[(.ref a1), (.ref x1)] 5)) (T34.setTop (mkF m 59 #[.val (.ref a1), .val (.ref x1), .val (.int ((2 : Int32) - (0 : Int32))), .val (.int (((0 : Int32) + (1 : Int32)) + (1 : Int32))), .unset] [(.int (((0 : Int32) + (1 : Int32)) + (1 : Int32)))])) := fun t h => k t (XS.iloadN X34.here hx rfl (hb hby own_d9_58) rfl h)
    replace k : own_K p.tables e below (s₁.setTop (entryFrame m #[(.ref a1), (.ref x1)] 5)) (T34.setTop (mkF m 60 #[.val (.ref a1), .val (.ref x1), .val (.int ((2 : Int32) - (0 : Int32))), .val (.int (((0 : Int32) + (1 : Int32)) + (1 : Int32))), .unset] [(.ref x1), (.int (((0 : Int32) + (1 : Int32)) + (1 : Int32)))])) := fun t h => k t (XS.aloadN X34.here hx rfl (hb hby own_d9_59) rfl rfl h)
    obtain ⟨cq36, kq36, q36a, q36b, q36c⟩ := isOf hZ34 rfl ST.1
    obtain ⟨_, _, ⟨T36, L36, kk36, n36⟩, -, X36, ⟨Lc36, hQ36, l36, y36, z36⟩, st36⟩ := X34.virtualBack hx (y := (⟨"java/lang/String", "length", "()I"⟩ : MethodName)) (z := (⟨"java/lang/String", "length", "()I"⟩ : MethodName)) hown34 (mvT hZ34 (hw _ (List.mem_of_getElem? (i := 52) rfl))) (mvT hZ34 (hw _ (List.mem_of_getElem? (i := 53) rfl))) (notFace_of_selects (args := #[]) (mvT hZ34 (hw _ (List.mem_of_getElem? (i := 55) rfl)))) (mvT hZ34 (hw _ (List.mem_of_getElem? (i := 55) rfl))) (mvT hZ34 (hw _ (List.mem_of_getElem? (i := 54) rfl))) (by decide) (StrChars.Road.lenW (W := 1) hZ34 (own_wL hw) (kI := 4) (hw _ (List.mem_of_getElem? (i := 13) rfl)) ST.1 ST.2.1 ST.2.2.1 ST.2.2.2 (StrChars.Road.codOf (cs := [d0, d1]) (n := ([d0, d1] : List Int32).length) rfl (fun c hc => (hbc c hc).2)) (own_up hbc) (O2.ext XO.2) P5 ln2 (by decide) (by decide)) q36a q36c (g := (mkF m 60 #[.val (.ref a1), .val (.ref x1), .val (.int ((2 : Int32) - (0 : Int32))), .val (.int (((0 : Int32) + (1 : Int32)) + (1 : Int32))), .unset] [(.ref x1), (.int (((0 : Int32) + (1 : Int32)) + (1 : Int32)))])) rfl (by rw [hml]; rfl) (Steps.refl _) (argsL := []) (rest := [(.int (((0 : Int32) + (1 : Int32)) + (1 : Int32)))]) (lenOf own_pd4 rfl) rfl (by show 2 * 0 + _ ≤ _; exact Nat.le_of_eq rfl) (hb hby own_d9_60) (fun _ _ => ⟨rfl, rfl, (by decide : 6 + 0 ≤ _), (by decide : 72 + 0 ≤ _)⟩)
    dsimp only [Pt.U, Pt.locs, Pt.cells, Pt.slots] at X36 l36 y36 z36 st36 hQ36
    subst l36 y36 z36
    obtain ⟨rfl, rfl, eq35⟩ := hQ36
    have N36 := Fr.app N34 (Fr.nil n0)
    replace k : own_K p.tables e below (s₁.setTop (entryFrame m #[(.ref a1), (.ref x1)] 5)) (T36.setTop (mkF m 63 #[.val (.ref a1), .val (.ref x1), .val (.int ((2 : Int32) - (0 : Int32))), .val (.int (((0 : Int32) + (1 : Int32)) + (1 : Int32))), .unset] [(.int (2 : Int32)), (.int (((0 : Int32) + (1 : Int32)) + (1 : Int32)))])) := fun t h => k t (st36.trans h)
    replace k : own_K p.tables e below (s₁.setTop (entryFrame m #[(.ref a1), (.ref x1)] 5)) (T36.setTop (mkF m 111 #[.val (.ref a1), .val (.ref x1), .val (.int ((2 : Int32) - (0 : Int32))), .val (.int (((0 : Int32) + (1 : Int32)) + (1 : Int32))), .unset] [])) := fun t h => k t (XS.icmpYes X36.here hx rfl (pc0 := 63) (pc' := 111) rfl (hb hby own_d9_63) rfl (flt (by decide : ¬ ((((0 : Int32) + (1 : Int32)) + (1 : Int32)) < (2 : Int32)))).2.1 (by decide) (by decide) h)
    replace k : own_K p.tables e below (s₁.setTop (entryFrame m #[(.ref a1), (.ref x1)] 5)) (T36.setTop (mkF m 112 #[.val (.ref a1), .val (.ref x1), .val (.int ((2 : Int32) - (0 : Int32))), .val (.int (((0 : Int32) + (1 : Int32)) + (1 : Int32))), .unset] [(.ref a1)])) := fun t h => k t (XS.aloadN X36.here hx rfl (hb hby own_d9_111) rfl rfl h)
    replace k : own_K p.tables e below (s₁.setTop (entryFrame m #[(.ref a1), (.ref x1)] 5)) (T36.setTop (mkF m 113 #[.val (.ref a1), .val (.ref x1), .val (.int ((2 : Int32) - (0 : Int32))), .val (.int (((0 : Int32) + (1 : Int32)) + (1 : Int32))), .unset] [(.ref x1), (.ref a1)])) := fun t h => k t (XS.aloadN X36.here hx rfl (hb hby own_d9_112) rfl rfl h)
    obtain ⟨T37, h37, X37, e37, W37, st37⟩ := putF X36 hx hZ34 hown34 (host := "") (Or.inl (hw _ (List.mem_of_getElem? (i := 99) rfl))) Via.refl eq35 F1 E1 (Or.inr ⟨(hw _ (List.mem_of_getElem? (i := 100) rfl)), rfl, hnm⟩) (hw _ (List.mem_of_getElem? (i := 6) rfl)) (ty := (.object "java/lang/String")) (by decide) rfl rfl (g := (mkF m 113 #[.val (.ref a1), .val (.ref x1), .val (.int ((2 : Int32) - (0 : Int32))), .val (.int (((0 : Int32) + (1 : Int32)) + (1 : Int32))), .unset] [(.ref x1), (.ref a1)])) rfl rfl (hb hby own_d9_113)
    have N37 := Fr.snoc X37 N36 g1
    replace k : own_K p.tables e below (s₁.setTop (entryFrame m #[(.ref a1), (.ref x1)] 5)) (T37.setTop (mkF m 116 #[.val (.ref a1), .val (.ref x1), .val (.int ((2 : Int32) - (0 : Int32))), .val (.int (((0 : Int32) + (1 : Int32)) + (1 : Int32))), .unset] [])) := fun t h => k t (st37 _ h)
    replace hk34 := Nat.le_trans hk34 (Nat.le_of_eq W37.size.symm)
    replace CH := CH.trans (CHr.wr W37 (Safe.exa hZ34.alike E1 (by decide) (by decide)) CH.1)
    replace F1 := F1.same W37
    replace E1 := E1.wr W37
    replace K1 := K1.wr W37 (Or.inl (List.mem_of_getElem? (i := 0) rfl))
    obtain ⟨fs, hr, hrun, hended, hEnd⟩ := X37.leaveW hS34 (by rw [e37]; exact hk34) (v := none) (fun _ => rfl) Bd.notSynchronized
    have CHe : CHr Z consts_1 s.vm s.heap (T37.setFrames fs).vm (T37.setFrames fs).heap := by
      show CHr Z consts_1 s.vm s.heap T37.vm T37.heap
      rw [hh, e37]
      exact CH.trans (CHv.at X37 hZ34 hEL CH.1)
    refine ⟨_, _, k _ (X37.returnOut hx Bd.returns (hb hby own_d9_116) hr), hrun, hended, _, _, rfl, ?_, CHe, hEnd.1, hEnd.2.1, hEnd.2.2.1, hEnd.2.2.2.mono (by decide) (by decide)⟩
    show Q14 Z a1 u0 x1 t1 kb1 [d0, d1] G1 G3 h0 n0 _ T37.heap _
    rw [e37]
    exact ⟨rfl, N37, K1, E1, F1⟩
theorem own_d22_0 : decode prog_21_method_4_code 0 = .ok (.aload_n 1, 1) := by decide +kernel
theorem own_d22_1 : decode prog_21_method_4_code 1 = .ok (.instanceof 32, 3) := by decide +kernel
theorem own_d22_4 : decode prog_21_method_4_code 4 = .ok (.ifCond .eq 24, 3) := by decide +kernel
theorem own_d22_28 : decode prog_21_method_4_code 28 = .ok (.iconst 0, 1) := by decide +kernel
theorem own_d22_29 : decode prog_21_method_4_code 29 = .ok (.ireturn, 1) := by decide +kernel
theorem own_ef15 (m : MethodId) (y0 : Addr) : entryFrame m #[(.ref y0), .null] 2 = mkF m 0 #[.val (.ref y0), .val .null] [] := by first | (simp [entryFrame, mkF, argsToLocals, Value.category]; done) | rfl
def Q15 (Z : State) (r : Addr) (h0 : Heap) (n0 : Nat) (v : Option Value) (h : Heap) (L : List Loc) : Prop := v = some (.int 0) ∧ Fr n0 L ∧ h = h0
set_option maxRecDepth 65536 in
set_option maxHeartbeats 40000000 in
theorem rm15 (l : Launch) (Z : State) (a0 : Array Value) (hw : ∀ d ∈ tables_1, d.before a0 Z = true) (ws : List Jvm.Cond) (r : Addr) (h0 : Heap) (n0 : Nat) :
    MetFree l (⟨"com/example/ferrolho/ferrolho/lock/LockName", "equals", "(Ljava/lang/Object;)Z"⟩ : MethodName) (head1 (Jvm.Cond.code (⟨"com/example/ferrolho/ferrolho/lock/LockName", "equals", "(Ljava/lang/Object;)Z"⟩ : MethodName) prog_21_method_4_code 2 (some .boolean) :: ws) ({ frames := 0, cells := 0, slots := 0, locals := 0 } : Room)) (fun aaz U => aaz = #[(.ref r), .null] ∧ Z.Warmed39 U.vm ∧ U.heap = h0) (fun _ _ _ _ _ => True) (fun _ U o U' => ∃ v L, o = .returned v ∧ Q15 Z r h0 n0 v U'.heap L ∧ FrameEnd U o U' L ({ frames := 0, cells := 0, slots := 0, locals := 0 } : Room).cells ({ frames := 0, cells := 0, slots := 0, locals := 0 } : Room).slots) := by
  refine MetFree.of_bodySF (plainFor_of_name own_pn3) hisR ?_
  intro p e s m args below meth cde s₁ Bd hml0 hP hK
  obtain ⟨rfl, hZ, hh⟩ := hP
  have hx := Bd.exec
  have hby := Bd.bytes
  have hml : cde.maxLocals = 2 := hml0
  have hown : s.vm.findClass "com/example/ferrolho/ferrolho/lock/LockName" = some m.cls := findClass_of_methodNamed Bd.named
  have hnm := (name_of_methodNamed Bd.named Bd.method).1
  have X0 : Stand p l e ({ frames := 0, cells := 0, slots := 0, locals := 0 } : Room) s m #[(.ref r), .null] below meth cde s₁ [] 0 0 := Stand.of_body Bd
  have e0 : s₁.heap = h0 := by rw [← hh, Bd.state]; rfl
  have N0 := Fr.nil n0
  have k : own_K p.tables e below (s₁.setTop (entryFrame m #[(.ref r), .null] 2)) (s₁.setTop (mkF m 0 #[.val (.ref r), .val .null] [])) := fun t h => castTop (own_ef15 m r) h
  replace k : own_K p.tables e below (s₁.setTop (entryFrame m #[(.ref r), .null] 2)) (s₁.setTop (mkF m 1 #[.val (.ref r), .val .null] [.null])) := fun t h => k t (XS.aloadN X0.here hx rfl (hb hby own_d22_0) rfl rfl h)
  replace k : own_K p.tables e below (s₁.setTop (entryFrame m #[(.ref r), .null] 2)) (s₁.setTop (mkF m 4 #[.val (.ref r), .val .null] [(.int (0 : Int32))])) := fun t h => k t (X0.instanceofNull hx (g := (mkF m 1 #[.val (.ref r), .val .null] [.null])) rfl rfl (hb hby own_d22_1) _ h)
  replace k : own_K p.tables e below (s₁.setTop (entryFrame m #[(.ref r), .null] 2)) (s₁.setTop (mkF m 28 #[.val (.ref r), .val .null] [])) := fun t h => k t (XS.ifYes X0.here hx rfl (pc0 := 4) (pc' := 28) rfl (hb hby own_d22_4) rfl ((if0 _ _).trans (teq rfl).1) (by decide) (by decide) h)
  replace k : own_K p.tables e below (s₁.setTop (entryFrame m #[(.ref r), .null] 2)) (s₁.setTop (mkF m 29 #[.val (.ref r), .val .null] [(.int (0 : Int32))])) := fun t h => k t (XS.iconst X0.here hx rfl (hb hby own_d22_28) h)
  obtain ⟨fs, hr, hrun, hended, hW, hsame⟩ := X0.leave (v := some (.int (0 : Int32))) (fun h => by rw [Bd.returns] at h; cases h) Bd.notSynchronized
  refine ⟨_, _, k _ (retOut X0 hx Bd.returns rfl (Or.inl ⟨rfl, by simp, _, rfl⟩) (hb hby own_d22_29) hr), hrun, hended, _, _, rfl, ?_, ⟨_, rfl⟩, hW, hsame.mono (by decide) (by decide)⟩
  show Q15 Z r h0 n0 _ s₁.heap _
  rw [e0]
  exact ⟨rfl, N0, rfl⟩
theorem own_ef16 (m : MethodId) (y0 : Addr) (y1 : Addr) : entryFrame m #[(.ref y0), (.ref y1)] 2 = mkF m 0 #[.val (.ref y0), .val (.ref y1)] [] := by first | (simp [entryFrame, mkF, argsToLocals, Value.category]; done) | rfl
def Q16 (Z : State) (r : Addr) (y : Addr) (h0 : Heap) (n0 : Nat) (v : Option Value) (h : Heap) (L : List Loc) : Prop := v = some (.int 0) ∧ Fr n0 L ∧ h = h0
set_option maxRecDepth 65536 in
set_option maxHeartbeats 40000000 in
theorem rm16 (l : Launch) (Z : State) (a0 : Array Value) (hw : ∀ d ∈ tables_1, d.before a0 Z = true) (ws : List Jvm.Cond) (r : Addr) (y : Addr) (h0 : Heap) (n0 : Nat) (EY : Exa Z h0 y "java/lang/String") :
    MetFree l (⟨"com/example/ferrolho/ferrolho/lock/LockName", "equals", "(Ljava/lang/Object;)Z"⟩ : MethodName) (head1 (Jvm.Cond.code (⟨"com/example/ferrolho/ferrolho/lock/LockName", "equals", "(Ljava/lang/Object;)Z"⟩ : MethodName) prog_21_method_4_code 2 (some .boolean) :: ws) ({ frames := 0, cells := 0, slots := 0, locals := 0 } : Room)) (fun aaz U => aaz = #[(.ref r), (.ref y)] ∧ Z.Warmed39 U.vm ∧ U.heap = h0) (fun _ _ _ _ _ => True) (fun _ U o U' => ∃ v L, o = .returned v ∧ Q16 Z r y h0 n0 v U'.heap L ∧ FrameEnd U o U' L ({ frames := 0, cells := 0, slots := 0, locals := 0 } : Room).cells ({ frames := 0, cells := 0, slots := 0, locals := 0 } : Room).slots) := by
  refine MetFree.of_bodySF (plainFor_of_name own_pn3) hisR ?_
  intro p e s m args below meth cde s₁ Bd hml0 hP hK
  obtain ⟨rfl, hZ, hh⟩ := hP
  have hx := Bd.exec
  have hby := Bd.bytes
  have hml : cde.maxLocals = 2 := hml0
  have hown : s.vm.findClass "com/example/ferrolho/ferrolho/lock/LockName" = some m.cls := findClass_of_methodNamed Bd.named
  have hnm := (name_of_methodNamed Bd.named Bd.method).1
  have X0 : Stand p l e ({ frames := 0, cells := 0, slots := 0, locals := 0 } : Room) s m #[(.ref r), (.ref y)] below meth cde s₁ [] 0 0 := Stand.of_body Bd
  have e0 : s₁.heap = h0 := by rw [← hh, Bd.state]; rfl
  have N0 := Fr.nil n0
  have k : own_K p.tables e below (s₁.setTop (entryFrame m #[(.ref r), (.ref y)] 2)) (s₁.setTop (mkF m 0 #[.val (.ref r), .val (.ref y)] [])) := fun t h => castTop (own_ef16 m r y) h
  replace k : own_K p.tables e below (s₁.setTop (entryFrame m #[(.ref r), (.ref y)] 2)) (s₁.setTop (mkF m 1 #[.val (.ref r), .val (.ref y)] [(.ref y)])) := fun t h => k t (XS.aloadN X0.here hx rfl (hb hby own_d22_0) rfl rfl h)
  obtain ⟨T1, X1, e1, st1⟩ := instNo X0 hx hZ hown (hw _ (List.mem_of_getElem? (i := 106) rfl)) e0 EY (own_notLN hw) (g := (mkF m 1 #[.val (.ref r), .val (.ref y)] [(.ref y)])) rfl rfl (hb hby own_d22_1)
  replace k : own_K p.tables e below (s₁.setTop (entryFrame m #[(.ref r), (.ref y)] 2)) (T1.setTop (mkF m 4 #[.val (.ref r), .val (.ref y)] [(.int (0 : Int32))])) := fun t h => k t (st1 _ h)
  replace k : own_K p.tables e below (s₁.setTop (entryFrame m #[(.ref r), (.ref y)] 2)) (T1.setTop (mkF m 28 #[.val (.ref r), .val (.ref y)] [])) := fun t h => k t (XS.ifYes X1.here hx rfl (pc0 := 4) (pc' := 28) rfl (hb hby own_d22_4) rfl ((if0 _ _).trans (teq rfl).1) (by decide) (by decide) h)
  replace k : own_K p.tables e below (s₁.setTop (entryFrame m #[(.ref r), (.ref y)] 2)) (T1.setTop (mkF m 29 #[.val (.ref r), .val (.ref y)] [(.int (0 : Int32))])) := fun t h => k t (XS.iconst X1.here hx rfl (hb hby own_d22_28) h)
  obtain ⟨fs, hr, hrun, hended, hW, hsame⟩ := X1.leave (v := some (.int (0 : Int32))) (fun h => by rw [Bd.returns] at h; cases h) Bd.notSynchronized
  refine ⟨_, _, k _ (retOut X1 hx Bd.returns rfl (Or.inl ⟨rfl, by simp, _, rfl⟩) (hb hby own_d22_29) hr), hrun, hended, _, _, rfl, ?_, ⟨_, rfl⟩, hW, hsame.mono (by decide) (by decide)⟩
  show Q16 Z r y h0 n0 _ T1.heap _
  rw [e1]
  exact ⟨rfl, N0, rfl⟩
theorem own_pd11 : parseMethodDescriptor "(Ljava/lang/Object;)Z" = some ⟨[(.object "java/lang/Object")], some .boolean⟩ := by decide +kernel
theorem own_d22_7 : decode prog_21_method_4_code 7 = .ok (.aload_n 0, 1) := by decide +kernel
theorem own_d22_8 : decode prog_21_method_4_code 8 = .ok (.getfield 58, 3) := by decide +kernel
theorem own_d22_11 : decode prog_21_method_4_code 11 = .ok (.aload_n 1, 1) := by decide +kernel
theorem own_d22_12 : decode prog_21_method_4_code 12 = .ok (.checkcast 32, 3) := by decide +kernel
theorem own_d22_15 : decode prog_21_method_4_code 15 = .ok (.getfield 58, 3) := by decide +kernel
theorem own_d22_18 : decode prog_21_method_4_code 18 = .ok (.invokevirtual 66, 3) := by decide +kernel
theorem own_d22_21 : decode prog_21_method_4_code 21 = .ok (.ifCond .eq 7, 3) := by decide +kernel
theorem own_d22_24 : decode prog_21_method_4_code 24 = .ok (.iconst 1, 1) := by decide +kernel
theorem own_d22_25 : decode prog_21_method_4_code 25 = .ok (.goto 4, 3) := by decide +kernel
theorem own_ef17 (m : MethodId) (y0 : Addr) (y1 : Addr) : entryFrame m #[(.ref y0), (.ref y1)] 2 = mkF m 0 #[.val (.ref y0), .val (.ref y1)] [] := by first | (simp [entryFrame, mkF, argsToLocals, Value.category]; done) | rfl
def Q17 (Z : State) (r : Addr) (y : Addr) (x1 : Addr) (t1 : Addr) (kb1 : ClassId) (cs : List Int32) (x2 : Addr) (t2 : Addr) (kb2 : ClassId) (ds : List Int32) (G1 : Int32) (h0 : Heap) (n0 : Nat) (v : Option Value) (h : Heap) (L : List Loc) : Prop := v = some (.int (own_eq cs ds)) ∧ Fr n0 L ∧ h = h0
set_option maxRecDepth 65536 in
set_option maxHeartbeats 40000000 in
theorem rm17 (l : Launch) (Z : State) (a0 : Array Value) (hw : ∀ d ∈ tables_1, d.before a0 Z = true) (ws : List Jvm.Cond) (r : Addr) (y : Addr) (x1 : Addr) (t1 : Addr) (kb1 : ClassId) (cs : List Int32) (x2 : Addr) (t2 : Addr) (kb2 : ClassId) (ds : List Int32) (G1 : Int32) (h0 : Heap) (n0 : Nat) (O2 : Sta Z Z.heap "java/lang/String" "COMPACT_STRINGS" "Z" (.int G1)) (P5 : ¬ G1 = (0 : Int32)) (XO : Old Z n0 h0) (ST : own_Str Z h0 x1 t1 kb1 cs) (hbc : ∀ c ∈ cs, ¬ c < 0 ∧ ¬ (255 : Int32) < c) (ln2 : cs.length ≤ 4000) (SU : own_Str Z h0 x2 t2 kb2 ds) (hb2 : ∀ c ∈ ds, ¬ c < 0 ∧ ¬ (255 : Int32) < c) (l22 : ds.length ≤ 4000) (EY : Exa Z h0 y "com/example/ferrolho/ferrolho/lock/LockName") (F1 : Fld Z h0 r "com/example/ferrolho/ferrolho/lock/LockName" "value" "Ljava/lang/String;" (.ref x1)) (F2 : Fld Z h0 y "com/example/ferrolho/ferrolho/lock/LockName" "value" "Ljava/lang/String;" (.ref x2)) :
    MetFree l (⟨"com/example/ferrolho/ferrolho/lock/LockName", "equals", "(Ljava/lang/Object;)Z"⟩ : MethodName) (head1 (Jvm.Cond.code (⟨"com/example/ferrolho/ferrolho/lock/LockName", "equals", "(Ljava/lang/Object;)Z"⟩ : MethodName) prog_21_method_4_code 2 (some .boolean) :: ws) ({ frames := 2, cells := 0, slots := 0, locals := 40 } : Room)) (fun aaz U => aaz = #[(.ref r), (.ref y)] ∧ Z.Warmed39 U.vm ∧ U.heap = h0) (fun _ _ _ _ _ => True) (fun _ U o U' => ∃ v L, o = .returned v ∧ Q17 Z r y x1 t1 kb1 cs x2 t2 kb2 ds G1 h0 n0 v U'.heap L ∧ FrameEnd U o U' L ({ frames := 2, cells := 0, slots := 0, locals := 40 } : Room).cells ({ frames := 2, cells := 0, slots := 0, locals := 40 } : Room).slots) := by
  refine MetFree.of_bodySF (plainFor_of_name own_pn3) hisR ?_
  intro p e s m args below meth cde s₁ Bd hml0 hP hK
  obtain ⟨rfl, hZ, hh⟩ := hP
  have hx := Bd.exec
  have hby := Bd.bytes
  have hml : cde.maxLocals = 2 := hml0
  have hown : s.vm.findClass "com/example/ferrolho/ferrolho/lock/LockName" = some m.cls := findClass_of_methodNamed Bd.named
  have hnm := (name_of_methodNamed Bd.named Bd.method).1
  have X0 : Stand p l e ({ frames := 2, cells := 0, slots := 0, locals := 40 } : Room) s m #[(.ref r), (.ref y)] below meth cde s₁ [] 0 0 := Stand.of_body Bd
  have e0 : s₁.heap = h0 := by rw [← hh, Bd.state]; rfl
  have N0 := Fr.nil n0
  have k : own_K p.tables e below (s₁.setTop (entryFrame m #[(.ref r), (.ref y)] 2)) (s₁.setTop (mkF m 0 #[.val (.ref r), .val (.ref y)] [])) := fun t h => castTop (own_ef17 m r y) h
  replace k : own_K p.tables e below (s₁.setTop (entryFrame m #[(.ref r), (.ref y)] 2)) (s₁.setTop (mkF m 1 #[.val (.ref r), .val (.ref y)] [(.ref y)])) := fun t h => k t (XS.aloadN X0.here hx rfl (hb hby own_d22_0) rfl rfl h)
  obtain ⟨T1, X1, e1, st1⟩ := instY X0 hx hZ hown (hw _ (List.mem_of_getElem? (i := 106) rfl)) e0 (Ins.self EY) (g := (mkF m 1 #[.val (.ref r), .val (.ref y)] [(.ref y)])) rfl rfl (hb hby own_d22_1)
  replace k : own_K p.tables e below (s₁.setTop (entryFrame m #[(.ref r), (.ref y)] 2)) (T1.setTop (mkF m 4 #[.val (.ref r), .val (.ref y)] [(.int (1 : Int32))])) := fun t h => k t (st1 _ h)
  replace k : own_K p.tables e below (s₁.setTop (entryFrame m #[(.ref r), (.ref y)] 2)) (T1.setTop (mkF m 7 #[.val (.ref r), .val (.ref y)] [])) := fun t h => k t (XS.ifNo X1.here hx rfl (hb hby own_d22_4) rfl ((if0 _ _).trans (feq (by decide : ¬ ((1 : Int32) = (0 : Int32)))).1) h)
  replace k : own_K p.tables e below (s₁.setTop (entryFrame m #[(.ref r), (.ref y)] 2)) (T1.setTop (mkF m 8 #[.val (.ref r), .val (.ref y)] [(.ref r)])) := fun t h => k t (XS.aloadN X1.here hx rfl (hb hby own_d22_7) rfl rfl h)
  obtain ⟨T2, X2, e2, st2⟩ := getF X1 hx hZ hown (host := "") (Or.inl (hw _ (List.mem_of_getElem? (i := 99) rfl))) Via.refl e1 F1 (g := (mkF m 8 #[.val (.ref r), .val (.ref y)] [(.ref r)])) rfl rfl (hb hby own_d22_8)
  replace k : own_K p.tables e below (s₁.setTop (entryFrame m #[(.ref r), (.ref y)] 2)) (T2.setTop (mkF m 11 #[.val (.ref r), .val (.ref y)] [(.ref x1)])) := fun t h => k t (st2 _ h)
  replace k : own_K p.tables e below (s₁.setTop (entryFrame m #[(.ref r), (.ref y)] 2)) (T2.setTop (mkF m 12 #[.val (.ref r), .val (.ref y)] [(.ref y), (.ref x1)])) := fun t h => k t (XS.aloadN X2.here hx rfl (hb hby own_d22_11) rfl rfl h)
  obtain ⟨T3, X3, e3, st3⟩ := castY X2 hx hZ hown (hw _ (List.mem_of_getElem? (i := 106) rfl)) e2 (Ins.self EY) (g := (mkF m 12 #[.val (.ref r), .val (.ref y)] [(.ref y), (.ref x1)])) rfl rfl (hb hby own_d22_12)
  replace k : own_K p.tables e below (s₁.setTop (entryFrame m #[(.ref r), (.ref y)] 2)) (T3.setTop (mkF m 15 #[.val (.ref r), .val (.ref y)] [(.ref y), (.ref x1)])) := fun t h => k t (st3 _ h)
  obtain ⟨T4, X4, e4, st4⟩ := getF X3 hx hZ hown (host := "") (Or.inl (hw _ (List.mem_of_getElem? (i := 99) rfl))) Via.refl e3 F2 (g := (mkF m 15 #[.val (.ref r), .val (.ref y)] [(.ref y), (.ref x1)])) rfl rfl (hb hby own_d22_15)
  replace k : own_K p.tables e below (s₁.setTop (entryFrame m #[(.ref r), (.ref y)] 2)) (T4.setTop (mkF m 18 #[.val (.ref r), .val (.ref y)] [(.ref x2), (.ref x1)])) := fun t h => k t (st4 _ h)
  obtain ⟨cq5, kq5, q5a, q5b, q5c⟩ := isOf hZ e4 ST.1
  obtain ⟨_, _, ⟨T5, L5, kk5, n5⟩, -, X5, ⟨Lc5, hQ5, l5, y5, z5⟩, st5⟩ := X4.virtualBack hx (y := (⟨"java/lang/String", "equals", "(Ljava/lang/Object;)Z"⟩ : MethodName)) (z := (⟨"java/lang/String", "equals", "(Ljava/lang/Object;)Z"⟩ : MethodName)) hown (mvT hZ (hw _ (List.mem_of_getElem? (i := 108) rfl))) (mvT hZ (hw _ (List.mem_of_getElem? (i := 109) rfl))) (notFace_of_selects (args := #[]) (mvT hZ (hw _ (List.mem_of_getElem? (i := 111) rfl)))) (mvT hZ (hw _ (List.mem_of_getElem? (i := 111) rfl))) (mvT hZ (hw _ (List.mem_of_getElem? (i := 110) rfl))) (by decide) (StrChars.Road.eqW (W := 0) hZ (own_wE hw) (kI := 4) (hw _ (List.mem_of_getElem? (i := 13) rfl)) ST.1 ST.2.1 ST.2.2.1 ST.2.2.2 (StrChars.Road.codOf (cs := cs) (n := cs.length) rfl (fun c hc => (hbc c hc).2)) (own_up hbc) ln2 SU.1 SU.2.1 SU.2.2.1 SU.2.2.2 (StrChars.Road.codOf (cs := ds) (n := ds.length) rfl (fun c hc => (hb2 c hc).2)) (own_up hb2) l22 (O2.ext XO.2) P5 (by decide) (by decide)) q5a q5c (g := (mkF m 18 #[.val (.ref r), .val (.ref y)] [(.ref x2), (.ref x1)])) rfl (by rw [hml]; rfl) (Steps.refl _) (argsL := [(.ref x2)]) (rest := []) (lenOf own_pd11 rfl) rfl (by show 2 * 0 + _ ≤ _; exact Nat.le_of_eq rfl) (hb hby own_d22_18) (fun _ _ => ⟨rfl, e4, (by decide : 0 + 0 ≤ _), (by decide : 0 + 0 ≤ _)⟩)
  dsimp only [Pt.U, Pt.locs, Pt.cells, Pt.slots] at X5 l5 y5 z5 st5 hQ5
  subst l5 y5 z5
  obtain ⟨hv5, rfl, eqh5⟩ := hQ5
  obtain rfl := own_eqv hv5
  have N5 := Fr.app N0 (Fr.nil n0)
  replace k : own_K p.tables e below (s₁.setTop (entryFrame m #[(.ref r), (.ref y)] 2)) (T5.setTop (mkF m 21 #[.val (.ref r), .val (.ref y)] [(.int (own_eq cs ds))])) := fun t h => k t (st5.trans h)
  by_cases cc6 : (own_eq cs ds) = (0 : Int32)
  · replace k : own_K p.tables e below (s₁.setTop (entryFrame m #[(.ref r), (.ref y)] 2)) (T5.setTop (mkF m 28 #[.val (.ref r), .val (.ref y)] [])) := fun t h => k t (XS.ifYes X5.here hx rfl (pc0 := 21) (pc' := 28) rfl (hb hby own_d22_21) rfl ((if0 _ _).trans (teq cc6).1) (by decide) (by decide) h)
    replace k : own_K p.tables e below (s₁.setTop (entryFrame m #[(.ref r), (.ref y)] 2)) (T5.setTop (mkF m 29 #[.val (.ref r), .val (.ref y)] [(.int (0 : Int32))])) := fun t h => k t (XS.iconst X5.here hx rfl (hb hby own_d22_28) h)
    obtain ⟨fs, hr, hrun, hended, hW, hsame⟩ := X5.leave (v := some (.int (0 : Int32))) (fun h => by rw [Bd.returns] at h; cases h) Bd.notSynchronized
    refine ⟨_, _, k _ (retOut X5 hx Bd.returns rfl (Or.inl ⟨rfl, by simp, _, rfl⟩) (hb hby own_d22_29) hr), hrun, hended, _, _, rfl, ?_, ⟨_, rfl⟩, hW, hsame.mono (by decide) (by decide)⟩
    show Q17 Z r y x1 t1 kb1 cs x2 t2 kb2 ds G1 h0 n0 _ T5.heap _
    rw [eqh5]
    exact ⟨(by rw [cc6]), N5, rfl⟩
  · replace k : own_K p.tables e below (s₁.setTop (entryFrame m #[(.ref r), (.ref y)] 2)) (T5.setTop (mkF m 24 #[.val (.ref r), .val (.ref y)] [])) := fun t h => k t (XS.ifNo X5.here hx rfl (hb hby own_d22_21) rfl ((if0 _ _).trans (feq cc6).1) h)
    replace k : own_K p.tables e below (s₁.setTop (entryFrame m #[(.ref r), (.ref y)] 2)) (T5.setTop (mkF m 25 #[.val (.ref r), .val (.ref y)] [(.int (1 : Int32))])) := fun t h => k t (XS.iconst X5.here hx rfl (hb hby own_d22_24) h)
    replace k : own_K p.tables e below (s₁.setTop (entryFrame m #[(.ref r), (.ref y)] 2)) (T5.setTop (mkF m 29 #[.val (.ref r), .val (.ref y)] [(.int (1 : Int32))])) := fun t h => k t (XS.goto X5.here hx rfl (pc0 := 25) (pc' := 29) rfl (hb hby own_d22_25) (by decide) (by decide) h)
    obtain ⟨fs, hr, hrun, hended, hW, hsame⟩ := X5.leave (v := some (.int (1 : Int32))) (fun h => by rw [Bd.returns] at h; cases h) Bd.notSynchronized
    refine ⟨_, _, k _ (retOut X5 hx Bd.returns rfl (Or.inl ⟨rfl, by simp, _, rfl⟩) (hb hby own_d22_29) hr), hrun, hended, _, _, rfl, ?_, ⟨_, rfl⟩, hW, hsame.mono (by decide) (by decide)⟩
    show Q17 Z r y x1 t1 kb1 cs x2 t2 kb2 ds G1 h0 n0 _ T5.heap _
    rw [eqh5]
    exact ⟨(by rw [own_eqn cc6]), N5, rfl⟩
theorem own_d25_0 : decode prog_21_method_3_code 0 = .ok (.aload_n 0, 1) := by decide +kernel
theorem own_d25_1 : decode prog_21_method_3_code 1 = .ok (.getfield 58, 3) := by decide +kernel
theorem own_d25_4 : decode prog_21_method_3_code 4 = .ok (.areturn, 1) := by decide +kernel
theorem own_ef18 (m : MethodId) (y0 : Addr) : entryFrame m #[(.ref y0)] 1 = mkF m 0 #[.val (.ref y0)] [] := by first | (simp [entryFrame, mkF, argsToLocals, Value.category]; done) | rfl
def Q18 (Z : State) (r : Addr) (x1 : Addr) (h0 : Heap) (n0 : Nat) (v : Option Value) (h : Heap) (L : List Loc) : Prop := v = some (.ref x1) ∧ Fr n0 L ∧ h = h0
set_option maxRecDepth 65536 in
set_option maxHeartbeats 40000000 in
theorem rm18 (l : Launch) (Z : State) (a0 : Array Value) (hw : ∀ d ∈ tables_1, d.before a0 Z = true) (ws : List Jvm.Cond) (r : Addr) (x1 : Addr) (h0 : Heap) (n0 : Nat) (F1 : Fld Z h0 r "com/example/ferrolho/ferrolho/lock/LockName" "value" "Ljava/lang/String;" (.ref x1)) :
    MetFree l (⟨"com/example/ferrolho/ferrolho/lock/LockName", "getValue", "()Ljava/lang/String;"⟩ : MethodName) (head1 (Jvm.Cond.code (⟨"com/example/ferrolho/ferrolho/lock/LockName", "getValue", "()Ljava/lang/String;"⟩ : MethodName) prog_21_method_3_code 1 (some (.object "java/lang/String")) :: ws) ({ frames := 0, cells := 0, slots := 0, locals := 0 } : Room)) (fun aaz U => aaz = #[(.ref r)] ∧ Z.Warmed39 U.vm ∧ U.heap = h0) (fun _ _ _ _ _ => True) (fun _ U o U' => ∃ v L, o = .returned v ∧ Q18 Z r x1 h0 n0 v U'.heap L ∧ FrameEnd U o U' L ({ frames := 0, cells := 0, slots := 0, locals := 0 } : Room).cells ({ frames := 0, cells := 0, slots := 0, locals := 0 } : Room).slots) := by
  refine MetFree.of_bodySF (plainFor_of_name own_pn3) hisR ?_
  intro p e s m args below meth cde s₁ Bd hml0 hP hK
  obtain ⟨rfl, hZ, hh⟩ := hP
  have hx := Bd.exec
  have hby := Bd.bytes
  have hml : cde.maxLocals = 1 := hml0
  have hown : s.vm.findClass "com/example/ferrolho/ferrolho/lock/LockName" = some m.cls := findClass_of_methodNamed Bd.named
  have hnm := (name_of_methodNamed Bd.named Bd.method).1
  have X0 : Stand p l e ({ frames := 0, cells := 0, slots := 0, locals := 0 } : Room) s m #[(.ref r)] below meth cde s₁ [] 0 0 := Stand.of_body Bd
  have e0 : s₁.heap = h0 := by rw [← hh, Bd.state]; rfl
  have N0 := Fr.nil n0
  have k : own_K p.tables e below (s₁.setTop (entryFrame m #[(.ref r)] 1)) (s₁.setTop (mkF m 0 #[.val (.ref r)] [])) := fun t h => castTop (own_ef18 m r) h
  replace k : own_K p.tables e below (s₁.setTop (entryFrame m #[(.ref r)] 1)) (s₁.setTop (mkF m 1 #[.val (.ref r)] [(.ref r)])) := fun t h => k t (XS.aloadN X0.here hx rfl (hb hby own_d25_0) rfl rfl h)
  obtain ⟨T1, X1, e1, st1⟩ := getF X0 hx hZ hown (host := "") (Or.inl (hw _ (List.mem_of_getElem? (i := 99) rfl))) Via.refl e0 F1 (g := (mkF m 1 #[.val (.ref r)] [(.ref r)])) rfl rfl (hb hby own_d25_1)
  replace k : own_K p.tables e below (s₁.setTop (entryFrame m #[(.ref r)] 1)) (T1.setTop (mkF m 4 #[.val (.ref r)] [(.ref x1)])) := fun t h => k t (st1 _ h)
  obtain ⟨fs, hr, hrun, hended, hW, hsame⟩ := X1.leave (v := some (.ref x1)) (fun h => by rw [Bd.returns] at h; cases h) Bd.notSynchronized
  refine ⟨_, _, k _ (retOut X1 hx Bd.returns rfl (Or.inr (Or.inr (Or.inr (Or.inr ⟨rfl, rfl, rfl⟩)))) (hb hby own_d25_4) hr), hrun, hended, _, _, rfl, ?_, ⟨_, rfl⟩, hW, hsame.mono (by decide) (by decide)⟩
  show Q18 Z r x1 h0 n0 _ T1.heap _
  rw [e1]
  exact ⟨rfl, N0, rfl⟩
theorem own_pn6 : plainName "com/example/ferrolho/ferrolho/lock/LockNameEqualsPinLaw" = true := by first | (simp [plainName, overriddenIn]; done) | decide +kernel
theorem own_d1_0 : decode method_2_code 0 = .ok (.iload_n 0, 1) := by decide +kernel
theorem own_d1_1 : decode method_2_code 1 = .ok (.ldc 7, 2) := by decide +kernel
theorem own_d1_3 : decode method_2_code 3 = .ok (.iand, 1) := by decide +kernel
theorem own_d1_4 : decode method_2_code 4 = .ok (.bipush 67, 2) := by decide +kernel
theorem own_d1_6 : decode method_2_code 6 = .ok (.irem, 1) := by decide +kernel
theorem own_d1_7 : decode method_2_code 7 = .ok (.istore_n 1, 1) := by decide +kernel
theorem own_d1_8 : decode method_2_code 8 = .ok (.iload_n 1, 1) := by decide +kernel
theorem own_d1_9 : decode method_2_code 9 = .ok (.bipush 26, 2) := by decide +kernel
theorem own_d1_11 : decode method_2_code 11 = .ok (.if_icmp .ge 9, 3) := by decide +kernel
theorem own_d1_14 : decode method_2_code 14 = .ok (.bipush 65, 2) := by decide +kernel
theorem own_d1_16 : decode method_2_code 16 = .ok (.iload_n 1, 1) := by decide +kernel
theorem own_d1_17 : decode method_2_code 17 = .ok (.iadd, 1) := by decide +kernel
theorem own_d1_18 : decode method_2_code 18 = .ok (.i2c, 1) := by decide +kernel
theorem own_d1_19 : decode method_2_code 19 = .ok (.ireturn, 1) := by decide +kernel
theorem own_d1_20 : decode method_2_code 20 = .ok (.iload_n 1, 1) := by decide +kernel
theorem own_d1_21 : decode method_2_code 21 = .ok (.bipush 52, 2) := by decide +kernel
theorem own_d1_23 : decode method_2_code 23 = .ok (.if_icmp .ge 12, 3) := by decide +kernel
theorem own_d1_26 : decode method_2_code 26 = .ok (.bipush 97, 2) := by decide +kernel
theorem own_d1_28 : decode method_2_code 28 = .ok (.iload_n 1, 1) := by decide +kernel
theorem own_d1_29 : decode method_2_code 29 = .ok (.bipush 26, 2) := by decide +kernel
theorem own_d1_31 : decode method_2_code 31 = .ok (.isub, 1) := by decide +kernel
theorem own_d1_32 : decode method_2_code 32 = .ok (.iadd, 1) := by decide +kernel
theorem own_d1_33 : decode method_2_code 33 = .ok (.i2c, 1) := by decide +kernel
theorem own_d1_34 : decode method_2_code 34 = .ok (.ireturn, 1) := by decide +kernel
theorem own_d1_35 : decode method_2_code 35 = .ok (.iload_n 1, 1) := by decide +kernel
theorem own_d1_36 : decode method_2_code 36 = .ok (.bipush 62, 2) := by decide +kernel
theorem own_d1_38 : decode method_2_code 38 = .ok (.if_icmp .ge 12, 3) := by decide +kernel
theorem own_d1_41 : decode method_2_code 41 = .ok (.bipush 48, 2) := by decide +kernel
theorem own_d1_43 : decode method_2_code 43 = .ok (.iload_n 1, 1) := by decide +kernel
theorem own_d1_44 : decode method_2_code 44 = .ok (.bipush 52, 2) := by decide +kernel
theorem own_d1_46 : decode method_2_code 46 = .ok (.isub, 1) := by decide +kernel
theorem own_d1_47 : decode method_2_code 47 = .ok (.iadd, 1) := by decide +kernel
theorem own_d1_48 : decode method_2_code 48 = .ok (.i2c, 1) := by decide +kernel
theorem own_d1_49 : decode method_2_code 49 = .ok (.ireturn, 1) := by decide +kernel
theorem own_d1_50 : decode method_2_code 50 = .ok (.iload_n 1, 1) := by decide +kernel
theorem own_d1_51 : decode method_2_code 51 = .ok (.bipush 62, 2) := by decide +kernel
theorem own_d1_53 : decode method_2_code 53 = .ok (.if_icmp .ne 6, 3) := by decide +kernel
theorem own_d1_56 : decode method_2_code 56 = .ok (.bipush 46, 2) := by decide +kernel
theorem own_d1_58 : decode method_2_code 58 = .ok (.ireturn, 1) := by decide +kernel
theorem own_d1_59 : decode method_2_code 59 = .ok (.iload_n 1, 1) := by decide +kernel
theorem own_d1_60 : decode method_2_code 60 = .ok (.bipush 63, 2) := by decide +kernel
theorem own_d1_62 : decode method_2_code 62 = .ok (.if_icmp .ne 6, 3) := by decide +kernel
theorem own_d1_65 : decode method_2_code 65 = .ok (.bipush 95, 2) := by decide +kernel
theorem own_d1_67 : decode method_2_code 67 = .ok (.ireturn, 1) := by decide +kernel
theorem own_d1_68 : decode method_2_code 68 = .ok (.iload_n 1, 1) := by decide +kernel
theorem own_d1_69 : decode method_2_code 69 = .ok (.bipush 64, 2) := by decide +kernel
theorem own_d1_71 : decode method_2_code 71 = .ok (.if_icmp .ne 6, 3) := by decide +kernel
theorem own_d1_74 : decode method_2_code 74 = .ok (.bipush 58, 2) := by decide +kernel
theorem own_d1_76 : decode method_2_code 76 = .ok (.ireturn, 1) := by decide +kernel
theorem own_d1_77 : decode method_2_code 77 = .ok (.iload_n 1, 1) := by decide +kernel
theorem own_d1_78 : decode method_2_code 78 = .ok (.bipush 65, 2) := by decide +kernel
theorem own_d1_80 : decode method_2_code 80 = .ok (.if_icmp .ne 6, 3) := by decide +kernel
theorem own_d1_83 : decode method_2_code 83 = .ok (.bipush 47, 2) := by decide +kernel
theorem own_d1_85 : decode method_2_code 85 = .ok (.ireturn, 1) := by decide +kernel
theorem own_d1_86 : decode method_2_code 86 = .ok (.bipush 45, 2) := by decide +kernel
theorem own_d1_88 : decode method_2_code 88 = .ok (.ireturn, 1) := by decide +kernel
theorem own_ef19 (m : MethodId) (y0 : Int32) : entryFrame m #[(.int y0)] 2 = mkF m 0 #[.val (.int y0), .unset] [] := by first | (simp [entryFrame, mkF, argsToLocals, Value.category]; done) | rfl
def Q19 (Z : State) (q : Int32) (h0 : Heap) (n0 : Nat) (v : Option Value) (h : Heap) (L : List Loc) : Prop := v = some (.int (own_alk ((q &&& (2147483647 : Int32)) % (67 : Int32)))) ∧ Fr n0 L ∧ h = h0
set_option maxRecDepth 65536 in
set_option maxHeartbeats 40000000 in
theorem rm19 (l : Launch) (Z : State) (a0 : Array Value) (hw : ∀ d ∈ tables_1, d.before a0 Z = true) (ws : List Jvm.Cond) (q : Int32) (h0 : Heap) (n0 : Nat) :
    MetFree l (⟨"com/example/ferrolho/ferrolho/lock/LockNameEqualsPinLaw", "allowed", "(I)C"⟩ : MethodName) (head1 (Jvm.Cond.code (⟨"com/example/ferrolho/ferrolho/lock/LockNameEqualsPinLaw", "allowed", "(I)C"⟩ : MethodName) method_2_code 2 (some .char) :: ws) ({ frames := 0, cells := 0, slots := 0, locals := 0 } : Room)) (fun aaz U => aaz = #[(.int q)] ∧ Z.Warmed39 U.vm ∧ U.heap = h0) (fun _ _ _ _ _ => True) (fun _ U o U' => ∃ v L, o = .returned v ∧ Q19 Z q h0 n0 v U'.heap L ∧ FrameEnd U o U' L ({ frames := 0, cells := 0, slots := 0, locals := 0 } : Room).cells ({ frames := 0, cells := 0, slots := 0, locals := 0 } : Room).slots) := by
  refine MetFree.of_bodySF (plainFor_of_name own_pn6) hisR ?_
  intro p e s m args below meth cde s₁ Bd hml0 hP hK
  obtain ⟨rfl, hZ, hh⟩ := hP
  have hx := Bd.exec
  have hby := Bd.bytes
  have hml : cde.maxLocals = 2 := hml0
  have hown : s.vm.findClass "com/example/ferrolho/ferrolho/lock/LockNameEqualsPinLaw" = some m.cls := findClass_of_methodNamed Bd.named
  have hnm := (name_of_methodNamed Bd.named Bd.method).1
  have X0 : Stand p l e ({ frames := 0, cells := 0, slots := 0, locals := 0 } : Room) s m #[(.int q)] below meth cde s₁ [] 0 0 := Stand.of_body Bd
  have e0 : s₁.heap = h0 := by rw [← hh, Bd.state]; rfl
  have N0 := Fr.nil n0
  have k : own_K p.tables e below (s₁.setTop (entryFrame m #[(.int q)] 2)) (s₁.setTop (mkF m 0 #[.val (.int q), .unset] [])) := fun t h => castTop (own_ef19 m q) h
  replace k : own_K p.tables e below (s₁.setTop (entryFrame m #[(.int q)] 2)) (s₁.setTop (mkF m 1 #[.val (.int q), .unset] [(.int q)])) := fun t h => k t (XS.iloadN X0.here hx rfl (hb hby own_d1_0) rfl h)
  replace k : own_K p.tables e below (s₁.setTop (entryFrame m #[(.int q)] 2)) (s₁.setTop (mkF m 3 #[.val (.int q), .unset] [(.int (2147483647 : Int32)), (.int q)])) := fun t h => k t (X0.ldcInt hx hown (mvT hZ (hw _ (List.mem_of_getElem? (i := 4) rfl))) (g := (mkF m 1 #[.val (.int q), .unset] [(.int q)])) rfl (hb hby own_d1_1) _ h)
  replace k : own_K p.tables e below (s₁.setTop (entryFrame m #[(.int q)] 2)) (s₁.setTop (mkF m 4 #[.val (.int q), .unset] [(.int (q &&& (2147483647 : Int32)))])) := fun t h => k t (XS.iand X0.here hx rfl (hb hby own_d1_3) rfl h)
  replace k : own_K p.tables e below (s₁.setTop (entryFrame m #[(.int q)] 2)) (s₁.setTop (mkF m 6 #[.val (.int q), .unset] [(.int (67 : Int32)), (.int (q &&& (2147483647 : Int32)))])) := fun t h => k t (XS.bipush X0.here hx rfl (hb hby own_d1_4) h)
  replace k : own_K p.tables e below (s₁.setTop (entryFrame m #[(.int q)] 2)) (s₁.setTop (mkF m 7 #[.val (.int q), .unset] [(.int ((q &&& (2147483647 : Int32)) % (67 : Int32)))])) := fun t h => k t (iremM X0 hx rfl (hb hby own_d1_6) rfl (by decide) h)
  obtain ⟨kk, hkk⟩ : ∃ z, z = ((q &&& (2147483647 : Int32)) % (67 : Int32)) := ⟨_, rfl⟩
  rw [← hkk] at k
  obtain ⟨hk0, hk1⟩ := own_rng q
  rw [← hkk] at hk0 hk1
  replace k : own_K p.tables e below (s₁.setTop (entryFrame m #[(.int q)] 2)) (s₁.setTop (mkF m 8 #[.val (.int q), .val (.int kk)] [])) := fun t h => k t (XS.istoreN X0.here hx rfl (hb hby own_d1_7) rfl (l' := #[.val (.int q), .val (.int kk)]) rfl h)
  replace k : own_K p.tables e below (s₁.setTop (entryFrame m #[(.int q)] 2)) (s₁.setTop (mkF m 9 #[.val (.int q), .val (.int kk)] [(.int kk)])) := fun t h => k t (XS.iloadN X0.here hx rfl (hb hby own_d1_8) rfl h)
  replace k : own_K p.tables e below (s₁.setTop (entryFrame m #[(.int q)] 2)) (s₁.setTop (mkF m 11 #[.val (.int q), .val (.int kk)] [(.int (26 : Int32)), (.int kk)])) := fun t h => k t (XS.bipush X0.here hx rfl (hb hby own_d1_9) h)
  by_cases cc1 : kk < (26 : Int32)
  · replace k : own_K p.tables e below (s₁.setTop (entryFrame m #[(.int q)] 2)) (s₁.setTop (mkF m 14 #[.val (.int q), .val (.int kk)] [])) := fun t h => k t (XS.icmpNo X0.here hx rfl (hb hby own_d1_11) rfl (tlt cc1).2.1 h)
    replace k : own_K p.tables e below (s₁.setTop (entryFrame m #[(.int q)] 2)) (s₁.setTop (mkF m 16 #[.val (.int q), .val (.int kk)] [(.int (65 : Int32))])) := fun t h => k t (XS.bipush X0.here hx rfl (hb hby own_d1_14) h)
    replace k : own_K p.tables e below (s₁.setTop (entryFrame m #[(.int q)] 2)) (s₁.setTop (mkF m 17 #[.val (.int q), .val (.int kk)] [(.int kk), (.int (65 : Int32))])) := fun t h => k t (XS.iloadN X0.here hx rfl (hb hby own_d1_16) rfl h)
    replace k : own_K p.tables e below (s₁.setTop (entryFrame m #[(.int q)] 2)) (s₁.setTop (mkF m 18 #[.val (.int q), .val (.int kk)] [(.int ((65 : Int32) + kk))])) := fun t h => k t (XS.iadd X0.here hx rfl (hb hby own_d1_17) rfl h)
    replace k : own_K p.tables e below (s₁.setTop (entryFrame m #[(.int q)] 2)) (s₁.setTop (mkF m 19 #[.val (.int q), .val (.int kk)] [(.int (((65 : Int32) + kk).toUInt32.toUInt16.toUInt32.toInt32))])) := fun t h => k t (XS.i2c X0.here hx rfl (hb hby own_d1_18) rfl h)
    obtain ⟨fs, hr, hrun, hended, hW, hsame⟩ := X0.leave (v := some (.int (((65 : Int32) + kk).toUInt32.toUInt16.toUInt32.toInt32))) (fun h => by rw [Bd.returns] at h; cases h) Bd.notSynchronized
    refine ⟨_, _, k _ (retOut X0 hx Bd.returns (own_narc _) (Or.inl ⟨rfl, by simp, _, rfl⟩) (hb hby own_d1_19) hr), hrun, hended, _, _, rfl, ?_, ⟨_, rfl⟩, hW, hsame.mono (by decide) (by decide)⟩
    show Q19 Z q h0 n0 _ s₁.heap _
    rw [e0]
    have ha := own_a1 hk0 cc1
    have hlim : kk.toInt < 26 := by
      have h := cc1
      have t : (26 : Int32).toInt = 26 := by decide
      rw [Int32.lt_iff_toInt_lt] at h
      omega
    exact ⟨(by rw [← hkk]; unfold own_alk; rw [if_pos cc1, own_i2c (by omega) (by omega)]), N0, rfl⟩
  · replace k : own_K p.tables e below (s₁.setTop (entryFrame m #[(.int q)] 2)) (s₁.setTop (mkF m 20 #[.val (.int q), .val (.int kk)] [])) := fun t h => k t (XS.icmpYes X0.here hx rfl (pc0 := 11) (pc' := 20) rfl (hb hby own_d1_11) rfl (flt cc1).2.1 (by decide) (by decide) h)
    replace k : own_K p.tables e below (s₁.setTop (entryFrame m #[(.int q)] 2)) (s₁.setTop (mkF m 21 #[.val (.int q), .val (.int kk)] [(.int kk)])) := fun t h => k t (XS.iloadN X0.here hx rfl (hb hby own_d1_20) rfl h)
    replace k : own_K p.tables e below (s₁.setTop (entryFrame m #[(.int q)] 2)) (s₁.setTop (mkF m 23 #[.val (.int q), .val (.int kk)] [(.int (52 : Int32)), (.int kk)])) := fun t h => k t (XS.bipush X0.here hx rfl (hb hby own_d1_21) h)
    by_cases cc2 : kk < (52 : Int32)
    · replace k : own_K p.tables e below (s₁.setTop (entryFrame m #[(.int q)] 2)) (s₁.setTop (mkF m 26 #[.val (.int q), .val (.int kk)] [])) := fun t h => k t (XS.icmpNo X0.here hx rfl (hb hby own_d1_23) rfl (tlt cc2).2.1 h)
      replace k : own_K p.tables e below (s₁.setTop (entryFrame m #[(.int q)] 2)) (s₁.setTop (mkF m 28 #[.val (.int q), .val (.int kk)] [(.int (97 : Int32))])) := fun t h => k t (XS.bipush X0.here hx rfl (hb hby own_d1_26) h)
      replace k : own_K p.tables e below (s₁.setTop (entryFrame m #[(.int q)] 2)) (s₁.setTop (mkF m 29 #[.val (.int q), .val (.int kk)] [(.int kk), (.int (97 : Int32))])) := fun t h => k t (XS.iloadN X0.here hx rfl (hb hby own_d1_28) rfl h)
      replace k : own_K p.tables e below (s₁.setTop (entryFrame m #[(.int q)] 2)) (s₁.setTop (mkF m 31 #[.val (.int q), .val (.int kk)] [(.int (26 : Int32)), (.int kk), (.int (97 : Int32))])) := fun t h => k t (XS.bipush X0.here hx rfl (hb hby own_d1_29) h)
      replace k : own_K p.tables e below (s₁.setTop (entryFrame m #[(.int q)] 2)) (s₁.setTop (mkF m 32 #[.val (.int q), .val (.int kk)] [(.int (kk - (26 : Int32))), (.int (97 : Int32))])) := fun t h => k t (XS.isub X0.here hx rfl (hb hby own_d1_31) rfl h)
      replace k : own_K p.tables e below (s₁.setTop (entryFrame m #[(.int q)] 2)) (s₁.setTop (mkF m 33 #[.val (.int q), .val (.int kk)] [(.int ((97 : Int32) + (kk - (26 : Int32))))])) := fun t h => k t (XS.iadd X0.here hx rfl (hb hby own_d1_32) rfl h)
      replace k : own_K p.tables e below (s₁.setTop (entryFrame m #[(.int q)] 2)) (s₁.setTop (mkF m 34 #[.val (.int q), .val (.int kk)] [(.int (((97 : Int32) + (kk - (26 : Int32))).toUInt32.toUInt16.toUInt32.toInt32))])) := fun t h => k t (XS.i2c X0.here hx rfl (hb hby own_d1_33) rfl h)
      obtain ⟨fs, hr, hrun, hended, hW, hsame⟩ := X0.leave (v := some (.int (((97 : Int32) + (kk - (26 : Int32))).toUInt32.toUInt16.toUInt32.toInt32))) (fun h => by rw [Bd.returns] at h; cases h) Bd.notSynchronized
      refine ⟨_, _, k _ (retOut X0 hx Bd.returns (own_narc _) (Or.inl ⟨rfl, by simp, _, rfl⟩) (hb hby own_d1_34) hr), hrun, hended, _, _, rfl, ?_, ⟨_, rfl⟩, hW, hsame.mono (by decide) (by decide)⟩
      show Q19 Z q h0 n0 _ s₁.heap _
      rw [e0]
      have ha := own_a2 hk0 cc1 cc2
      have hlim : kk.toInt < 52 := by
        have h := cc2
        have t : (52 : Int32).toInt = 52 := by decide
        rw [Int32.lt_iff_toInt_lt] at h
        omega
      have hlow : 26 ≤ kk.toInt := by
        have h := cc1
        have t : (26 : Int32).toInt = 26 := by decide
        rw [Int32.lt_iff_toInt_lt] at h
        omega
      exact ⟨(by rw [← hkk]; unfold own_alk; rw [if_neg cc1, if_pos cc2, own_i2c (by omega) (by omega)]), N0, rfl⟩
    · replace k : own_K p.tables e below (s₁.setTop (entryFrame m #[(.int q)] 2)) (s₁.setTop (mkF m 35 #[.val (.int q), .val (.int kk)] [])) := fun t h => k t (XS.icmpYes X0.here hx rfl (pc0 := 23) (pc' := 35) rfl (hb hby own_d1_23) rfl (flt cc2).2.1 (by decide) (by decide) h)
      replace k : own_K p.tables e below (s₁.setTop (entryFrame m #[(.int q)] 2)) (s₁.setTop (mkF m 36 #[.val (.int q), .val (.int kk)] [(.int kk)])) := fun t h => k t (XS.iloadN X0.here hx rfl (hb hby own_d1_35) rfl h)
      replace k : own_K p.tables e below (s₁.setTop (entryFrame m #[(.int q)] 2)) (s₁.setTop (mkF m 38 #[.val (.int q), .val (.int kk)] [(.int (62 : Int32)), (.int kk)])) := fun t h => k t (XS.bipush X0.here hx rfl (hb hby own_d1_36) h)
      by_cases cc3 : kk < (62 : Int32)
      · replace k : own_K p.tables e below (s₁.setTop (entryFrame m #[(.int q)] 2)) (s₁.setTop (mkF m 41 #[.val (.int q), .val (.int kk)] [])) := fun t h => k t (XS.icmpNo X0.here hx rfl (hb hby own_d1_38) rfl (tlt cc3).2.1 h)
        replace k : own_K p.tables e below (s₁.setTop (entryFrame m #[(.int q)] 2)) (s₁.setTop (mkF m 43 #[.val (.int q), .val (.int kk)] [(.int (48 : Int32))])) := fun t h => k t (XS.bipush X0.here hx rfl (hb hby own_d1_41) h)
        replace k : own_K p.tables e below (s₁.setTop (entryFrame m #[(.int q)] 2)) (s₁.setTop (mkF m 44 #[.val (.int q), .val (.int kk)] [(.int kk), (.int (48 : Int32))])) := fun t h => k t (XS.iloadN X0.here hx rfl (hb hby own_d1_43) rfl h)
        replace k : own_K p.tables e below (s₁.setTop (entryFrame m #[(.int q)] 2)) (s₁.setTop (mkF m 46 #[.val (.int q), .val (.int kk)] [(.int (52 : Int32)), (.int kk), (.int (48 : Int32))])) := fun t h => k t (XS.bipush X0.here hx rfl (hb hby own_d1_44) h)
        replace k : own_K p.tables e below (s₁.setTop (entryFrame m #[(.int q)] 2)) (s₁.setTop (mkF m 47 #[.val (.int q), .val (.int kk)] [(.int (kk - (52 : Int32))), (.int (48 : Int32))])) := fun t h => k t (XS.isub X0.here hx rfl (hb hby own_d1_46) rfl h)
        replace k : own_K p.tables e below (s₁.setTop (entryFrame m #[(.int q)] 2)) (s₁.setTop (mkF m 48 #[.val (.int q), .val (.int kk)] [(.int ((48 : Int32) + (kk - (52 : Int32))))])) := fun t h => k t (XS.iadd X0.here hx rfl (hb hby own_d1_47) rfl h)
        replace k : own_K p.tables e below (s₁.setTop (entryFrame m #[(.int q)] 2)) (s₁.setTop (mkF m 49 #[.val (.int q), .val (.int kk)] [(.int (((48 : Int32) + (kk - (52 : Int32))).toUInt32.toUInt16.toUInt32.toInt32))])) := fun t h => k t (XS.i2c X0.here hx rfl (hb hby own_d1_48) rfl h)
        obtain ⟨fs, hr, hrun, hended, hW, hsame⟩ := X0.leave (v := some (.int (((48 : Int32) + (kk - (52 : Int32))).toUInt32.toUInt16.toUInt32.toInt32))) (fun h => by rw [Bd.returns] at h; cases h) Bd.notSynchronized
        refine ⟨_, _, k _ (retOut X0 hx Bd.returns (own_narc _) (Or.inl ⟨rfl, by simp, _, rfl⟩) (hb hby own_d1_49) hr), hrun, hended, _, _, rfl, ?_, ⟨_, rfl⟩, hW, hsame.mono (by decide) (by decide)⟩
        show Q19 Z q h0 n0 _ s₁.heap _
        rw [e0]
        have ha := own_a3 hk0 cc2 cc3
        have hlim : kk.toInt < 62 := by
          have h := cc3
          have t : (62 : Int32).toInt = 62 := by decide
          rw [Int32.lt_iff_toInt_lt] at h
          omega
        have hlow : 52 ≤ kk.toInt := by
          have h := cc2
          have t : (52 : Int32).toInt = 52 := by decide
          rw [Int32.lt_iff_toInt_lt] at h
          omega
        exact ⟨(by rw [← hkk]; unfold own_alk; rw [if_neg cc1, if_neg cc2, if_pos cc3, own_i2c (by omega) (by omega)]), N0, rfl⟩
      · replace k : own_K p.tables e below (s₁.setTop (entryFrame m #[(.int q)] 2)) (s₁.setTop (mkF m 50 #[.val (.int q), .val (.int kk)] [])) := fun t h => k t (XS.icmpYes X0.here hx rfl (pc0 := 38) (pc' := 50) rfl (hb hby own_d1_38) rfl (flt cc3).2.1 (by decide) (by decide) h)
        replace k : own_K p.tables e below (s₁.setTop (entryFrame m #[(.int q)] 2)) (s₁.setTop (mkF m 51 #[.val (.int q), .val (.int kk)] [(.int kk)])) := fun t h => k t (XS.iloadN X0.here hx rfl (hb hby own_d1_50) rfl h)
        replace k : own_K p.tables e below (s₁.setTop (entryFrame m #[(.int q)] 2)) (s₁.setTop (mkF m 53 #[.val (.int q), .val (.int kk)] [(.int (62 : Int32)), (.int kk)])) := fun t h => k t (XS.bipush X0.here hx rfl (hb hby own_d1_51) h)
        by_cases cc4 : kk = (62 : Int32)
        · replace k : own_K p.tables e below (s₁.setTop (entryFrame m #[(.int q)] 2)) (s₁.setTop (mkF m 56 #[.val (.int q), .val (.int kk)] [])) := fun t h => k t (XS.icmpNo X0.here hx rfl (hb hby own_d1_53) rfl (teq cc4).2 h)
          replace k : own_K p.tables e below (s₁.setTop (entryFrame m #[(.int q)] 2)) (s₁.setTop (mkF m 58 #[.val (.int q), .val (.int kk)] [(.int (46 : Int32))])) := fun t h => k t (XS.bipush X0.here hx rfl (hb hby own_d1_56) h)
          obtain ⟨fs, hr, hrun, hended, hW, hsame⟩ := X0.leave (v := some (.int (46 : Int32))) (fun h => by rw [Bd.returns] at h; cases h) Bd.notSynchronized
          refine ⟨_, _, k _ (retOut X0 hx Bd.returns rfl (Or.inl ⟨rfl, by simp, _, rfl⟩) (hb hby own_d1_58) hr), hrun, hended, _, _, rfl, ?_, ⟨_, rfl⟩, hW, hsame.mono (by decide) (by decide)⟩
          show Q19 Z q h0 n0 _ s₁.heap _
          rw [e0]
          exact ⟨(by rw [← hkk]; unfold own_alk; rw [if_neg cc1, if_neg cc2, if_neg cc3, if_pos cc4]), N0, rfl⟩
        · replace k : own_K p.tables e below (s₁.setTop (entryFrame m #[(.int q)] 2)) (s₁.setTop (mkF m 59 #[.val (.int q), .val (.int kk)] [])) := fun t h => k t (XS.icmpYes X0.here hx rfl (pc0 := 53) (pc' := 59) rfl (hb hby own_d1_53) rfl (feq cc4).2 (by decide) (by decide) h)
          replace k : own_K p.tables e below (s₁.setTop (entryFrame m #[(.int q)] 2)) (s₁.setTop (mkF m 60 #[.val (.int q), .val (.int kk)] [(.int kk)])) := fun t h => k t (XS.iloadN X0.here hx rfl (hb hby own_d1_59) rfl h)
          replace k : own_K p.tables e below (s₁.setTop (entryFrame m #[(.int q)] 2)) (s₁.setTop (mkF m 62 #[.val (.int q), .val (.int kk)] [(.int (63 : Int32)), (.int kk)])) := fun t h => k t (XS.bipush X0.here hx rfl (hb hby own_d1_60) h)
          by_cases cc5 : kk = (63 : Int32)
          · replace k : own_K p.tables e below (s₁.setTop (entryFrame m #[(.int q)] 2)) (s₁.setTop (mkF m 65 #[.val (.int q), .val (.int kk)] [])) := fun t h => k t (XS.icmpNo X0.here hx rfl (hb hby own_d1_62) rfl (teq cc5).2 h)
            replace k : own_K p.tables e below (s₁.setTop (entryFrame m #[(.int q)] 2)) (s₁.setTop (mkF m 67 #[.val (.int q), .val (.int kk)] [(.int (95 : Int32))])) := fun t h => k t (XS.bipush X0.here hx rfl (hb hby own_d1_65) h)
            obtain ⟨fs, hr, hrun, hended, hW, hsame⟩ := X0.leave (v := some (.int (95 : Int32))) (fun h => by rw [Bd.returns] at h; cases h) Bd.notSynchronized
            refine ⟨_, _, k _ (retOut X0 hx Bd.returns rfl (Or.inl ⟨rfl, by simp, _, rfl⟩) (hb hby own_d1_67) hr), hrun, hended, _, _, rfl, ?_, ⟨_, rfl⟩, hW, hsame.mono (by decide) (by decide)⟩
            show Q19 Z q h0 n0 _ s₁.heap _
            rw [e0]
            exact ⟨(by rw [← hkk]; unfold own_alk; rw [if_neg cc1, if_neg cc2, if_neg cc3, if_neg cc4, if_pos cc5]), N0, rfl⟩
          · replace k : own_K p.tables e below (s₁.setTop (entryFrame m #[(.int q)] 2)) (s₁.setTop (mkF m 68 #[.val (.int q), .val (.int kk)] [])) := fun t h => k t (XS.icmpYes X0.here hx rfl (pc0 := 62) (pc' := 68) rfl (hb hby own_d1_62) rfl (feq cc5).2 (by decide) (by decide) h)
            replace k : own_K p.tables e below (s₁.setTop (entryFrame m #[(.int q)] 2)) (s₁.setTop (mkF m 69 #[.val (.int q), .val (.int kk)] [(.int kk)])) := fun t h => k t (XS.iloadN X0.here hx rfl (hb hby own_d1_68) rfl h)
            replace k : own_K p.tables e below (s₁.setTop (entryFrame m #[(.int q)] 2)) (s₁.setTop (mkF m 71 #[.val (.int q), .val (.int kk)] [(.int (64 : Int32)), (.int kk)])) := fun t h => k t (XS.bipush X0.here hx rfl (hb hby own_d1_69) h)
            by_cases cc6 : kk = (64 : Int32)
            · replace k : own_K p.tables e below (s₁.setTop (entryFrame m #[(.int q)] 2)) (s₁.setTop (mkF m 74 #[.val (.int q), .val (.int kk)] [])) := fun t h => k t (XS.icmpNo X0.here hx rfl (hb hby own_d1_71) rfl (teq cc6).2 h)
              replace k : own_K p.tables e below (s₁.setTop (entryFrame m #[(.int q)] 2)) (s₁.setTop (mkF m 76 #[.val (.int q), .val (.int kk)] [(.int (58 : Int32))])) := fun t h => k t (XS.bipush X0.here hx rfl (hb hby own_d1_74) h)
              obtain ⟨fs, hr, hrun, hended, hW, hsame⟩ := X0.leave (v := some (.int (58 : Int32))) (fun h => by rw [Bd.returns] at h; cases h) Bd.notSynchronized
              refine ⟨_, _, k _ (retOut X0 hx Bd.returns rfl (Or.inl ⟨rfl, by simp, _, rfl⟩) (hb hby own_d1_76) hr), hrun, hended, _, _, rfl, ?_, ⟨_, rfl⟩, hW, hsame.mono (by decide) (by decide)⟩
              show Q19 Z q h0 n0 _ s₁.heap _
              rw [e0]
              exact ⟨(by rw [← hkk]; unfold own_alk; rw [if_neg cc1, if_neg cc2, if_neg cc3, if_neg cc4, if_neg cc5, if_pos cc6]), N0, rfl⟩
            · replace k : own_K p.tables e below (s₁.setTop (entryFrame m #[(.int q)] 2)) (s₁.setTop (mkF m 77 #[.val (.int q), .val (.int kk)] [])) := fun t h => k t (XS.icmpYes X0.here hx rfl (pc0 := 71) (pc' := 77) rfl (hb hby own_d1_71) rfl (feq cc6).2 (by decide) (by decide) h)
              replace k : own_K p.tables e below (s₁.setTop (entryFrame m #[(.int q)] 2)) (s₁.setTop (mkF m 78 #[.val (.int q), .val (.int kk)] [(.int kk)])) := fun t h => k t (XS.iloadN X0.here hx rfl (hb hby own_d1_77) rfl h)
              replace k : own_K p.tables e below (s₁.setTop (entryFrame m #[(.int q)] 2)) (s₁.setTop (mkF m 80 #[.val (.int q), .val (.int kk)] [(.int (65 : Int32)), (.int kk)])) := fun t h => k t (XS.bipush X0.here hx rfl (hb hby own_d1_78) h)
              by_cases cc7 : kk = (65 : Int32)
              · replace k : own_K p.tables e below (s₁.setTop (entryFrame m #[(.int q)] 2)) (s₁.setTop (mkF m 83 #[.val (.int q), .val (.int kk)] [])) := fun t h => k t (XS.icmpNo X0.here hx rfl (hb hby own_d1_80) rfl (teq cc7).2 h)
                replace k : own_K p.tables e below (s₁.setTop (entryFrame m #[(.int q)] 2)) (s₁.setTop (mkF m 85 #[.val (.int q), .val (.int kk)] [(.int (47 : Int32))])) := fun t h => k t (XS.bipush X0.here hx rfl (hb hby own_d1_83) h)
                obtain ⟨fs, hr, hrun, hended, hW, hsame⟩ := X0.leave (v := some (.int (47 : Int32))) (fun h => by rw [Bd.returns] at h; cases h) Bd.notSynchronized
                refine ⟨_, _, k _ (retOut X0 hx Bd.returns rfl (Or.inl ⟨rfl, by simp, _, rfl⟩) (hb hby own_d1_85) hr), hrun, hended, _, _, rfl, ?_, ⟨_, rfl⟩, hW, hsame.mono (by decide) (by decide)⟩
                show Q19 Z q h0 n0 _ s₁.heap _
                rw [e0]
                exact ⟨(by rw [← hkk]; unfold own_alk; rw [if_neg cc1, if_neg cc2, if_neg cc3, if_neg cc4, if_neg cc5, if_neg cc6, if_pos cc7]), N0, rfl⟩
              · replace k : own_K p.tables e below (s₁.setTop (entryFrame m #[(.int q)] 2)) (s₁.setTop (mkF m 86 #[.val (.int q), .val (.int kk)] [])) := fun t h => k t (XS.icmpYes X0.here hx rfl (pc0 := 80) (pc' := 86) rfl (hb hby own_d1_80) rfl (feq cc7).2 (by decide) (by decide) h)
                replace k : own_K p.tables e below (s₁.setTop (entryFrame m #[(.int q)] 2)) (s₁.setTop (mkF m 88 #[.val (.int q), .val (.int kk)] [(.int (45 : Int32))])) := fun t h => k t (XS.bipush X0.here hx rfl (hb hby own_d1_86) h)
                obtain ⟨fs, hr, hrun, hended, hW, hsame⟩ := X0.leave (v := some (.int (45 : Int32))) (fun h => by rw [Bd.returns] at h; cases h) Bd.notSynchronized
                refine ⟨_, _, k _ (retOut X0 hx Bd.returns rfl (Or.inl ⟨rfl, by simp, _, rfl⟩) (hb hby own_d1_88) hr), hrun, hended, _, _, rfl, ?_, ⟨_, rfl⟩, hW, hsame.mono (by decide) (by decide)⟩
                show Q19 Z q h0 n0 _ s₁.heap _
                rw [e0]
                exact ⟨(by rw [← hkk]; unfold own_alk; rw [if_neg cc1, if_neg cc2, if_neg cc3, if_neg cc4, if_neg cc5, if_neg cc6, if_neg cc7]), N0, rfl⟩
theorem own_pd12 : parseMethodDescriptor "([C)V" = some ⟨[(.array .char)], none⟩ := by decide +kernel
theorem own_d2_0 : decode method_3_code 0 = .ok (.iload_n 2, 1) := by decide +kernel
theorem own_d2_1 : decode method_3_code 1 = .ok (.iconst 1, 1) := by decide +kernel
theorem own_d2_2 : decode method_3_code 2 = .ok (.if_icmp .ne 20, 3) := by decide +kernel
theorem own_d2_5 : decode method_3_code 5 = .ok (.iconst 1, 1) := by decide +kernel
theorem own_d2_6 : decode method_3_code 6 = .ok (.newarray .char, 2) := by decide +kernel
theorem own_d2_8 : decode method_3_code 8 = .ok (.astore_n 3, 1) := by decide +kernel
theorem own_d2_9 : decode method_3_code 9 = .ok (.aload_n 3, 1) := by decide +kernel
theorem own_d2_10 : decode method_3_code 10 = .ok (.iconst 0, 1) := by decide +kernel
theorem own_d2_11 : decode method_3_code 11 = .ok (.iload_n 0, 1) := by decide +kernel
theorem own_d2_12 : decode method_3_code 12 = .ok (.castore, 1) := by decide +kernel
theorem own_d2_13 : decode method_3_code 13 = .ok (.new 8, 3) := by decide +kernel
theorem own_d2_16 : decode method_3_code 16 = .ok (.dup, 1) := by decide +kernel
theorem own_d2_17 : decode method_3_code 17 = .ok (.aload_n 3, 1) := by decide +kernel
theorem own_d2_18 : decode method_3_code 18 = .ok (.invokespecial 10, 3) := by decide +kernel
theorem own_d2_21 : decode method_3_code 21 = .ok (.areturn, 1) := by decide +kernel
theorem own_d2_22 : decode method_3_code 22 = .ok (.iconst 2, 1) := by decide +kernel
theorem own_d2_23 : decode method_3_code 23 = .ok (.newarray .char, 2) := by decide +kernel
theorem own_d2_25 : decode method_3_code 25 = .ok (.astore_n 3, 1) := by decide +kernel
theorem own_d2_26 : decode method_3_code 26 = .ok (.aload_n 3, 1) := by decide +kernel
theorem own_d2_27 : decode method_3_code 27 = .ok (.iconst 0, 1) := by decide +kernel
theorem own_d2_28 : decode method_3_code 28 = .ok (.iload_n 0, 1) := by decide +kernel
theorem own_d2_29 : decode method_3_code 29 = .ok (.castore, 1) := by decide +kernel
theorem own_d2_30 : decode method_3_code 30 = .ok (.aload_n 3, 1) := by decide +kernel
theorem own_d2_31 : decode method_3_code 31 = .ok (.iconst 1, 1) := by decide +kernel
theorem own_d2_32 : decode method_3_code 32 = .ok (.iload_n 1, 1) := by decide +kernel
theorem own_d2_33 : decode method_3_code 33 = .ok (.castore, 1) := by decide +kernel
theorem own_d2_34 : decode method_3_code 34 = .ok (.new 8, 3) := by decide +kernel
theorem own_d2_37 : decode method_3_code 37 = .ok (.dup, 1) := by decide +kernel
theorem own_d2_38 : decode method_3_code 38 = .ok (.aload_n 3, 1) := by decide +kernel
theorem own_d2_39 : decode method_3_code 39 = .ok (.invokespecial 10, 3) := by decide +kernel
theorem own_d2_42 : decode method_3_code 42 = .ok (.areturn, 1) := by decide +kernel
theorem own_ef20 (m : MethodId) (y0 : Int32) (y1 : Int32) (y2 : Int32) : entryFrame m #[(.int y0), (.int y1), (.int y2)] 4 = mkF m 0 #[.val (.int y0), .val (.int y1), .val (.int y2), .unset] [] := by first | (simp [entryFrame, mkF, argsToLocals, Value.category]; done) | rfl
def Q20 (Z : State) (c0 : Int32) (c1 : Int32) (len : Int32) (G1 : Int32) (h0 : Heap) (n0 : Nat) (v : Option Value) (h : Heap) (L : List Loc) : Prop := ∃ (x t : Addr) (kb : ClassId), v = some (.ref x) ∧ Fr n0 L ∧ Ext h0 h ∧ own_Str Z h x t kb (own_cs c0 c1 len)
set_option maxRecDepth 65536 in
set_option maxHeartbeats 40000000 in
theorem rm20 (l : Launch) (Z : State) (a0 : Array Value) (hw : ∀ d ∈ tables_1, d.before a0 Z = true) (ws : List Jvm.Cond) (c0 : Int32) (c1 : Int32) (len : Int32) (G1 : Int32) (h0 : Heap) (n0 : Nat) (Z0 : n0 ≤ h0.size) (O2 : Sta Z Z.heap "java/lang/String" "COMPACT_STRINGS" "Z" (.int G1)) (P5 : ¬ G1 = (0 : Int32)) (XO : Old Z n0 h0) (hb0 : ¬ c0 < 0 ∧ ¬ (255 : Int32) < c0) (hb1 : ¬ c1 < 0 ∧ ¬ (255 : Int32) < c1) :
    MetFree l (⟨"com/example/ferrolho/ferrolho/lock/LockNameEqualsPinLaw", "text", "(CCI)Ljava/lang/String;"⟩ : MethodName) (head1 (Jvm.Cond.code (⟨"com/example/ferrolho/ferrolho/lock/LockNameEqualsPinLaw", "text", "(CCI)Ljava/lang/String;"⟩ : MethodName) method_3_code 4 (some (.object "java/lang/String")) :: ws) ({ frames := 4, cells := 3, slots := 8, locals := 70 } : Room)) (fun aaz U => aaz = #[(.int c0), (.int c1), (.int len)] ∧ Z.Warmed39 U.vm ∧ U.heap = h0) (fun _ _ _ _ _ => True) (fun _ U o U' => ∃ v L, o = .returned v ∧ Q20 Z c0 c1 len G1 h0 n0 v U'.heap L ∧ FrameEnd U o U' L ({ frames := 4, cells := 3, slots := 8, locals := 70 } : Room).cells ({ frames := 4, cells := 3, slots := 8, locals := 70 } : Room).slots) := by
  refine MetFree.of_bodySF (plainFor_of_name own_pn6) hisR ?_
  intro p e s m args below meth cde s₁ Bd hml0 hP hK
  obtain ⟨rfl, hZ, hh⟩ := hP
  have hx := Bd.exec
  have hby := Bd.bytes
  have hml : cde.maxLocals = 4 := hml0
  have hown : s.vm.findClass "com/example/ferrolho/ferrolho/lock/LockNameEqualsPinLaw" = some m.cls := findClass_of_methodNamed Bd.named
  have hnm := (name_of_methodNamed Bd.named Bd.method).1
  have X0 : Stand p l e ({ frames := 4, cells := 3, slots := 8, locals := 70 } : Room) s m #[(.int c0), (.int c1), (.int len)] below meth cde s₁ [] 0 0 := Stand.of_body Bd
  have e0 : s₁.heap = h0 := by rw [← hh, Bd.state]; rfl
  have N0 := Fr.nil n0
  have k : own_K p.tables e below (s₁.setTop (entryFrame m #[(.int c0), (.int c1), (.int len)] 4)) (s₁.setTop (mkF m 0 #[.val (.int c0), .val (.int c1), .val (.int len), .unset] [])) := fun t h => castTop (own_ef20 m c0 c1 len) h
  replace k : own_K p.tables e below (s₁.setTop (entryFrame m #[(.int c0), (.int c1), (.int len)] 4)) (s₁.setTop (mkF m 1 #[.val (.int c0), .val (.int c1), .val (.int len), .unset] [(.int len)])) := fun t h => k t (XS.iloadN X0.here hx rfl (hb hby own_d2_0) rfl h)
  replace k : own_K p.tables e below (s₁.setTop (entryFrame m #[(.int c0), (.int c1), (.int len)] 4)) (s₁.setTop (mkF m 2 #[.val (.int c0), .val (.int c1), .val (.int len), .unset] [(.int (1 : Int32)), (.int len)])) := fun t h => k t (XS.iconst X0.here hx rfl (hb hby own_d2_1) h)
  by_cases cc1 : len = (1 : Int32)
  · replace k : own_K p.tables e below (s₁.setTop (entryFrame m #[(.int c0), (.int c1), (.int len)] 4)) (s₁.setTop (mkF m 5 #[.val (.int c0), .val (.int c1), .val (.int len), .unset] [])) := fun t h => k t (XS.icmpNo X0.here hx rfl (hb hby own_d2_2) rfl (teq cc1).2 h)
    replace k : own_K p.tables e below (s₁.setTop (entryFrame m #[(.int c0), (.int c1), (.int len)] 4)) (s₁.setTop (mkF m 6 #[.val (.int c0), .val (.int c1), .val (.int len), .unset] [(.int (1 : Int32))])) := fun t h => k t (XS.iconst X0.here hx rfl (hb hby own_d2_5) h)
    obtain ⟨T2, h2, k2, X2, e2, E2, A2, st2⟩ := newP X0 hx hZ (hw _ (List.mem_of_getElem? (i := 11) rfl)) e0 (g := (mkF m 6 #[.val (.int c0), .val (.int c1), .val (.int len), .unset] [(.int (1 : Int32))])) rfl (hb hby own_d2_6) rfl (by decide) (cap := 1) (by decide) (by decide) (by decide) (by decide)
    obtain ⟨b2, g2⟩ : ∃ z, z = h0.size := ⟨_, rfl⟩
    rw [← g2] at A2 st2
    have ge_b2 : n0 ≤ b2 := Nat.le_trans Z0 (Nat.le_of_eq g2.symm)
    have Z2 : n0 ≤ h2.size := Nat.le_trans Z0 E2.1
    have V2 : Arv Z h2 b2 k2 .char (1 : Int32) [.int (0 : Int32)] (.int (0 : Int32)) := (Arv.new A2 (by decide)).pad (pad_rep [] _ 1)
    replace k : own_K p.tables e below (s₁.setTop (entryFrame m #[(.int c0), (.int c1), (.int len)] 4)) (T2.setTop (mkF m 8 #[.val (.int c0), .val (.int c1), .val (.int len), .unset] [(.ref b2)])) := fun t h => k t (st2 _ h)
    have KX : Keep h0 h2 [] := (Keep.refl h0 []).ext E2
    have sz_b : h0.size ≤ b2 := Nat.le_of_eq g2.symm
    replace XO := XO.ext E2
    replace k : own_K p.tables e below (s₁.setTop (entryFrame m #[(.int c0), (.int c1), (.int len)] 4)) (T2.setTop (mkF m 9 #[.val (.int c0), .val (.int c1), .val (.int len), .val (.ref b2)] [])) := fun t h => k t (XS.astoreN X2.here hx rfl (hb hby own_d2_8) rfl rfl (l' := #[.val (.int c0), .val (.int c1), .val (.int len), .val (.ref b2)]) rfl h)
    replace k : own_K p.tables e below (s₁.setTop (entryFrame m #[(.int c0), (.int c1), (.int len)] 4)) (T2.setTop (mkF m 10 #[.val (.int c0), .val (.int c1), .val (.int len), .val (.ref b2)] [(.ref b2)])) := fun t h => k t (XS.aloadN X2.here hx rfl (hb hby own_d2_9) rfl rfl h)
    replace k : own_K p.tables e below (s₁.setTop (entryFrame m #[(.int c0), (.int c1), (.int len)] 4)) (T2.setTop (mkF m 11 #[.val (.int c0), .val (.int c1), .val (.int len), .val (.ref b2)] [(.int (0 : Int32)), (.ref b2)])) := fun t h => k t (XS.iconst X2.here hx rfl (hb hby own_d2_10) h)
    replace k : own_K p.tables e below (s₁.setTop (entryFrame m #[(.int c0), (.int c1), (.int len)] 4)) (T2.setTop (mkF m 12 #[.val (.int c0), .val (.int c1), .val (.int len), .val (.ref b2)] [(.int c0), (.int (0 : Int32)), (.ref b2)])) := fun t h => k t (XS.iloadN X2.here hx rfl (hb hby own_d2_11) rfl h)
    obtain ⟨cl3, Ar3, qa3, Sa3, Na3, Ha3, Ga3⟩ := V2
    have hin3 : ¬ ((0 : Int32) < 0 ∨ cl3.slots.size ≤ ((0 : Int32)).toNatClampNeg) := inb_of Sa3 ⟨by decide, by decide⟩
    obtain ⟨T3, h3, X3, e3, W3, st3⟩ := stC X2 hx hZ e2 Ar3 (j := (0 : Int32)) hin3 (g := (mkF m 12 #[.val (.int c0), .val (.int c1), .val (.int len), .val (.ref b2)] [(.int c0), (.int (0 : Int32)), (.ref b2)])) rfl rfl (hb hby own_d2_12)
    have N3 := Fr.snoc X3 N0 ge_b2
    have V3 : Arv Z h3 b2 k2 .char (1 : Int32) [.int (nar .char c0)] (.int (0 : Int32)) := Arv.set Ar3 qa3 Sa3 Na3 Ha3 Ga3 (fits_nar_char _) W3 0 rfl (Nat.le_of_ble_eq_true rfl)
    replace k : own_K p.tables e below (s₁.setTop (entryFrame m #[(.int c0), (.int c1), (.int len)] 4)) (T3.setTop (mkF m 13 #[.val (.int c0), .val (.int c1), .val (.int len), .val (.ref b2)] [])) := fun t h => k t (st3 _ h)
    have Z3 : n0 ≤ h3.size := Nat.le_trans Z2 (Nat.le_of_eq W3.size.symm)
    replace KX := KX.wr W3 (Or.inr sz_b)
    replace XO := XO.wr W3 ge_b2
    rw [own_nar hb0] at V3
    obtain ⟨T4, h4, X4, e4, E4, A4, D4, -, st4⟩ := newO X3 hx hZ hown (hw _ (List.mem_of_getElem? (i := 12) rfl)) (hw _ (List.mem_of_getElem? (i := 13) rfl)) (hw _ (List.mem_of_getElem? (i := 14) rfl)) e3 (g := (mkF m 13 #[.val (.int c0), .val (.int c1), .val (.int len), .val (.ref b2)] [])) rfl (hb hby own_d2_13) (by decide) (by decide)
    obtain ⟨b4, g4⟩ : ∃ z, z = h3.size := ⟨_, rfl⟩
    rw [← g4] at A4 D4 st4
    have ge_b4 : n0 ≤ b4 := Nat.le_trans Z3 (Nat.le_of_eq g4.symm)
    have Z4 : n0 ≤ h4.size := Nat.le_trans Z3 E4.1
    replace k : own_K p.tables e below (s₁.setTop (entryFrame m #[(.int c0), (.int c1), (.int len)] 4)) (T4.setTop (mkF m 16 #[.val (.int c0), .val (.int c1), .val (.int len), .val (.ref b2)] [(.ref b4)])) := fun t h => k t (st4 _ h)
    have GV : Fld Z h4 b4 "java/lang/String" "value" "[B" .null := D4 (Or.inr (hw _ (List.mem_of_getElem? (i := 40) rfl))) (ty := (.array .byte)) (by decide)
    have GC : Fld Z h4 b4 "java/lang/String" "coder" "B" (.int (0 : Int32)) := D4 (Or.inr (hw _ (List.mem_of_getElem? (i := 38) rfl))) (ty := .byte) (by decide)
    have sz_x : h0.size ≤ b4 := Nat.le_trans KX.1 (Nat.le_of_eq g4.symm)
    replace KX := KX.ext E4
    replace XO := XO.ext E4
    have VS := V3.ext E4
    replace k : own_K p.tables e below (s₁.setTop (entryFrame m #[(.int c0), (.int c1), (.int len)] 4)) (T4.setTop (mkF m 17 #[.val (.int c0), .val (.int c1), .val (.int len), .val (.ref b2)] [(.ref b4), (.ref b4)])) := fun t h => k t (XS.dup X4.here hx rfl (hb hby own_d2_16) rfl rfl h)
    replace k : own_K p.tables e below (s₁.setTop (entryFrame m #[(.int c0), (.int c1), (.int len)] 4)) (T4.setTop (mkF m 18 #[.val (.int c0), .val (.int c1), .val (.int len), .val (.ref b2)] [(.ref b2), (.ref b4), (.ref b4)])) := fun t h => k t (XS.aloadN X4.here hx rfl (hb hby own_d2_17) rfl rfl h)
    have hp : ∀ c ∈ ([c0] : List Int32), ¬ c < 0 ∧ ¬ (255 : Int32) < c := by
      intro c hc
      simp only [List.mem_cons, List.not_mem_nil, or_false] at hc
      subst hc; exact hb0
    obtain ⟨_, _, ⟨T5, L5, kk5, n5⟩, -, X5, ⟨Lc5, hQ5, l5, y5, z5⟩, st5⟩ := X4.specialBack hx (y := (⟨"java/lang/String", "<init>", "([C)V"⟩ : MethodName)) rfl hown (mvT hZ (hw _ (List.mem_of_getElem? (i := 15) rfl))) (mvT hZ (hw _ (List.mem_of_getElem? (i := 16) rfl))) (mvT hZ (hw _ (List.mem_of_getElem? (i := 17) rfl))) (by decide) (StrChars.Road.backV (W := 1) hZ (own_wV hw) (kI := 4) (hw _ (List.mem_of_getElem? (i := 13) rfl)) (cs := [c0]) (bs := ([c0] : List Int32).map (fun c => c.toInt8.toInt32)) (n := 1) ge_b4 Z4 A4 GV GC VS (O2.ext XO.2) P5 rfl rfl (by decide) (by decide) hp rfl (by decide) (by decide)) (g := (mkF m 18 #[.val (.int c0), .val (.int c1), .val (.int len), .val (.ref b2)] [(.ref b2), (.ref b4), (.ref b4)])) rfl (by rw [hml]; rfl) (Steps.refl _) (a := b4) (argsL := [(.ref b2)]) (rest := [(.ref b4)]) (lenOf own_pd12 rfl) rfl (by show 2 * 0 + _ ≤ _; exact Nat.le_of_eq rfl) (hb hby own_d2_18) (fun _ _ => ⟨rfl, e4, (by decide : 2 + 1 ≤ _), (by decide : 5 + 1 ≤ _)⟩)
    dsimp only [Pt.U, Pt.locs, Pt.cells, Pt.slots] at X5 l5 y5 z5 st5 hQ5
    subst l5 y5 z5
    obtain ⟨rfl, N5q, K5, SE5, SC5, t5, kb5, gt5, szt5, nt5, SV5, SK5⟩ := hQ5
    have N5 := Fr.app N3 N5q
    replace k : own_K p.tables e below (s₁.setTop (entryFrame m #[(.int c0), (.int c1), (.int len)] 4)) (T5.setTop (mkF m 21 #[.val (.int c0), .val (.int c1), .val (.int len), .val (.ref b2)] [(.ref b4)])) := fun t h => k t (st5.trans h)
    replace KX := KX.trans K5 (allS (Or.inr sz_x) all0)
    obtain ⟨fs, hr, hrun, hended, hW, hsame⟩ := X5.leave (v := some (.ref b4)) (fun h => by rw [Bd.returns] at h; cases h) Bd.notSynchronized
    refine ⟨_, _, k _ (retOut X5 hx Bd.returns rfl (Or.inr (Or.inr (Or.inr (Or.inr ⟨rfl, rfl, rfl⟩)))) (hb hby own_d2_21) hr), hrun, hended, _, _, rfl, ?_, ⟨_, rfl⟩, hW, hsame.mono (by decide) (by decide)⟩
    show Q20 Z c0 c1 len G1 h0 n0 _ T5.heap _
    exact ⟨b4, t5, kb5, rfl, N5, own_extOfKeep KX, (by rw [show own_cs c0 c1 len = [c0] from if_pos cc1]; exact ⟨SE5, SV5, SC5, SK5⟩)⟩
  · replace k : own_K p.tables e below (s₁.setTop (entryFrame m #[(.int c0), (.int c1), (.int len)] 4)) (s₁.setTop (mkF m 22 #[.val (.int c0), .val (.int c1), .val (.int len), .unset] [])) := fun t h => k t (XS.icmpYes X0.here hx rfl (pc0 := 2) (pc' := 22) rfl (hb hby own_d2_2) rfl (feq cc1).2 (by decide) (by decide) h)
    replace k : own_K p.tables e below (s₁.setTop (entryFrame m #[(.int c0), (.int c1), (.int len)] 4)) (s₁.setTop (mkF m 23 #[.val (.int c0), .val (.int c1), .val (.int len), .unset] [(.int (2 : Int32))])) := fun t h => k t (XS.iconst X0.here hx rfl (hb hby own_d2_22) h)
    obtain ⟨T6, h6, k6, X6, e6, E6, A6, st6⟩ := newP X0 hx hZ (hw _ (List.mem_of_getElem? (i := 11) rfl)) e0 (g := (mkF m 23 #[.val (.int c0), .val (.int c1), .val (.int len), .unset] [(.int (2 : Int32))])) rfl (hb hby own_d2_23) rfl (by decide) (cap := 2) (by decide) (by decide) (by decide) (by decide)
    obtain ⟨b6, g6⟩ : ∃ z, z = h0.size := ⟨_, rfl⟩
    rw [← g6] at A6 st6
    have ge_b6 : n0 ≤ b6 := Nat.le_trans Z0 (Nat.le_of_eq g6.symm)
    have Z6 : n0 ≤ h6.size := Nat.le_trans Z0 E6.1
    have V6 : Arv Z h6 b6 k6 .char (2 : Int32) [.int (0 : Int32), .int (0 : Int32)] (.int (0 : Int32)) := (Arv.new A6 (by decide)).pad (pad_rep [] _ 2)
    replace k : own_K p.tables e below (s₁.setTop (entryFrame m #[(.int c0), (.int c1), (.int len)] 4)) (T6.setTop (mkF m 25 #[.val (.int c0), .val (.int c1), .val (.int len), .unset] [(.ref b6)])) := fun t h => k t (st6 _ h)
    have KX : Keep h0 h6 [] := (Keep.refl h0 []).ext E6
    have sz_b : h0.size ≤ b6 := Nat.le_of_eq g6.symm
    replace XO := XO.ext E6
    replace k : own_K p.tables e below (s₁.setTop (entryFrame m #[(.int c0), (.int c1), (.int len)] 4)) (T6.setTop (mkF m 26 #[.val (.int c0), .val (.int c1), .val (.int len), .val (.ref b6)] [])) := fun t h => k t (XS.astoreN X6.here hx rfl (hb hby own_d2_25) rfl rfl (l' := #[.val (.int c0), .val (.int c1), .val (.int len), .val (.ref b6)]) rfl h)
    replace k : own_K p.tables e below (s₁.setTop (entryFrame m #[(.int c0), (.int c1), (.int len)] 4)) (T6.setTop (mkF m 27 #[.val (.int c0), .val (.int c1), .val (.int len), .val (.ref b6)] [(.ref b6)])) := fun t h => k t (XS.aloadN X6.here hx rfl (hb hby own_d2_26) rfl rfl h)
    replace k : own_K p.tables e below (s₁.setTop (entryFrame m #[(.int c0), (.int c1), (.int len)] 4)) (T6.setTop (mkF m 28 #[.val (.int c0), .val (.int c1), .val (.int len), .val (.ref b6)] [(.int (0 : Int32)), (.ref b6)])) := fun t h => k t (XS.iconst X6.here hx rfl (hb hby own_d2_27) h)
    replace k : own_K p.tables e below (s₁.setTop (entryFrame m #[(.int c0), (.int c1), (.int len)] 4)) (T6.setTop (mkF m 29 #[.val (.int c0), .val (.int c1), .val (.int len), .val (.ref b6)] [(.int c0), (.int (0 : Int32)), (.ref b6)])) := fun t h => k t (XS.iloadN X6.here hx rfl (hb hby own_d2_28) rfl h)
    obtain ⟨cl7, Ar7, qa7, Sa7, Na7, Ha7, Ga7⟩ := V6
    have hin7 : ¬ ((0 : Int32) < 0 ∨ cl7.slots.size ≤ ((0 : Int32)).toNatClampNeg) := inb_of Sa7 ⟨by decide, by decide⟩
    obtain ⟨T7, h7, X7, e7, W7, st7⟩ := stC X6 hx hZ e6 Ar7 (j := (0 : Int32)) hin7 (g := (mkF m 29 #[.val (.int c0), .val (.int c1), .val (.int len), .val (.ref b6)] [(.int c0), (.int (0 : Int32)), (.ref b6)])) rfl rfl (hb hby own_d2_29)
    have N7 := Fr.snoc X7 N0 ge_b6
    have V7 : Arv Z h7 b6 k6 .char (2 : Int32) [.int (nar .char c0), .int (0 : Int32)] (.int (0 : Int32)) := Arv.set Ar7 qa7 Sa7 Na7 Ha7 Ga7 (fits_nar_char _) W7 0 rfl (Nat.le_of_ble_eq_true rfl)
    replace k : own_K p.tables e below (s₁.setTop (entryFrame m #[(.int c0), (.int c1), (.int len)] 4)) (T7.setTop (mkF m 30 #[.val (.int c0), .val (.int c1), .val (.int len), .val (.ref b6)] [])) := fun t h => k t (st7 _ h)
    have Z7 : n0 ≤ h7.size := Nat.le_trans Z6 (Nat.le_of_eq W7.size.symm)
    replace KX := KX.wr W7 (Or.inr sz_b)
    replace XO := XO.wr W7 ge_b6
    rw [own_nar hb0] at V7
    replace k : own_K p.tables e below (s₁.setTop (entryFrame m #[(.int c0), (.int c1), (.int len)] 4)) (T7.setTop (mkF m 31 #[.val (.int c0), .val (.int c1), .val (.int len), .val (.ref b6)] [(.ref b6)])) := fun t h => k t (XS.aloadN X7.here hx rfl (hb hby own_d2_30) rfl rfl h)
    replace k : own_K p.tables e below (s₁.setTop (entryFrame m #[(.int c0), (.int c1), (.int len)] 4)) (T7.setTop (mkF m 32 #[.val (.int c0), .val (.int c1), .val (.int len), .val (.ref b6)] [(.int (1 : Int32)), (.ref b6)])) := fun t h => k t (XS.iconst X7.here hx rfl (hb hby own_d2_31) h)
    replace k : own_K p.tables e below (s₁.setTop (entryFrame m #[(.int c0), (.int c1), (.int len)] 4)) (T7.setTop (mkF m 33 #[.val (.int c0), .val (.int c1), .val (.int len), .val (.ref b6)] [(.int c1), (.int (1 : Int32)), (.ref b6)])) := fun t h => k t (XS.iloadN X7.here hx rfl (hb hby own_d2_32) rfl h)
    obtain ⟨cl8, Ar8, qa8, Sa8, Na8, Ha8, Ga8⟩ := V7
    have hin8 : ¬ ((1 : Int32) < 0 ∨ cl8.slots.size ≤ ((1 : Int32)).toNatClampNeg) := inb_of Sa8 ⟨by decide, by decide⟩
    obtain ⟨T8, h8, X8, e8, W8, st8⟩ := stC X7 hx hZ e7 Ar8 (j := (1 : Int32)) hin8 (g := (mkF m 33 #[.val (.int c0), .val (.int c1), .val (.int len), .val (.ref b6)] [(.int c1), (.int (1 : Int32)), (.ref b6)])) rfl rfl (hb hby own_d2_33)
    have N8 := Fr.snoc X8 N7 ge_b6
    have V8 : Arv Z h8 b6 k6 .char (2 : Int32) [.int c0, .int (nar .char c1)] (.int (0 : Int32)) := Arv.set Ar8 qa8 Sa8 Na8 Ha8 Ga8 (fits_nar_char _) W8 1 rfl (Nat.le_of_ble_eq_true rfl)
    replace k : own_K p.tables e below (s₁.setTop (entryFrame m #[(.int c0), (.int c1), (.int len)] 4)) (T8.setTop (mkF m 34 #[.val (.int c0), .val (.int c1), .val (.int len), .val (.ref b6)] [])) := fun t h => k t (st8 _ h)
    have Z8 : n0 ≤ h8.size := Nat.le_trans Z7 (Nat.le_of_eq W8.size.symm)
    replace KX := KX.wr W8 (Or.inr sz_b)
    replace XO := XO.wr W8 ge_b6
    rw [own_nar hb1] at V8
    obtain ⟨T9, h9, X9, e9, E9, A9, D9, -, st9⟩ := newO X8 hx hZ hown (hw _ (List.mem_of_getElem? (i := 12) rfl)) (hw _ (List.mem_of_getElem? (i := 13) rfl)) (hw _ (List.mem_of_getElem? (i := 14) rfl)) e8 (g := (mkF m 34 #[.val (.int c0), .val (.int c1), .val (.int len), .val (.ref b6)] [])) rfl (hb hby own_d2_34) (by decide) (by decide)
    obtain ⟨b9, g9⟩ : ∃ z, z = h8.size := ⟨_, rfl⟩
    rw [← g9] at A9 D9 st9
    have ge_b9 : n0 ≤ b9 := Nat.le_trans Z8 (Nat.le_of_eq g9.symm)
    have Z9 : n0 ≤ h9.size := Nat.le_trans Z8 E9.1
    replace k : own_K p.tables e below (s₁.setTop (entryFrame m #[(.int c0), (.int c1), (.int len)] 4)) (T9.setTop (mkF m 37 #[.val (.int c0), .val (.int c1), .val (.int len), .val (.ref b6)] [(.ref b9)])) := fun t h => k t (st9 _ h)
    have GV : Fld Z h9 b9 "java/lang/String" "value" "[B" .null := D9 (Or.inr (hw _ (List.mem_of_getElem? (i := 40) rfl))) (ty := (.array .byte)) (by decide)
    have GC : Fld Z h9 b9 "java/lang/String" "coder" "B" (.int (0 : Int32)) := D9 (Or.inr (hw _ (List.mem_of_getElem? (i := 38) rfl))) (ty := .byte) (by decide)
    have sz_x : h0.size ≤ b9 := Nat.le_trans KX.1 (Nat.le_of_eq g9.symm)
    replace KX := KX.ext E9
    replace XO := XO.ext E9
    have VS := V8.ext E9
    replace k : own_K p.tables e below (s₁.setTop (entryFrame m #[(.int c0), (.int c1), (.int len)] 4)) (T9.setTop (mkF m 38 #[.val (.int c0), .val (.int c1), .val (.int len), .val (.ref b6)] [(.ref b9), (.ref b9)])) := fun t h => k t (XS.dup X9.here hx rfl (hb hby own_d2_37) rfl rfl h)
    replace k : own_K p.tables e below (s₁.setTop (entryFrame m #[(.int c0), (.int c1), (.int len)] 4)) (T9.setTop (mkF m 39 #[.val (.int c0), .val (.int c1), .val (.int len), .val (.ref b6)] [(.ref b6), (.ref b9), (.ref b9)])) := fun t h => k t (XS.aloadN X9.here hx rfl (hb hby own_d2_38) rfl rfl h)
    have hp : ∀ c ∈ ([c0, c1] : List Int32), ¬ c < 0 ∧ ¬ (255 : Int32) < c := by
      intro c hc
      simp only [List.mem_cons, List.not_mem_nil, or_false] at hc
      rcases hc with rfl | rfl
      · exact hb0
      · exact hb1
    obtain ⟨_, _, ⟨T10, L10, kk10, n10⟩, -, X10, ⟨Lc10, hQ10, l10, y10, z10⟩, st10⟩ := X9.specialBack hx (y := (⟨"java/lang/String", "<init>", "([C)V"⟩ : MethodName)) rfl hown (mvT hZ (hw _ (List.mem_of_getElem? (i := 15) rfl))) (mvT hZ (hw _ (List.mem_of_getElem? (i := 16) rfl))) (mvT hZ (hw _ (List.mem_of_getElem? (i := 17) rfl))) (by decide) (StrChars.Road.backV (W := 1) hZ (own_wV hw) (kI := 4) (hw _ (List.mem_of_getElem? (i := 13) rfl)) (cs := [c0, c1]) (bs := ([c0, c1] : List Int32).map (fun c => c.toInt8.toInt32)) (n := 2) ge_b9 Z9 A9 GV GC VS (O2.ext XO.2) P5 rfl rfl (by decide) (by decide) hp rfl (by decide) (by decide)) (g := (mkF m 39 #[.val (.int c0), .val (.int c1), .val (.int len), .val (.ref b6)] [(.ref b6), (.ref b9), (.ref b9)])) rfl (by rw [hml]; rfl) (Steps.refl _) (a := b9) (argsL := [(.ref b6)]) (rest := [(.ref b9)]) (lenOf own_pd12 rfl) rfl (by show 2 * 0 + _ ≤ _; exact Nat.le_of_eq rfl) (hb hby own_d2_39) (fun _ _ => ⟨rfl, e9, (by decide : 2 + 1 ≤ _), (by decide : 6 + 2 ≤ _)⟩)
    dsimp only [Pt.U, Pt.locs, Pt.cells, Pt.slots] at X10 l10 y10 z10 st10 hQ10
    subst l10 y10 z10
    obtain ⟨rfl, N10q, K10, SE10, SC10, t10, kb10, gt10, szt10, nt10, SV10, SK10⟩ := hQ10
    have N10 := Fr.app N8 N10q
    replace k : own_K p.tables e below (s₁.setTop (entryFrame m #[(.int c0), (.int c1), (.int len)] 4)) (T10.setTop (mkF m 42 #[.val (.int c0), .val (.int c1), .val (.int len), .val (.ref b6)] [(.ref b9)])) := fun t h => k t (st10.trans h)
    replace KX := KX.trans K10 (allS (Or.inr sz_x) all0)
    obtain ⟨fs, hr, hrun, hended, hW, hsame⟩ := X10.leave (v := some (.ref b9)) (fun h => by rw [Bd.returns] at h; cases h) Bd.notSynchronized
    refine ⟨_, _, k _ (retOut X10 hx Bd.returns rfl (Or.inr (Or.inr (Or.inr (Or.inr ⟨rfl, rfl, rfl⟩)))) (hb hby own_d2_42) hr), hrun, hended, _, _, rfl, ?_, ⟨_, rfl⟩, hW, hsame.mono (by decide) (by decide)⟩
    show Q20 Z c0 c1 len G1 h0 n0 _ T10.heap _
    exact ⟨b9, t10, kb10, rfl, N10, own_extOfKeep KX, (by rw [show own_cs c0 c1 len = [c0, c1] from if_neg cc1]; exact ⟨SE10, SV10, SC10, SK10⟩)⟩
theorem own_pd13 : parseMethodDescriptor "(CCI)Ljava/lang/String;" = some ⟨[.char, .char, .int], some (.object "java/lang/String")⟩ := by decide +kernel
theorem own_pd14 : parseMethodDescriptor "(Ljava/lang/String;)V" = some ⟨[(.object "java/lang/String")], none⟩ := by decide +kernel
theorem own_pd15 : parseMethodDescriptor "()Ljava/lang/String;" = some ⟨[], some (.object "java/lang/String")⟩ := by decide +kernel
theorem own_ef0 (m : MethodId) (y0 : Int32) (y1 : Int32) (y2 : Int32) (y3 : Int32) (y4 : Int32) : entryFrame m #[(.int y0), (.int y1), (.int y2), (.int y3), (.int y4)] maxLocals = mkF m 0 #[.val (.int y0), .val (.int y1), .val (.int y2), .val (.int y3), .val (.int y4), .unset, .unset, .unset, .unset, .unset, .unset, .unset, .unset, .unset, .unset, .unset] [] := by first | (simp [entryFrame, mkF, argsToLocals, Value.category, maxLocals]; done) | rfl
def Q0 (Z : State) (a0_ : Int32) (a1_ : Int32) (b0_ : Int32) (b1_ : Int32) (mode : Int32) (G1 : Int32) (G3 : Value) (h0 : Heap) (n0 : Nat) (v : Option Value) (h : Heap) (L : List Loc) : Prop := v = some (.int 1) ∧ Fr n0 L
set_option maxRecDepth 65536 in
set_option maxHeartbeats 40000000 in
theorem rm0 (l : Launch) (Z : State) (a0 : Array Value) (hw : ∀ d ∈ tables_1, d.before a0 Z = true) (ws : List Jvm.Cond) (a0_ : Int32) (a1_ : Int32) (b0_ : Int32) (b1_ : Int32) (mode : Int32) (G1 : Int32) (G3 : Value) (h0 : Heap) (n0 : Nat) (Z0 : n0 ≤ h0.size) (O2 : Sta Z Z.heap "java/lang/String" "COMPACT_STRINGS" "Z" (.int G1)) (P5 : ¬ G1 = (0 : Int32)) (XO : Old Z n0 h0) (O4 : Sta Z Z.heap "jdk/internal/util/Preconditions" "SIOOBE_FORMATTER" "Ljava/util/function/BiFunction;" G3) (rG3 : G3.isRef = true) :
    MetFree l x (head1 (Jvm.Cond.code x code maxLocals ret :: ws) room_1) (fun aaz U => aaz = #[(.int a0_), (.int a1_), (.int b0_), (.int b1_), (.int mode)] ∧ Z.Warmed39 U.vm ∧ U.heap = h0 ∧ CHv Z consts_1 U.vm h0) (fun _ _ _ _ _ => True) (fun _ U o U' => ∃ v L, o = .returned v ∧ Q0 Z a0_ a1_ b0_ b1_ mode G1 G3 h0 n0 v U'.heap L ∧ CHr Z consts_1 U.vm U.heap U'.vm U'.heap ∧ ReturnedEndW U o U' L room_1.cells room_1.slots) := by
  refine MetFree.of_bodySF (plainFor_of_name own_pn6) hisR ?_
  intro p e s m args below meth cde s₁ Bd hml0 hP hK
  obtain ⟨rfl, hZ, hh, hCH⟩ := hP
  have hx := Bd.exec
  have hby := Bd.bytes
  have hml : cde.maxLocals = 16 := hml0
  have hown : (s.setVm s.vm).vm.findClass "com/example/ferrolho/ferrolho/lock/LockNameEqualsPinLaw" = some m.cls := findClass_of_methodNamed Bd.named
  have hZ : Z.Warmed39 (s.setVm s.vm).vm := hZ
  have hnm := (name_of_methodNamed Bd.named Bd.method).1
  have X0 : Stand p l e room_1 (s.setVm s.vm) m #[(.int a0_), (.int a1_), (.int b0_), (.int b1_), (.int mode)] below meth cde s₁ [] 0 0 := Stand.of_body Bd
  have e0 : s₁.heap = h0 := by rw [← hh, Bd.state]; rfl
  have N0 := Fr.nil n0
  have hS0 : s.Since s.vm h0.size := (State.WarmedH.refl s).since _
  have hk0 : h0.size ≤ h0.size := Nat.le_refl _
  have hEL := own_EW hw
  have CH : CHr Z consts_1 s.vm h0 (s.setVm s.vm).vm h0 := CHr.refl hCH
  have k : own_K p.tables e below (s₁.setTop (entryFrame m #[(.int a0_), (.int a1_), (.int b0_), (.int b1_), (.int mode)] maxLocals)) (s₁.setTop (mkF m 0 #[.val (.int a0_), .val (.int a1_), .val (.int b0_), .val (.int b1_), .val (.int mode), .unset, .unset, .unset, .unset, .unset, .unset, .unset, .unset, .unset, .unset, .unset] [])) := fun t h => castTop (own_ef0 m a0_ a1_ b0_ b1_ mode) h
  replace k : own_K p.tables e below (s₁.setTop (entryFrame m #[(.int a0_), (.int a1_), (.int b0_), (.int b1_), (.int mode)] maxLocals)) (s₁.setTop (mkF m 1 #[.val (.int a0_), .val (.int a1_), .val (.int b0_), .val (.int b1_), .val (.int mode), .unset, .unset, .unset, .unset, .unset, .unset, .unset, .unset, .unset, .unset, .unset] [(.int (1 : Int32))])) := fun t h => k t (XS.iconst X0.here hx rfl (hb hby at_0) h)
  replace k : own_K p.tables e below (s₁.setTop (entryFrame m #[(.int a0_), (.int a1_), (.int b0_), (.int b1_), (.int mode)] maxLocals)) (s₁.setTop (mkF m 3 #[.val (.int a0_), .val (.int a1_), .val (.int b0_), .val (.int b1_), .val (.int mode), .unset, .unset, .unset, .unset, .unset, .unset, .unset, .unset, .unset, .unset, .unset] [(.int mode), (.int (1 : Int32))])) := fun t h => k t (XS.iload X0.here hx rfl (hb hby at_1) rfl h)
  replace k : own_K p.tables e below (s₁.setTop (entryFrame m #[(.int a0_), (.int a1_), (.int b0_), (.int b1_), (.int mode)] maxLocals)) (s₁.setTop (mkF m 4 #[.val (.int a0_), .val (.int a1_), .val (.int b0_), .val (.int b1_), .val (.int mode), .unset, .unset, .unset, .unset, .unset, .unset, .unset, .unset, .unset, .unset, .unset] [(.int (1 : Int32)), (.int mode), (.int (1 : Int32))])) := fun t h => k t (XS.iconst X0.here hx rfl (hb hby at_3) h)
  replace k : own_K p.tables e below (s₁.setTop (entryFrame m #[(.int a0_), (.int a1_), (.int b0_), (.int b1_), (.int mode)] maxLocals)) (s₁.setTop (mkF m 5 #[.val (.int a0_), .val (.int a1_), .val (.int b0_), .val (.int b1_), .val (.int mode), .unset, .unset, .unset, .unset, .unset, .unset, .unset, .unset, .unset, .unset, .unset] [(.int (mode &&& (1 : Int32))), (.int (1 : Int32))])) := fun t h => k t (XS.iand X0.here hx rfl (hb hby at_4) rfl h)
  replace k : own_K p.tables e below (s₁.setTop (entryFrame m #[(.int a0_), (.int a1_), (.int b0_), (.int b1_), (.int mode)] maxLocals)) (s₁.setTop (mkF m 6 #[.val (.int a0_), .val (.int a1_), .val (.int b0_), .val (.int b1_), .val (.int mode), .unset, .unset, .unset, .unset, .unset, .unset, .unset, .unset, .unset, .unset, .unset] [(.int ((1 : Int32) + (mode &&& (1 : Int32))))])) := fun t h => k t (XS.iadd X0.here hx rfl (hb hby at_5) rfl h)
  obtain ⟨lenA, hlenA⟩ : ∃ z, z = ((1 : Int32) + (mode &&& (1 : Int32))) := ⟨_, rfl⟩
  rw [← hlenA] at k
  have hA : lenA = (1 : Int32) ∨ lenA = (2 : Int32) := by rw [hlenA]; exact own_len _
  replace k : own_K p.tables e below (s₁.setTop (entryFrame m #[(.int a0_), (.int a1_), (.int b0_), (.int b1_), (.int mode)] maxLocals)) (s₁.setTop (mkF m 8 #[.val (.int a0_), .val (.int a1_), .val (.int b0_), .val (.int b1_), .val (.int mode), .val (.int lenA), .unset, .unset, .unset, .unset, .unset, .unset, .unset, .unset, .unset, .unset] [])) := fun t h => k t (XS.istore X0.here hx rfl (hb hby at_6) rfl (l' := #[.val (.int a0_), .val (.int a1_), .val (.int b0_), .val (.int b1_), .val (.int mode), .val (.int lenA), .unset, .unset, .unset, .unset, .unset, .unset, .unset, .unset, .unset, .unset]) rfl h)
  replace k : own_K p.tables e below (s₁.setTop (entryFrame m #[(.int a0_), (.int a1_), (.int b0_), (.int b1_), (.int mode)] maxLocals)) (s₁.setTop (mkF m 9 #[.val (.int a0_), .val (.int a1_), .val (.int b0_), .val (.int b1_), .val (.int mode), .val (.int lenA), .unset, .unset, .unset, .unset, .unset, .unset, .unset, .unset, .unset, .unset] [(.int (1 : Int32))])) := fun t h => k t (XS.iconst X0.here hx rfl (hb hby at_8) h)
  replace k : own_K p.tables e below (s₁.setTop (entryFrame m #[(.int a0_), (.int a1_), (.int b0_), (.int b1_), (.int mode)] maxLocals)) (s₁.setTop (mkF m 11 #[.val (.int a0_), .val (.int a1_), .val (.int b0_), .val (.int b1_), .val (.int mode), .val (.int lenA), .unset, .unset, .unset, .unset, .unset, .unset, .unset, .unset, .unset, .unset] [(.int mode), (.int (1 : Int32))])) := fun t h => k t (XS.iload X0.here hx rfl (hb hby at_9) rfl h)
  replace k : own_K p.tables e below (s₁.setTop (entryFrame m #[(.int a0_), (.int a1_), (.int b0_), (.int b1_), (.int mode)] maxLocals)) (s₁.setTop (mkF m 12 #[.val (.int a0_), .val (.int a1_), .val (.int b0_), .val (.int b1_), .val (.int mode), .val (.int lenA), .unset, .unset, .unset, .unset, .unset, .unset, .unset, .unset, .unset, .unset] [(.int (1 : Int32)), (.int mode), (.int (1 : Int32))])) := fun t h => k t (XS.iconst X0.here hx rfl (hb hby at_11) h)
  replace k : own_K p.tables e below (s₁.setTop (entryFrame m #[(.int a0_), (.int a1_), (.int b0_), (.int b1_), (.int mode)] maxLocals)) (s₁.setTop (mkF m 13 #[.val (.int a0_), .val (.int a1_), .val (.int b0_), .val (.int b1_), .val (.int mode), .val (.int lenA), .unset, .unset, .unset, .unset, .unset, .unset, .unset, .unset, .unset, .unset] [(.int ((mode.toUInt32 >>> ((1 : Int32) &&& 31).toUInt32).toInt32)), (.int (1 : Int32))])) := fun t h => k t (XS.iushr X0.here hx rfl (hb hby at_12) rfl h)
  replace k : own_K p.tables e below (s₁.setTop (entryFrame m #[(.int a0_), (.int a1_), (.int b0_), (.int b1_), (.int mode)] maxLocals)) (s₁.setTop (mkF m 14 #[.val (.int a0_), .val (.int a1_), .val (.int b0_), .val (.int b1_), .val (.int mode), .val (.int lenA), .unset, .unset, .unset, .unset, .unset, .unset, .unset, .unset, .unset, .unset] [(.int (1 : Int32)), (.int ((mode.toUInt32 >>> ((1 : Int32) &&& 31).toUInt32).toInt32)), (.int (1 : Int32))])) := fun t h => k t (XS.iconst X0.here hx rfl (hb hby at_13) h)
  replace k : own_K p.tables e below (s₁.setTop (entryFrame m #[(.int a0_), (.int a1_), (.int b0_), (.int b1_), (.int mode)] maxLocals)) (s₁.setTop (mkF m 15 #[.val (.int a0_), .val (.int a1_), .val (.int b0_), .val (.int b1_), .val (.int mode), .val (.int lenA), .unset, .unset, .unset, .unset, .unset, .unset, .unset, .unset, .unset, .unset] [(.int (((mode.toUInt32 >>> ((1 : Int32) &&& 31).toUInt32).toInt32) &&& (1 : Int32))), (.int (1 : Int32))])) := fun t h => k t (XS.iand X0.here hx rfl (hb hby at_14) rfl h)
  replace k : own_K p.tables e below (s₁.setTop (entryFrame m #[(.int a0_), (.int a1_), (.int b0_), (.int b1_), (.int mode)] maxLocals)) (s₁.setTop (mkF m 16 #[.val (.int a0_), .val (.int a1_), .val (.int b0_), .val (.int b1_), .val (.int mode), .val (.int lenA), .unset, .unset, .unset, .unset, .unset, .unset, .unset, .unset, .unset, .unset] [(.int ((1 : Int32) + (((mode.toUInt32 >>> ((1 : Int32) &&& 31).toUInt32).toInt32) &&& (1 : Int32))))])) := fun t h => k t (XS.iadd X0.here hx rfl (hb hby at_15) rfl h)
  obtain ⟨lenB, hlenB⟩ : ∃ z, z = ((1 : Int32) + (((mode.toUInt32 >>> ((1 : Int32) &&& 31).toUInt32).toInt32) &&& (1 : Int32))) := ⟨_, rfl⟩
  rw [← hlenB] at k
  have hB : lenB = (1 : Int32) ∨ lenB = (2 : Int32) := by rw [hlenB]; exact own_len _
  replace k : own_K p.tables e below (s₁.setTop (entryFrame m #[(.int a0_), (.int a1_), (.int b0_), (.int b1_), (.int mode)] maxLocals)) (s₁.setTop (mkF m 18 #[.val (.int a0_), .val (.int a1_), .val (.int b0_), .val (.int b1_), .val (.int mode), .val (.int lenA), .val (.int lenB), .unset, .unset, .unset, .unset, .unset, .unset, .unset, .unset, .unset] [])) := fun t h => k t (XS.istore X0.here hx rfl (hb hby at_16) rfl (l' := #[.val (.int a0_), .val (.int a1_), .val (.int b0_), .val (.int b1_), .val (.int mode), .val (.int lenA), .val (.int lenB), .unset, .unset, .unset, .unset, .unset, .unset, .unset, .unset, .unset]) rfl h)
  replace k : own_K p.tables e below (s₁.setTop (entryFrame m #[(.int a0_), (.int a1_), (.int b0_), (.int b1_), (.int mode)] maxLocals)) (s₁.setTop (mkF m 20 #[.val (.int a0_), .val (.int a1_), .val (.int b0_), .val (.int b1_), .val (.int mode), .val (.int lenA), .val (.int lenB), .unset, .unset, .unset, .unset, .unset, .unset, .unset, .unset, .unset] [(.int mode)])) := fun t h => k t (XS.iload X0.here hx rfl (hb hby at_18) rfl h)
  replace k : own_K p.tables e below (s₁.setTop (entryFrame m #[(.int a0_), (.int a1_), (.int b0_), (.int b1_), (.int mode)] maxLocals)) (s₁.setTop (mkF m 21 #[.val (.int a0_), .val (.int a1_), .val (.int b0_), .val (.int b1_), .val (.int mode), .val (.int lenA), .val (.int lenB), .unset, .unset, .unset, .unset, .unset, .unset, .unset, .unset, .unset] [(.int (2 : Int32)), (.int mode)])) := fun t h => k t (XS.iconst X0.here hx rfl (hb hby at_20) h)
  replace k : own_K p.tables e below (s₁.setTop (entryFrame m #[(.int a0_), (.int a1_), (.int b0_), (.int b1_), (.int mode)] maxLocals)) (s₁.setTop (mkF m 22 #[.val (.int a0_), .val (.int a1_), .val (.int b0_), .val (.int b1_), .val (.int mode), .val (.int lenA), .val (.int lenB), .unset, .unset, .unset, .unset, .unset, .unset, .unset, .unset, .unset] [(.int ((mode.toUInt32 >>> ((2 : Int32) &&& 31).toUInt32).toInt32))])) := fun t h => k t (XS.iushr X0.here hx rfl (hb hby at_21) rfl h)
  replace k : own_K p.tables e below (s₁.setTop (entryFrame m #[(.int a0_), (.int a1_), (.int b0_), (.int b1_), (.int mode)] maxLocals)) (s₁.setTop (mkF m 23 #[.val (.int a0_), .val (.int a1_), .val (.int b0_), .val (.int b1_), .val (.int mode), .val (.int lenA), .val (.int lenB), .unset, .unset, .unset, .unset, .unset, .unset, .unset, .unset, .unset] [(.int (3 : Int32)), (.int ((mode.toUInt32 >>> ((2 : Int32) &&& 31).toUInt32).toInt32))])) := fun t h => k t (XS.iconst X0.here hx rfl (hb hby at_22) h)
  replace k : own_K p.tables e below (s₁.setTop (entryFrame m #[(.int a0_), (.int a1_), (.int b0_), (.int b1_), (.int mode)] maxLocals)) (s₁.setTop (mkF m 24 #[.val (.int a0_), .val (.int a1_), .val (.int b0_), .val (.int b1_), .val (.int mode), .val (.int lenA), .val (.int lenB), .unset, .unset, .unset, .unset, .unset, .unset, .unset, .unset, .unset] [(.int (((mode.toUInt32 >>> ((2 : Int32) &&& 31).toUInt32).toInt32) &&& (3 : Int32)))])) := fun t h => k t (XS.iand X0.here hx rfl (hb hby at_23) rfl h)
  obtain ⟨kind, hkind⟩ : ∃ z, z = (((mode.toUInt32 >>> ((2 : Int32) &&& 31).toUInt32).toInt32) &&& (3 : Int32)) := ⟨_, rfl⟩
  rw [← hkind] at k
  replace k : own_K p.tables e below (s₁.setTop (entryFrame m #[(.int a0_), (.int a1_), (.int b0_), (.int b1_), (.int mode)] maxLocals)) (s₁.setTop (mkF m 26 #[.val (.int a0_), .val (.int a1_), .val (.int b0_), .val (.int b1_), .val (.int mode), .val (.int lenA), .val (.int lenB), .val (.int kind), .unset, .unset, .unset, .unset, .unset, .unset, .unset, .unset] [])) := fun t h => k t (XS.istore X0.here hx rfl (hb hby at_24) rfl (l' := #[.val (.int a0_), .val (.int a1_), .val (.int b0_), .val (.int b1_), .val (.int mode), .val (.int lenA), .val (.int lenB), .val (.int kind), .unset, .unset, .unset, .unset, .unset, .unset, .unset, .unset]) rfl h)
  refine cps (A := ∃ (TJ : State) (cp ca0 ca1 cb0 cb1 : Int32) (LJ : List Loc), Fr n0 LJ ∧ Stand p l e room_1 (s.setVm s.vm) m #[(.int a0_), (.int a1_), (.int b0_), (.int b1_), (.int mode)] below meth cde TJ LJ 0 0 ∧ TJ.heap = h0 ∧ own_ok ca0 ∧ own_ok ca1 ∧ own_ok cb0 ∧ own_ok cb1 ∧ own_K p.tables e below (s₁.setTop (entryFrame m #[(.int a0_), (.int a1_), (.int b0_), (.int b1_), (.int mode)] maxLocals)) (TJ.setTop (mkF m 85 #[.val (.int a0_), .val (.int a1_), .val (.int b0_), .val (.int b1_), .val (.int mode), .val (.int lenA), .val (.int lenB), .val (.int kind), .val (.int cp), .val (.int ca0), .val (.int ca1), .val (.int cb0), .val (.int cb1), .unset, .unset, .unset] []))) (fun tail => ?_) ?_
  · replace k : own_K p.tables e below (s₁.setTop (entryFrame m #[(.int a0_), (.int a1_), (.int b0_), (.int b1_), (.int mode)] maxLocals)) (s₁.setTop (mkF m 28 #[.val (.int a0_), .val (.int a1_), .val (.int b0_), .val (.int b1_), .val (.int mode), .val (.int lenA), .val (.int lenB), .val (.int kind), .unset, .unset, .unset, .unset, .unset, .unset, .unset, .unset] [(.int mode)])) := fun t h => k t (XS.iload X0.here hx rfl (hb hby at_26) rfl h)
    replace k : own_K p.tables e below (s₁.setTop (entryFrame m #[(.int a0_), (.int a1_), (.int b0_), (.int b1_), (.int mode)] maxLocals)) (s₁.setTop (mkF m 30 #[.val (.int a0_), .val (.int a1_), .val (.int b0_), .val (.int b1_), .val (.int mode), .val (.int lenA), .val (.int lenB), .val (.int kind), .unset, .unset, .unset, .unset, .unset, .unset, .unset, .unset] [(.int (16 : Int32)), (.int mode)])) := fun t h => k t (XS.bipush X0.here hx rfl (hb hby at_28) h)
    replace k : own_K p.tables e below (s₁.setTop (entryFrame m #[(.int a0_), (.int a1_), (.int b0_), (.int b1_), (.int mode)] maxLocals)) (s₁.setTop (mkF m 31 #[.val (.int a0_), .val (.int a1_), .val (.int b0_), .val (.int b1_), .val (.int mode), .val (.int lenA), .val (.int lenB), .val (.int kind), .unset, .unset, .unset, .unset, .unset, .unset, .unset, .unset] [(.int (mode &&& (16 : Int32)))])) := fun t h => k t (XS.iand X0.here hx rfl (hb hby at_30) rfl h)
    by_cases cc1 : (mode &&& (16 : Int32)) = (0 : Int32)
    · replace k : own_K p.tables e below (s₁.setTop (entryFrame m #[(.int a0_), (.int a1_), (.int b0_), (.int b1_), (.int mode)] maxLocals)) (s₁.setTop (mkF m 38 #[.val (.int a0_), .val (.int a1_), .val (.int b0_), .val (.int b1_), .val (.int mode), .val (.int lenA), .val (.int lenB), .val (.int kind), .unset, .unset, .unset, .unset, .unset, .unset, .unset, .unset] [])) := fun t h => k t (XS.ifYes X0.here hx rfl (pc0 := 31) (pc' := 38) rfl (hb hby at_31) rfl ((if0 _ _).trans (teq cc1).1) (by decide) (by decide) h)
      replace k : own_K p.tables e below (s₁.setTop (entryFrame m #[(.int a0_), (.int a1_), (.int b0_), (.int b1_), (.int mode)] maxLocals)) (s₁.setTop (mkF m 39 #[.val (.int a0_), .val (.int a1_), .val (.int b0_), .val (.int b1_), .val (.int mode), .val (.int lenA), .val (.int lenB), .val (.int kind), .unset, .unset, .unset, .unset, .unset, .unset, .unset, .unset] [(.int (0 : Int32))])) := fun t h => k t (XS.iconst X0.here hx rfl (hb hby at_38) h)
      replace k : own_K p.tables e below (s₁.setTop (entryFrame m #[(.int a0_), (.int a1_), (.int b0_), (.int b1_), (.int mode)] maxLocals)) (s₁.setTop (mkF m 41 #[.val (.int a0_), .val (.int a1_), .val (.int b0_), .val (.int b1_), .val (.int mode), .val (.int lenA), .val (.int lenB), .val (.int kind), .val (.int (0 : Int32)), .unset, .unset, .unset, .unset, .unset, .unset, .unset] [])) := fun t h => k t (XS.istore X0.here hx rfl (hb hby at_39) rfl (l' := #[.val (.int a0_), .val (.int a1_), .val (.int b0_), .val (.int b1_), .val (.int mode), .val (.int lenA), .val (.int lenB), .val (.int kind), .val (.int (0 : Int32)), .unset, .unset, .unset, .unset, .unset, .unset, .unset]) rfl h)
      replace k : own_K p.tables e below (s₁.setTop (entryFrame m #[(.int a0_), (.int a1_), (.int b0_), (.int b1_), (.int mode)] maxLocals)) (s₁.setTop (mkF m 42 #[.val (.int a0_), .val (.int a1_), .val (.int b0_), .val (.int b1_), .val (.int mode), .val (.int lenA), .val (.int lenB), .val (.int kind), .val (.int (0 : Int32)), .unset, .unset, .unset, .unset, .unset, .unset, .unset] [(.int a0_)])) := fun t h => k t (XS.iloadN X0.here hx rfl (hb hby at_41) rfl h)
      obtain ⟨_, _, ⟨T3, L3, kk3, n3⟩, -, X3, ⟨Lc3, hQ3, l3, y3, z3⟩, st3⟩ := Jvm.LawKit.callS X0 hx (y := (⟨"com/example/ferrolho/ferrolho/lock/LockNameEqualsPinLaw", "allowed", "(I)C"⟩ : MethodName)) hown (mvT hZ (hw _ (List.mem_of_getElem? (i := 0) rfl))) (mvT hZ (hw _ (List.mem_of_getElem? (i := 1) rfl))) (mvT hZ (hw _ (List.mem_of_getElem? (i := 2) rfl))) (mvT hZ (hw _ (List.mem_of_getElem? (i := 3) rfl))) (by decide) (backOf (W := 0) (rm19 l Z a0 hw [] a0_ h0 n0) hZ (hw _ (List.mem_of_getElem? (i := 3) rfl)) (hw _ (List.mem_of_getElem? (i := 2) rfl)) (by decide) (by decide)) (g := (mkF m 42 #[.val (.int a0_), .val (.int a1_), .val (.int b0_), .val (.int b1_), .val (.int mode), .val (.int lenA), .val (.int lenB), .val (.int kind), .val (.int (0 : Int32)), .unset, .unset, .unset, .unset, .unset, .unset, .unset] [(.int a0_)])) rfl (by rw [hml]; rfl) (argsL := [(.int a0_)]) (rest := []) (lenOf own_pd9 rfl) rfl (by show 2 * 0 + _ ≤ _; exact Nat.le_of_eq rfl) (hb hby at_42) (fun _ _ => ⟨rfl, e0, (by decide : 0 + 0 ≤ _), (by decide : 0 + 0 ≤ _)⟩)
      dsimp only [Pt.U, Pt.locs, Pt.cells, Pt.slots] at X3 l3 y3 z3 st3 hQ3
      subst l3 y3 z3
      obtain ⟨rfl, N3q, eq2⟩ := hQ3
      have N3 := Fr.app N0 N3q
      replace k : own_K p.tables e below (s₁.setTop (entryFrame m #[(.int a0_), (.int a1_), (.int b0_), (.int b1_), (.int mode)] maxLocals)) (T3.setTop (mkF m 45 #[.val (.int a0_), .val (.int a1_), .val (.int b0_), .val (.int b1_), .val (.int mode), .val (.int lenA), .val (.int lenB), .val (.int kind), .val (.int (0 : Int32)), .unset, .unset, .unset, .unset, .unset, .unset, .unset] [(.int (own_alk ((a0_ &&& (2147483647 : Int32)) % (67 : Int32))))])) := fun t h => k t (st3 _ h)
      replace k : own_K p.tables e below (s₁.setTop (entryFrame m #[(.int a0_), (.int a1_), (.int b0_), (.int b1_), (.int mode)] maxLocals)) (T3.setTop (mkF m 47 #[.val (.int a0_), .val (.int a1_), .val (.int b0_), .val (.int b1_), .val (.int mode), .val (.int lenA), .val (.int lenB), .val (.int kind), .val (.int (0 : Int32)), .val (.int (own_alk ((a0_ &&& (2147483647 : Int32)) % (67 : Int32)))), .unset, .unset, .unset, .unset, .unset, .unset] [])) := fun t h => k t (XS.istore X3.here hx rfl (hb hby at_45) rfl (l' := #[.val (.int a0_), .val (.int a1_), .val (.int b0_), .val (.int b1_), .val (.int mode), .val (.int lenA), .val (.int lenB), .val (.int kind), .val (.int (0 : Int32)), .val (.int (own_alk ((a0_ &&& (2147483647 : Int32)) % (67 : Int32)))), .unset, .unset, .unset, .unset, .unset, .unset]) rfl h)
      replace k : own_K p.tables e below (s₁.setTop (entryFrame m #[(.int a0_), (.int a1_), (.int b0_), (.int b1_), (.int mode)] maxLocals)) (T3.setTop (mkF m 48 #[.val (.int a0_), .val (.int a1_), .val (.int b0_), .val (.int b1_), .val (.int mode), .val (.int lenA), .val (.int lenB), .val (.int kind), .val (.int (0 : Int32)), .val (.int (own_alk ((a0_ &&& (2147483647 : Int32)) % (67 : Int32)))), .unset, .unset, .unset, .unset, .unset, .unset] [(.int a1_)])) := fun t h => k t (XS.iloadN X3.here hx rfl (hb hby at_47) rfl h)
      obtain ⟨_, _, ⟨T5, L5, kk5, n5⟩, -, X5, ⟨Lc5, hQ5, l5, y5, z5⟩, st5⟩ := Jvm.LawKit.callS X3 hx (y := (⟨"com/example/ferrolho/ferrolho/lock/LockNameEqualsPinLaw", "allowed", "(I)C"⟩ : MethodName)) hown (mvT hZ (hw _ (List.mem_of_getElem? (i := 0) rfl))) (mvT hZ (hw _ (List.mem_of_getElem? (i := 1) rfl))) (mvT hZ (hw _ (List.mem_of_getElem? (i := 2) rfl))) (mvT hZ (hw _ (List.mem_of_getElem? (i := 3) rfl))) (by decide) (backOf (W := 0) (rm19 l Z a0 hw [] a1_ h0 n0) hZ (hw _ (List.mem_of_getElem? (i := 3) rfl)) (hw _ (List.mem_of_getElem? (i := 2) rfl)) (by decide) (by decide)) (g := (mkF m 48 #[.val (.int a0_), .val (.int a1_), .val (.int b0_), .val (.int b1_), .val (.int mode), .val (.int lenA), .val (.int lenB), .val (.int kind), .val (.int (0 : Int32)), .val (.int (own_alk ((a0_ &&& (2147483647 : Int32)) % (67 : Int32)))), .unset, .unset, .unset, .unset, .unset, .unset] [(.int a1_)])) rfl (by rw [hml]; rfl) (argsL := [(.int a1_)]) (rest := []) (lenOf own_pd9 rfl) rfl (by show 2 * 0 + _ ≤ _; exact Nat.le_of_eq rfl) (hb hby at_48) (fun _ _ => ⟨rfl, eq2, (by decide : 0 + 0 ≤ _), (by decide : 0 + 0 ≤ _)⟩)
      dsimp only [Pt.U, Pt.locs, Pt.cells, Pt.slots] at X5 l5 y5 z5 st5 hQ5
      subst l5 y5 z5
      obtain ⟨rfl, N5q, eq4⟩ := hQ5
      have N5 := Fr.app N3 N5q
      replace k : own_K p.tables e below (s₁.setTop (entryFrame m #[(.int a0_), (.int a1_), (.int b0_), (.int b1_), (.int mode)] maxLocals)) (T5.setTop (mkF m 51 #[.val (.int a0_), .val (.int a1_), .val (.int b0_), .val (.int b1_), .val (.int mode), .val (.int lenA), .val (.int lenB), .val (.int kind), .val (.int (0 : Int32)), .val (.int (own_alk ((a0_ &&& (2147483647 : Int32)) % (67 : Int32)))), .unset, .unset, .unset, .unset, .unset, .unset] [(.int (own_alk ((a1_ &&& (2147483647 : Int32)) % (67 : Int32))))])) := fun t h => k t (st5 _ h)
      replace k : own_K p.tables e below (s₁.setTop (entryFrame m #[(.int a0_), (.int a1_), (.int b0_), (.int b1_), (.int mode)] maxLocals)) (T5.setTop (mkF m 53 #[.val (.int a0_), .val (.int a1_), .val (.int b0_), .val (.int b1_), .val (.int mode), .val (.int lenA), .val (.int lenB), .val (.int kind), .val (.int (0 : Int32)), .val (.int (own_alk ((a0_ &&& (2147483647 : Int32)) % (67 : Int32)))), .val (.int (own_alk ((a1_ &&& (2147483647 : Int32)) % (67 : Int32)))), .unset, .unset, .unset, .unset, .unset] [])) := fun t h => k t (XS.istore X5.here hx rfl (hb hby at_51) rfl (l' := #[.val (.int a0_), .val (.int a1_), .val (.int b0_), .val (.int b1_), .val (.int mode), .val (.int lenA), .val (.int lenB), .val (.int kind), .val (.int (0 : Int32)), .val (.int (own_alk ((a0_ &&& (2147483647 : Int32)) % (67 : Int32)))), .val (.int (own_alk ((a1_ &&& (2147483647 : Int32)) % (67 : Int32)))), .unset, .unset, .unset, .unset, .unset]) rfl h)
      replace k : own_K p.tables e below (s₁.setTop (entryFrame m #[(.int a0_), (.int a1_), (.int b0_), (.int b1_), (.int mode)] maxLocals)) (T5.setTop (mkF m 55 #[.val (.int a0_), .val (.int a1_), .val (.int b0_), .val (.int b1_), .val (.int mode), .val (.int lenA), .val (.int lenB), .val (.int kind), .val (.int (0 : Int32)), .val (.int (own_alk ((a0_ &&& (2147483647 : Int32)) % (67 : Int32)))), .val (.int (own_alk ((a1_ &&& (2147483647 : Int32)) % (67 : Int32)))), .unset, .unset, .unset, .unset, .unset] [(.int (0 : Int32))])) := fun t h => k t (XS.iload X5.here hx rfl (hb hby at_53) rfl h)
      replace k : own_K p.tables e below (s₁.setTop (entryFrame m #[(.int a0_), (.int a1_), (.int b0_), (.int b1_), (.int mode)] maxLocals)) (T5.setTop (mkF m 63 #[.val (.int a0_), .val (.int a1_), .val (.int b0_), .val (.int b1_), .val (.int mode), .val (.int lenA), .val (.int lenB), .val (.int kind), .val (.int (0 : Int32)), .val (.int (own_alk ((a0_ &&& (2147483647 : Int32)) % (67 : Int32)))), .val (.int (own_alk ((a1_ &&& (2147483647 : Int32)) % (67 : Int32)))), .unset, .unset, .unset, .unset, .unset] [])) := fun t h => k t (XS.ifYes X5.here hx rfl (pc0 := 55) (pc' := 63) rfl (hb hby at_55) rfl ((if0 _ _).trans (teq rfl).1) (by decide) (by decide) h)
      replace k : own_K p.tables e below (s₁.setTop (entryFrame m #[(.int a0_), (.int a1_), (.int b0_), (.int b1_), (.int mode)] maxLocals)) (T5.setTop (mkF m 64 #[.val (.int a0_), .val (.int a1_), .val (.int b0_), .val (.int b1_), .val (.int mode), .val (.int lenA), .val (.int lenB), .val (.int kind), .val (.int (0 : Int32)), .val (.int (own_alk ((a0_ &&& (2147483647 : Int32)) % (67 : Int32)))), .val (.int (own_alk ((a1_ &&& (2147483647 : Int32)) % (67 : Int32)))), .unset, .unset, .unset, .unset, .unset] [(.int b0_)])) := fun t h => k t (XS.iloadN X5.here hx rfl (hb hby at_63) rfl h)
      obtain ⟨_, _, ⟨T7, L7, kk7, n7⟩, -, X7, ⟨Lc7, hQ7, l7, y7, z7⟩, st7⟩ := Jvm.LawKit.callS X5 hx (y := (⟨"com/example/ferrolho/ferrolho/lock/LockNameEqualsPinLaw", "allowed", "(I)C"⟩ : MethodName)) hown (mvT hZ (hw _ (List.mem_of_getElem? (i := 0) rfl))) (mvT hZ (hw _ (List.mem_of_getElem? (i := 1) rfl))) (mvT hZ (hw _ (List.mem_of_getElem? (i := 2) rfl))) (mvT hZ (hw _ (List.mem_of_getElem? (i := 3) rfl))) (by decide) (backOf (W := 0) (rm19 l Z a0 hw [] b0_ h0 n0) hZ (hw _ (List.mem_of_getElem? (i := 3) rfl)) (hw _ (List.mem_of_getElem? (i := 2) rfl)) (by decide) (by decide)) (g := (mkF m 64 #[.val (.int a0_), .val (.int a1_), .val (.int b0_), .val (.int b1_), .val (.int mode), .val (.int lenA), .val (.int lenB), .val (.int kind), .val (.int (0 : Int32)), .val (.int (own_alk ((a0_ &&& (2147483647 : Int32)) % (67 : Int32)))), .val (.int (own_alk ((a1_ &&& (2147483647 : Int32)) % (67 : Int32)))), .unset, .unset, .unset, .unset, .unset] [(.int b0_)])) rfl (by rw [hml]; rfl) (argsL := [(.int b0_)]) (rest := []) (lenOf own_pd9 rfl) rfl (by show 2 * 0 + _ ≤ _; exact Nat.le_of_eq rfl) (hb hby at_64) (fun _ _ => ⟨rfl, eq4, (by decide : 0 + 0 ≤ _), (by decide : 0 + 0 ≤ _)⟩)
      dsimp only [Pt.U, Pt.locs, Pt.cells, Pt.slots] at X7 l7 y7 z7 st7 hQ7
      subst l7 y7 z7
      obtain ⟨rfl, N7q, eq6⟩ := hQ7
      have N7 := Fr.app N5 N7q
      replace k : own_K p.tables e below (s₁.setTop (entryFrame m #[(.int a0_), (.int a1_), (.int b0_), (.int b1_), (.int mode)] maxLocals)) (T7.setTop (mkF m 67 #[.val (.int a0_), .val (.int a1_), .val (.int b0_), .val (.int b1_), .val (.int mode), .val (.int lenA), .val (.int lenB), .val (.int kind), .val (.int (0 : Int32)), .val (.int (own_alk ((a0_ &&& (2147483647 : Int32)) % (67 : Int32)))), .val (.int (own_alk ((a1_ &&& (2147483647 : Int32)) % (67 : Int32)))), .unset, .unset, .unset, .unset, .unset] [(.int (own_alk ((b0_ &&& (2147483647 : Int32)) % (67 : Int32))))])) := fun t h => k t (st7 _ h)
      replace k : own_K p.tables e below (s₁.setTop (entryFrame m #[(.int a0_), (.int a1_), (.int b0_), (.int b1_), (.int mode)] maxLocals)) (T7.setTop (mkF m 69 #[.val (.int a0_), .val (.int a1_), .val (.int b0_), .val (.int b1_), .val (.int mode), .val (.int lenA), .val (.int lenB), .val (.int kind), .val (.int (0 : Int32)), .val (.int (own_alk ((a0_ &&& (2147483647 : Int32)) % (67 : Int32)))), .val (.int (own_alk ((a1_ &&& (2147483647 : Int32)) % (67 : Int32)))), .val (.int (own_alk ((b0_ &&& (2147483647 : Int32)) % (67 : Int32)))), .unset, .unset, .unset, .unset] [])) := fun t h => k t (XS.istore X7.here hx rfl (hb hby at_67) rfl (l' := #[.val (.int a0_), .val (.int a1_), .val (.int b0_), .val (.int b1_), .val (.int mode), .val (.int lenA), .val (.int lenB), .val (.int kind), .val (.int (0 : Int32)), .val (.int (own_alk ((a0_ &&& (2147483647 : Int32)) % (67 : Int32)))), .val (.int (own_alk ((a1_ &&& (2147483647 : Int32)) % (67 : Int32)))), .val (.int (own_alk ((b0_ &&& (2147483647 : Int32)) % (67 : Int32)))), .unset, .unset, .unset, .unset]) rfl h)
      replace k : own_K p.tables e below (s₁.setTop (entryFrame m #[(.int a0_), (.int a1_), (.int b0_), (.int b1_), (.int mode)] maxLocals)) (T7.setTop (mkF m 71 #[.val (.int a0_), .val (.int a1_), .val (.int b0_), .val (.int b1_), .val (.int mode), .val (.int lenA), .val (.int lenB), .val (.int kind), .val (.int (0 : Int32)), .val (.int (own_alk ((a0_ &&& (2147483647 : Int32)) % (67 : Int32)))), .val (.int (own_alk ((a1_ &&& (2147483647 : Int32)) % (67 : Int32)))), .val (.int (own_alk ((b0_ &&& (2147483647 : Int32)) % (67 : Int32)))), .unset, .unset, .unset, .unset] [(.int (0 : Int32))])) := fun t h => k t (XS.iload X7.here hx rfl (hb hby at_69) rfl h)
      replace k : own_K p.tables e below (s₁.setTop (entryFrame m #[(.int a0_), (.int a1_), (.int b0_), (.int b1_), (.int mode)] maxLocals)) (T7.setTop (mkF m 79 #[.val (.int a0_), .val (.int a1_), .val (.int b0_), .val (.int b1_), .val (.int mode), .val (.int lenA), .val (.int lenB), .val (.int kind), .val (.int (0 : Int32)), .val (.int (own_alk ((a0_ &&& (2147483647 : Int32)) % (67 : Int32)))), .val (.int (own_alk ((a1_ &&& (2147483647 : Int32)) % (67 : Int32)))), .val (.int (own_alk ((b0_ &&& (2147483647 : Int32)) % (67 : Int32)))), .unset, .unset, .unset, .unset] [])) := fun t h => k t (XS.ifYes X7.here hx rfl (pc0 := 71) (pc' := 79) rfl (hb hby at_71) rfl ((if0 _ _).trans (teq rfl).1) (by decide) (by decide) h)
      replace k : own_K p.tables e below (s₁.setTop (entryFrame m #[(.int a0_), (.int a1_), (.int b0_), (.int b1_), (.int mode)] maxLocals)) (T7.setTop (mkF m 80 #[.val (.int a0_), .val (.int a1_), .val (.int b0_), .val (.int b1_), .val (.int mode), .val (.int lenA), .val (.int lenB), .val (.int kind), .val (.int (0 : Int32)), .val (.int (own_alk ((a0_ &&& (2147483647 : Int32)) % (67 : Int32)))), .val (.int (own_alk ((a1_ &&& (2147483647 : Int32)) % (67 : Int32)))), .val (.int (own_alk ((b0_ &&& (2147483647 : Int32)) % (67 : Int32)))), .unset, .unset, .unset, .unset] [(.int b1_)])) := fun t h => k t (XS.iloadN X7.here hx rfl (hb hby at_79) rfl h)
      obtain ⟨_, _, ⟨T9, L9, kk9, n9⟩, -, X9, ⟨Lc9, hQ9, l9, y9, z9⟩, st9⟩ := Jvm.LawKit.callS X7 hx (y := (⟨"com/example/ferrolho/ferrolho/lock/LockNameEqualsPinLaw", "allowed", "(I)C"⟩ : MethodName)) hown (mvT hZ (hw _ (List.mem_of_getElem? (i := 0) rfl))) (mvT hZ (hw _ (List.mem_of_getElem? (i := 1) rfl))) (mvT hZ (hw _ (List.mem_of_getElem? (i := 2) rfl))) (mvT hZ (hw _ (List.mem_of_getElem? (i := 3) rfl))) (by decide) (backOf (W := 0) (rm19 l Z a0 hw [] b1_ h0 n0) hZ (hw _ (List.mem_of_getElem? (i := 3) rfl)) (hw _ (List.mem_of_getElem? (i := 2) rfl)) (by decide) (by decide)) (g := (mkF m 80 #[.val (.int a0_), .val (.int a1_), .val (.int b0_), .val (.int b1_), .val (.int mode), .val (.int lenA), .val (.int lenB), .val (.int kind), .val (.int (0 : Int32)), .val (.int (own_alk ((a0_ &&& (2147483647 : Int32)) % (67 : Int32)))), .val (.int (own_alk ((a1_ &&& (2147483647 : Int32)) % (67 : Int32)))), .val (.int (own_alk ((b0_ &&& (2147483647 : Int32)) % (67 : Int32)))), .unset, .unset, .unset, .unset] [(.int b1_)])) rfl (by rw [hml]; rfl) (argsL := [(.int b1_)]) (rest := []) (lenOf own_pd9 rfl) rfl (by show 2 * 0 + _ ≤ _; exact Nat.le_of_eq rfl) (hb hby at_80) (fun _ _ => ⟨rfl, eq6, (by decide : 0 + 0 ≤ _), (by decide : 0 + 0 ≤ _)⟩)
      dsimp only [Pt.U, Pt.locs, Pt.cells, Pt.slots] at X9 l9 y9 z9 st9 hQ9
      subst l9 y9 z9
      obtain ⟨rfl, N9q, eq8⟩ := hQ9
      have N9 := Fr.app N7 N9q
      replace k : own_K p.tables e below (s₁.setTop (entryFrame m #[(.int a0_), (.int a1_), (.int b0_), (.int b1_), (.int mode)] maxLocals)) (T9.setTop (mkF m 83 #[.val (.int a0_), .val (.int a1_), .val (.int b0_), .val (.int b1_), .val (.int mode), .val (.int lenA), .val (.int lenB), .val (.int kind), .val (.int (0 : Int32)), .val (.int (own_alk ((a0_ &&& (2147483647 : Int32)) % (67 : Int32)))), .val (.int (own_alk ((a1_ &&& (2147483647 : Int32)) % (67 : Int32)))), .val (.int (own_alk ((b0_ &&& (2147483647 : Int32)) % (67 : Int32)))), .unset, .unset, .unset, .unset] [(.int (own_alk ((b1_ &&& (2147483647 : Int32)) % (67 : Int32))))])) := fun t h => k t (st9 _ h)
      replace k : own_K p.tables e below (s₁.setTop (entryFrame m #[(.int a0_), (.int a1_), (.int b0_), (.int b1_), (.int mode)] maxLocals)) (T9.setTop (mkF m 85 #[.val (.int a0_), .val (.int a1_), .val (.int b0_), .val (.int b1_), .val (.int mode), .val (.int lenA), .val (.int lenB), .val (.int kind), .val (.int (0 : Int32)), .val (.int (own_alk ((a0_ &&& (2147483647 : Int32)) % (67 : Int32)))), .val (.int (own_alk ((a1_ &&& (2147483647 : Int32)) % (67 : Int32)))), .val (.int (own_alk ((b0_ &&& (2147483647 : Int32)) % (67 : Int32)))), .val (.int (own_alk ((b1_ &&& (2147483647 : Int32)) % (67 : Int32)))), .unset, .unset, .unset] [])) := fun t h => k t (XS.istore X9.here hx rfl (hb hby at_83) rfl (l' := #[.val (.int a0_), .val (.int a1_), .val (.int b0_), .val (.int b1_), .val (.int mode), .val (.int lenA), .val (.int lenB), .val (.int kind), .val (.int (0 : Int32)), .val (.int (own_alk ((a0_ &&& (2147483647 : Int32)) % (67 : Int32)))), .val (.int (own_alk ((a1_ &&& (2147483647 : Int32)) % (67 : Int32)))), .val (.int (own_alk ((b0_ &&& (2147483647 : Int32)) % (67 : Int32)))), .val (.int (own_alk ((b1_ &&& (2147483647 : Int32)) % (67 : Int32)))), .unset, .unset, .unset]) rfl h)
      exact tail ⟨T9, (0 : Int32), (own_alk ((a0_ &&& (2147483647 : Int32)) % (67 : Int32))), (own_alk ((a1_ &&& (2147483647 : Int32)) % (67 : Int32))), (own_alk ((b0_ &&& (2147483647 : Int32)) % (67 : Int32))), (own_alk ((b1_ &&& (2147483647 : Int32)) % (67 : Int32))), _, N9, X9, eq8, (own_alk_ok (own_rng a0_).1 (own_rng a0_).2), (own_alk_ok (own_rng a1_).1 (own_rng a1_).2), (own_alk_ok (own_rng b0_).1 (own_rng b0_).2), (own_alk_ok (own_rng b1_).1 (own_rng b1_).2), k⟩
    · replace k : own_K p.tables e below (s₁.setTop (entryFrame m #[(.int a0_), (.int a1_), (.int b0_), (.int b1_), (.int mode)] maxLocals)) (s₁.setTop (mkF m 34 #[.val (.int a0_), .val (.int a1_), .val (.int b0_), .val (.int b1_), .val (.int mode), .val (.int lenA), .val (.int lenB), .val (.int kind), .unset, .unset, .unset, .unset, .unset, .unset, .unset, .unset] [])) := fun t h => k t (XS.ifNo X0.here hx rfl (hb hby at_31) rfl ((if0 _ _).trans (feq cc1).1) h)
      replace k : own_K p.tables e below (s₁.setTop (entryFrame m #[(.int a0_), (.int a1_), (.int b0_), (.int b1_), (.int mode)] maxLocals)) (s₁.setTop (mkF m 35 #[.val (.int a0_), .val (.int a1_), .val (.int b0_), .val (.int b1_), .val (.int mode), .val (.int lenA), .val (.int lenB), .val (.int kind), .unset, .unset, .unset, .unset, .unset, .unset, .unset, .unset] [(.int (1 : Int32))])) := fun t h => k t (XS.iconst X0.here hx rfl (hb hby at_34) h)
      replace k : own_K p.tables e below (s₁.setTop (entryFrame m #[(.int a0_), (.int a1_), (.int b0_), (.int b1_), (.int mode)] maxLocals)) (s₁.setTop (mkF m 39 #[.val (.int a0_), .val (.int a1_), .val (.int b0_), .val (.int b1_), .val (.int mode), .val (.int lenA), .val (.int lenB), .val (.int kind), .unset, .unset, .unset, .unset, .unset, .unset, .unset, .unset] [(.int (1 : Int32))])) := fun t h => k t (XS.goto X0.here hx rfl (pc0 := 35) (pc' := 39) rfl (hb hby at_35) (by decide) (by decide) h)
      replace k : own_K p.tables e below (s₁.setTop (entryFrame m #[(.int a0_), (.int a1_), (.int b0_), (.int b1_), (.int mode)] maxLocals)) (s₁.setTop (mkF m 41 #[.val (.int a0_), .val (.int a1_), .val (.int b0_), .val (.int b1_), .val (.int mode), .val (.int lenA), .val (.int lenB), .val (.int kind), .val (.int (1 : Int32)), .unset, .unset, .unset, .unset, .unset, .unset, .unset] [])) := fun t h => k t (XS.istore X0.here hx rfl (hb hby at_39) rfl (l' := #[.val (.int a0_), .val (.int a1_), .val (.int b0_), .val (.int b1_), .val (.int mode), .val (.int lenA), .val (.int lenB), .val (.int kind), .val (.int (1 : Int32)), .unset, .unset, .unset, .unset, .unset, .unset, .unset]) rfl h)
      replace k : own_K p.tables e below (s₁.setTop (entryFrame m #[(.int a0_), (.int a1_), (.int b0_), (.int b1_), (.int mode)] maxLocals)) (s₁.setTop (mkF m 42 #[.val (.int a0_), .val (.int a1_), .val (.int b0_), .val (.int b1_), .val (.int mode), .val (.int lenA), .val (.int lenB), .val (.int kind), .val (.int (1 : Int32)), .unset, .unset, .unset, .unset, .unset, .unset, .unset] [(.int a0_)])) := fun t h => k t (XS.iloadN X0.here hx rfl (hb hby at_41) rfl h)
      obtain ⟨_, _, ⟨T11, L11, kk11, n11⟩, -, X11, ⟨Lc11, hQ11, l11, y11, z11⟩, st11⟩ := Jvm.LawKit.callS X0 hx (y := (⟨"com/example/ferrolho/ferrolho/lock/LockNameEqualsPinLaw", "allowed", "(I)C"⟩ : MethodName)) hown (mvT hZ (hw _ (List.mem_of_getElem? (i := 0) rfl))) (mvT hZ (hw _ (List.mem_of_getElem? (i := 1) rfl))) (mvT hZ (hw _ (List.mem_of_getElem? (i := 2) rfl))) (mvT hZ (hw _ (List.mem_of_getElem? (i := 3) rfl))) (by decide) (backOf (W := 0) (rm19 l Z a0 hw [] a0_ h0 n0) hZ (hw _ (List.mem_of_getElem? (i := 3) rfl)) (hw _ (List.mem_of_getElem? (i := 2) rfl)) (by decide) (by decide)) (g := (mkF m 42 #[.val (.int a0_), .val (.int a1_), .val (.int b0_), .val (.int b1_), .val (.int mode), .val (.int lenA), .val (.int lenB), .val (.int kind), .val (.int (1 : Int32)), .unset, .unset, .unset, .unset, .unset, .unset, .unset] [(.int a0_)])) rfl (by rw [hml]; rfl) (argsL := [(.int a0_)]) (rest := []) (lenOf own_pd9 rfl) rfl (by show 2 * 0 + _ ≤ _; exact Nat.le_of_eq rfl) (hb hby at_42) (fun _ _ => ⟨rfl, e0, (by decide : 0 + 0 ≤ _), (by decide : 0 + 0 ≤ _)⟩)
      dsimp only [Pt.U, Pt.locs, Pt.cells, Pt.slots] at X11 l11 y11 z11 st11 hQ11
      subst l11 y11 z11
      obtain ⟨rfl, N11q, eq10⟩ := hQ11
      have N11 := Fr.app N0 N11q
      replace k : own_K p.tables e below (s₁.setTop (entryFrame m #[(.int a0_), (.int a1_), (.int b0_), (.int b1_), (.int mode)] maxLocals)) (T11.setTop (mkF m 45 #[.val (.int a0_), .val (.int a1_), .val (.int b0_), .val (.int b1_), .val (.int mode), .val (.int lenA), .val (.int lenB), .val (.int kind), .val (.int (1 : Int32)), .unset, .unset, .unset, .unset, .unset, .unset, .unset] [(.int (own_alk ((a0_ &&& (2147483647 : Int32)) % (67 : Int32))))])) := fun t h => k t (st11 _ h)
      replace k : own_K p.tables e below (s₁.setTop (entryFrame m #[(.int a0_), (.int a1_), (.int b0_), (.int b1_), (.int mode)] maxLocals)) (T11.setTop (mkF m 47 #[.val (.int a0_), .val (.int a1_), .val (.int b0_), .val (.int b1_), .val (.int mode), .val (.int lenA), .val (.int lenB), .val (.int kind), .val (.int (1 : Int32)), .val (.int (own_alk ((a0_ &&& (2147483647 : Int32)) % (67 : Int32)))), .unset, .unset, .unset, .unset, .unset, .unset] [])) := fun t h => k t (XS.istore X11.here hx rfl (hb hby at_45) rfl (l' := #[.val (.int a0_), .val (.int a1_), .val (.int b0_), .val (.int b1_), .val (.int mode), .val (.int lenA), .val (.int lenB), .val (.int kind), .val (.int (1 : Int32)), .val (.int (own_alk ((a0_ &&& (2147483647 : Int32)) % (67 : Int32)))), .unset, .unset, .unset, .unset, .unset, .unset]) rfl h)
      replace k : own_K p.tables e below (s₁.setTop (entryFrame m #[(.int a0_), (.int a1_), (.int b0_), (.int b1_), (.int mode)] maxLocals)) (T11.setTop (mkF m 48 #[.val (.int a0_), .val (.int a1_), .val (.int b0_), .val (.int b1_), .val (.int mode), .val (.int lenA), .val (.int lenB), .val (.int kind), .val (.int (1 : Int32)), .val (.int (own_alk ((a0_ &&& (2147483647 : Int32)) % (67 : Int32)))), .unset, .unset, .unset, .unset, .unset, .unset] [(.int a1_)])) := fun t h => k t (XS.iloadN X11.here hx rfl (hb hby at_47) rfl h)
      obtain ⟨_, _, ⟨T13, L13, kk13, n13⟩, -, X13, ⟨Lc13, hQ13, l13, y13, z13⟩, st13⟩ := Jvm.LawKit.callS X11 hx (y := (⟨"com/example/ferrolho/ferrolho/lock/LockNameEqualsPinLaw", "allowed", "(I)C"⟩ : MethodName)) hown (mvT hZ (hw _ (List.mem_of_getElem? (i := 0) rfl))) (mvT hZ (hw _ (List.mem_of_getElem? (i := 1) rfl))) (mvT hZ (hw _ (List.mem_of_getElem? (i := 2) rfl))) (mvT hZ (hw _ (List.mem_of_getElem? (i := 3) rfl))) (by decide) (backOf (W := 0) (rm19 l Z a0 hw [] a1_ h0 n0) hZ (hw _ (List.mem_of_getElem? (i := 3) rfl)) (hw _ (List.mem_of_getElem? (i := 2) rfl)) (by decide) (by decide)) (g := (mkF m 48 #[.val (.int a0_), .val (.int a1_), .val (.int b0_), .val (.int b1_), .val (.int mode), .val (.int lenA), .val (.int lenB), .val (.int kind), .val (.int (1 : Int32)), .val (.int (own_alk ((a0_ &&& (2147483647 : Int32)) % (67 : Int32)))), .unset, .unset, .unset, .unset, .unset, .unset] [(.int a1_)])) rfl (by rw [hml]; rfl) (argsL := [(.int a1_)]) (rest := []) (lenOf own_pd9 rfl) rfl (by show 2 * 0 + _ ≤ _; exact Nat.le_of_eq rfl) (hb hby at_48) (fun _ _ => ⟨rfl, eq10, (by decide : 0 + 0 ≤ _), (by decide : 0 + 0 ≤ _)⟩)
      dsimp only [Pt.U, Pt.locs, Pt.cells, Pt.slots] at X13 l13 y13 z13 st13 hQ13
      subst l13 y13 z13
      obtain ⟨rfl, N13q, eq12⟩ := hQ13
      have N13 := Fr.app N11 N13q
      replace k : own_K p.tables e below (s₁.setTop (entryFrame m #[(.int a0_), (.int a1_), (.int b0_), (.int b1_), (.int mode)] maxLocals)) (T13.setTop (mkF m 51 #[.val (.int a0_), .val (.int a1_), .val (.int b0_), .val (.int b1_), .val (.int mode), .val (.int lenA), .val (.int lenB), .val (.int kind), .val (.int (1 : Int32)), .val (.int (own_alk ((a0_ &&& (2147483647 : Int32)) % (67 : Int32)))), .unset, .unset, .unset, .unset, .unset, .unset] [(.int (own_alk ((a1_ &&& (2147483647 : Int32)) % (67 : Int32))))])) := fun t h => k t (st13 _ h)
      replace k : own_K p.tables e below (s₁.setTop (entryFrame m #[(.int a0_), (.int a1_), (.int b0_), (.int b1_), (.int mode)] maxLocals)) (T13.setTop (mkF m 53 #[.val (.int a0_), .val (.int a1_), .val (.int b0_), .val (.int b1_), .val (.int mode), .val (.int lenA), .val (.int lenB), .val (.int kind), .val (.int (1 : Int32)), .val (.int (own_alk ((a0_ &&& (2147483647 : Int32)) % (67 : Int32)))), .val (.int (own_alk ((a1_ &&& (2147483647 : Int32)) % (67 : Int32)))), .unset, .unset, .unset, .unset, .unset] [])) := fun t h => k t (XS.istore X13.here hx rfl (hb hby at_51) rfl (l' := #[.val (.int a0_), .val (.int a1_), .val (.int b0_), .val (.int b1_), .val (.int mode), .val (.int lenA), .val (.int lenB), .val (.int kind), .val (.int (1 : Int32)), .val (.int (own_alk ((a0_ &&& (2147483647 : Int32)) % (67 : Int32)))), .val (.int (own_alk ((a1_ &&& (2147483647 : Int32)) % (67 : Int32)))), .unset, .unset, .unset, .unset, .unset]) rfl h)
      replace k : own_K p.tables e below (s₁.setTop (entryFrame m #[(.int a0_), (.int a1_), (.int b0_), (.int b1_), (.int mode)] maxLocals)) (T13.setTop (mkF m 55 #[.val (.int a0_), .val (.int a1_), .val (.int b0_), .val (.int b1_), .val (.int mode), .val (.int lenA), .val (.int lenB), .val (.int kind), .val (.int (1 : Int32)), .val (.int (own_alk ((a0_ &&& (2147483647 : Int32)) % (67 : Int32)))), .val (.int (own_alk ((a1_ &&& (2147483647 : Int32)) % (67 : Int32)))), .unset, .unset, .unset, .unset, .unset] [(.int (1 : Int32))])) := fun t h => k t (XS.iload X13.here hx rfl (hb hby at_53) rfl h)
      replace k : own_K p.tables e below (s₁.setTop (entryFrame m #[(.int a0_), (.int a1_), (.int b0_), (.int b1_), (.int mode)] maxLocals)) (T13.setTop (mkF m 58 #[.val (.int a0_), .val (.int a1_), .val (.int b0_), .val (.int b1_), .val (.int mode), .val (.int lenA), .val (.int lenB), .val (.int kind), .val (.int (1 : Int32)), .val (.int (own_alk ((a0_ &&& (2147483647 : Int32)) % (67 : Int32)))), .val (.int (own_alk ((a1_ &&& (2147483647 : Int32)) % (67 : Int32)))), .unset, .unset, .unset, .unset, .unset] [])) := fun t h => k t (XS.ifNo X13.here hx rfl (hb hby at_55) rfl ((if0 _ _).trans (feq (by decide : ¬ ((1 : Int32) = (0 : Int32)))).1) h)
      replace k : own_K p.tables e below (s₁.setTop (entryFrame m #[(.int a0_), (.int a1_), (.int b0_), (.int b1_), (.int mode)] maxLocals)) (T13.setTop (mkF m 60 #[.val (.int a0_), .val (.int a1_), .val (.int b0_), .val (.int b1_), .val (.int mode), .val (.int lenA), .val (.int lenB), .val (.int kind), .val (.int (1 : Int32)), .val (.int (own_alk ((a0_ &&& (2147483647 : Int32)) % (67 : Int32)))), .val (.int (own_alk ((a1_ &&& (2147483647 : Int32)) % (67 : Int32)))), .unset, .unset, .unset, .unset, .unset] [(.int (own_alk ((a0_ &&& (2147483647 : Int32)) % (67 : Int32))))])) := fun t h => k t (XS.iload X13.here hx rfl (hb hby at_58) rfl h)
      replace k : own_K p.tables e below (s₁.setTop (entryFrame m #[(.int a0_), (.int a1_), (.int b0_), (.int b1_), (.int mode)] maxLocals)) (T13.setTop (mkF m 67 #[.val (.int a0_), .val (.int a1_), .val (.int b0_), .val (.int b1_), .val (.int mode), .val (.int lenA), .val (.int lenB), .val (.int kind), .val (.int (1 : Int32)), .val (.int (own_alk ((a0_ &&& (2147483647 : Int32)) % (67 : Int32)))), .val (.int (own_alk ((a1_ &&& (2147483647 : Int32)) % (67 : Int32)))), .unset, .unset, .unset, .unset, .unset] [(.int (own_alk ((a0_ &&& (2147483647 : Int32)) % (67 : Int32))))])) := fun t h => k t (XS.goto X13.here hx rfl (pc0 := 60) (pc' := 67) rfl (hb hby at_60) (by decide) (by decide) h)
      replace k : own_K p.tables e below (s₁.setTop (entryFrame m #[(.int a0_), (.int a1_), (.int b0_), (.int b1_), (.int mode)] maxLocals)) (T13.setTop (mkF m 69 #[.val (.int a0_), .val (.int a1_), .val (.int b0_), .val (.int b1_), .val (.int mode), .val (.int lenA), .val (.int lenB), .val (.int kind), .val (.int (1 : Int32)), .val (.int (own_alk ((a0_ &&& (2147483647 : Int32)) % (67 : Int32)))), .val (.int (own_alk ((a1_ &&& (2147483647 : Int32)) % (67 : Int32)))), .val (.int (own_alk ((a0_ &&& (2147483647 : Int32)) % (67 : Int32)))), .unset, .unset, .unset, .unset] [])) := fun t h => k t (XS.istore X13.here hx rfl (hb hby at_67) rfl (l' := #[.val (.int a0_), .val (.int a1_), .val (.int b0_), .val (.int b1_), .val (.int mode), .val (.int lenA), .val (.int lenB), .val (.int kind), .val (.int (1 : Int32)), .val (.int (own_alk ((a0_ &&& (2147483647 : Int32)) % (67 : Int32)))), .val (.int (own_alk ((a1_ &&& (2147483647 : Int32)) % (67 : Int32)))), .val (.int (own_alk ((a0_ &&& (2147483647 : Int32)) % (67 : Int32)))), .unset, .unset, .unset, .unset]) rfl h)
      replace k : own_K p.tables e below (s₁.setTop (entryFrame m #[(.int a0_), (.int a1_), (.int b0_), (.int b1_), (.int mode)] maxLocals)) (T13.setTop (mkF m 71 #[.val (.int a0_), .val (.int a1_), .val (.int b0_), .val (.int b1_), .val (.int mode), .val (.int lenA), .val (.int lenB), .val (.int kind), .val (.int (1 : Int32)), .val (.int (own_alk ((a0_ &&& (2147483647 : Int32)) % (67 : Int32)))), .val (.int (own_alk ((a1_ &&& (2147483647 : Int32)) % (67 : Int32)))), .val (.int (own_alk ((a0_ &&& (2147483647 : Int32)) % (67 : Int32)))), .unset, .unset, .unset, .unset] [(.int (1 : Int32))])) := fun t h => k t (XS.iload X13.here hx rfl (hb hby at_69) rfl h)
      replace k : own_K p.tables e below (s₁.setTop (entryFrame m #[(.int a0_), (.int a1_), (.int b0_), (.int b1_), (.int mode)] maxLocals)) (T13.setTop (mkF m 74 #[.val (.int a0_), .val (.int a1_), .val (.int b0_), .val (.int b1_), .val (.int mode), .val (.int lenA), .val (.int lenB), .val (.int kind), .val (.int (1 : Int32)), .val (.int (own_alk ((a0_ &&& (2147483647 : Int32)) % (67 : Int32)))), .val (.int (own_alk ((a1_ &&& (2147483647 : Int32)) % (67 : Int32)))), .val (.int (own_alk ((a0_ &&& (2147483647 : Int32)) % (67 : Int32)))), .unset, .unset, .unset, .unset] [])) := fun t h => k t (XS.ifNo X13.here hx rfl (hb hby at_71) rfl ((if0 _ _).trans (feq (by decide : ¬ ((1 : Int32) = (0 : Int32)))).1) h)
      replace k : own_K p.tables e below (s₁.setTop (entryFrame m #[(.int a0_), (.int a1_), (.int b0_), (.int b1_), (.int mode)] maxLocals)) (T13.setTop (mkF m 76 #[.val (.int a0_), .val (.int a1_), .val (.int b0_), .val (.int b1_), .val (.int mode), .val (.int lenA), .val (.int lenB), .val (.int kind), .val (.int (1 : Int32)), .val (.int (own_alk ((a0_ &&& (2147483647 : Int32)) % (67 : Int32)))), .val (.int (own_alk ((a1_ &&& (2147483647 : Int32)) % (67 : Int32)))), .val (.int (own_alk ((a0_ &&& (2147483647 : Int32)) % (67 : Int32)))), .unset, .unset, .unset, .unset] [(.int (own_alk ((a1_ &&& (2147483647 : Int32)) % (67 : Int32))))])) := fun t h => k t (XS.iload X13.here hx rfl (hb hby at_74) rfl h)
      replace k : own_K p.tables e below (s₁.setTop (entryFrame m #[(.int a0_), (.int a1_), (.int b0_), (.int b1_), (.int mode)] maxLocals)) (T13.setTop (mkF m 83 #[.val (.int a0_), .val (.int a1_), .val (.int b0_), .val (.int b1_), .val (.int mode), .val (.int lenA), .val (.int lenB), .val (.int kind), .val (.int (1 : Int32)), .val (.int (own_alk ((a0_ &&& (2147483647 : Int32)) % (67 : Int32)))), .val (.int (own_alk ((a1_ &&& (2147483647 : Int32)) % (67 : Int32)))), .val (.int (own_alk ((a0_ &&& (2147483647 : Int32)) % (67 : Int32)))), .unset, .unset, .unset, .unset] [(.int (own_alk ((a1_ &&& (2147483647 : Int32)) % (67 : Int32))))])) := fun t h => k t (XS.goto X13.here hx rfl (pc0 := 76) (pc' := 83) rfl (hb hby at_76) (by decide) (by decide) h)
      replace k : own_K p.tables e below (s₁.setTop (entryFrame m #[(.int a0_), (.int a1_), (.int b0_), (.int b1_), (.int mode)] maxLocals)) (T13.setTop (mkF m 85 #[.val (.int a0_), .val (.int a1_), .val (.int b0_), .val (.int b1_), .val (.int mode), .val (.int lenA), .val (.int lenB), .val (.int kind), .val (.int (1 : Int32)), .val (.int (own_alk ((a0_ &&& (2147483647 : Int32)) % (67 : Int32)))), .val (.int (own_alk ((a1_ &&& (2147483647 : Int32)) % (67 : Int32)))), .val (.int (own_alk ((a0_ &&& (2147483647 : Int32)) % (67 : Int32)))), .val (.int (own_alk ((a1_ &&& (2147483647 : Int32)) % (67 : Int32)))), .unset, .unset, .unset] [])) := fun t h => k t (XS.istore X13.here hx rfl (hb hby at_83) rfl (l' := #[.val (.int a0_), .val (.int a1_), .val (.int b0_), .val (.int b1_), .val (.int mode), .val (.int lenA), .val (.int lenB), .val (.int kind), .val (.int (1 : Int32)), .val (.int (own_alk ((a0_ &&& (2147483647 : Int32)) % (67 : Int32)))), .val (.int (own_alk ((a1_ &&& (2147483647 : Int32)) % (67 : Int32)))), .val (.int (own_alk ((a0_ &&& (2147483647 : Int32)) % (67 : Int32)))), .val (.int (own_alk ((a1_ &&& (2147483647 : Int32)) % (67 : Int32)))), .unset, .unset, .unset]) rfl h)
      exact tail ⟨T13, (1 : Int32), (own_alk ((a0_ &&& (2147483647 : Int32)) % (67 : Int32))), (own_alk ((a1_ &&& (2147483647 : Int32)) % (67 : Int32))), (own_alk ((a0_ &&& (2147483647 : Int32)) % (67 : Int32))), (own_alk ((a1_ &&& (2147483647 : Int32)) % (67 : Int32))), _, N13, X13, eq12, (own_alk_ok (own_rng a0_).1 (own_rng a0_).2), (own_alk_ok (own_rng a1_).1 (own_rng a1_).2), (own_alk_ok (own_rng a0_).1 (own_rng a0_).2), (own_alk_ok (own_rng a1_).1 (own_rng a1_).2), k⟩
  · rintro ⟨TJ, cp, ca0, ca1, cb0, cb1, LJ, NJ, XJ, eJ, ok1, ok2, ok3, ok4, k⟩
    obtain ⟨T14, h14, X14, e14, E14, A14, D14, -, st14⟩ := newO XJ hx hZ hown (hw _ (List.mem_of_getElem? (i := 5) rfl)) (hw _ (List.mem_of_getElem? (i := 6) rfl)) (hw _ (List.mem_of_getElem? (i := 7) rfl)) eJ (g := (mkF m 85 #[.val (.int a0_), .val (.int a1_), .val (.int b0_), .val (.int b1_), .val (.int mode), .val (.int lenA), .val (.int lenB), .val (.int kind), .val (.int cp), .val (.int ca0), .val (.int ca1), .val (.int cb0), .val (.int cb1), .unset, .unset, .unset] [])) rfl (hb hby at_85) (by decide) (by decide)
    obtain ⟨b14, g14⟩ : ∃ z, z = h0.size := ⟨_, rfl⟩
    rw [← g14] at A14 D14 st14
    have ge_b14 : n0 ≤ b14 := Nat.le_trans Z0 (Nat.le_of_eq g14.symm)
    have Z14 : n0 ≤ h14.size := Nat.le_trans Z0 E14.1
    replace k : own_K p.tables e below (s₁.setTop (entryFrame m #[(.int a0_), (.int a1_), (.int b0_), (.int b1_), (.int mode)] maxLocals)) (T14.setTop (mkF m 88 #[.val (.int a0_), .val (.int a1_), .val (.int b0_), .val (.int b1_), .val (.int mode), .val (.int lenA), .val (.int lenB), .val (.int kind), .val (.int cp), .val (.int ca0), .val (.int ca1), .val (.int cb0), .val (.int cb1), .unset, .unset, .unset] [(.ref b14)])) := fun t h => k t (st14 _ h)
    replace hk0 := Nat.le_trans hk0 E14.1
    replace CH := CH.trans (CHr.ext E14 CH.1)
    have F1 : Fld Z h14 b14 "com/example/ferrolho/ferrolho/lock/LockName" "value" "Ljava/lang/String;" .null := D14 (Or.inr (hw _ (List.mem_of_getElem? (i := 100) rfl))) (ty := (.object "java/lang/String")) (by decide)
    have E1_ := A14
    replace XO := XO.ext E14
    replace k : own_K p.tables e below (s₁.setTop (entryFrame m #[(.int a0_), (.int a1_), (.int b0_), (.int b1_), (.int mode)] maxLocals)) (T14.setTop (mkF m 89 #[.val (.int a0_), .val (.int a1_), .val (.int b0_), .val (.int b1_), .val (.int mode), .val (.int lenA), .val (.int lenB), .val (.int kind), .val (.int cp), .val (.int ca0), .val (.int ca1), .val (.int cb0), .val (.int cb1), .unset, .unset, .unset] [(.ref b14), (.ref b14)])) := fun t h => k t (XS.dup X14.here hx rfl (hb hby at_88) rfl rfl h)
    replace k : own_K p.tables e below (s₁.setTop (entryFrame m #[(.int a0_), (.int a1_), (.int b0_), (.int b1_), (.int mode)] maxLocals)) (T14.setTop (mkF m 91 #[.val (.int a0_), .val (.int a1_), .val (.int b0_), .val (.int b1_), .val (.int mode), .val (.int lenA), .val (.int lenB), .val (.int kind), .val (.int cp), .val (.int ca0), .val (.int ca1), .val (.int cb0), .val (.int cb1), .unset, .unset, .unset] [(.int ca0), (.ref b14), (.ref b14)])) := fun t h => k t (XS.iload X14.here hx rfl (hb hby at_89) rfl h)
    replace k : own_K p.tables e below (s₁.setTop (entryFrame m #[(.int a0_), (.int a1_), (.int b0_), (.int b1_), (.int mode)] maxLocals)) (T14.setTop (mkF m 93 #[.val (.int a0_), .val (.int a1_), .val (.int b0_), .val (.int b1_), .val (.int mode), .val (.int lenA), .val (.int lenB), .val (.int kind), .val (.int cp), .val (.int ca0), .val (.int ca1), .val (.int cb0), .val (.int cb1), .unset, .unset, .unset] [(.int ca1), (.int ca0), (.ref b14), (.ref b14)])) := fun t h => k t (XS.iload X14.here hx rfl (hb hby at_91) rfl h)
    replace k : own_K p.tables e below (s₁.setTop (entryFrame m #[(.int a0_), (.int a1_), (.int b0_), (.int b1_), (.int mode)] maxLocals)) (T14.setTop (mkF m 95 #[.val (.int a0_), .val (.int a1_), .val (.int b0_), .val (.int b1_), .val (.int mode), .val (.int lenA), .val (.int lenB), .val (.int kind), .val (.int cp), .val (.int ca0), .val (.int ca1), .val (.int cb0), .val (.int cb1), .unset, .unset, .unset] [(.int lenA), (.int ca1), (.int ca0), (.ref b14), (.ref b14)])) := fun t h => k t (XS.iload X14.here hx rfl (hb hby at_93) rfl h)
    obtain ⟨_, _, ⟨T15, L15, kk15, n15⟩, -, X15, ⟨Lc15, hQ15, l15, y15, z15⟩, st15⟩ := Jvm.LawKit.callS X14 hx (y := (⟨"com/example/ferrolho/ferrolho/lock/LockNameEqualsPinLaw", "text", "(CCI)Ljava/lang/String;"⟩ : MethodName)) hown (mvT hZ (hw _ (List.mem_of_getElem? (i := 8) rfl))) (mvT hZ (hw _ (List.mem_of_getElem? (i := 9) rfl))) (mvT hZ (hw _ (List.mem_of_getElem? (i := 2) rfl))) (mvT hZ (hw _ (List.mem_of_getElem? (i := 10) rfl))) (by decide) (backOf (W := 2) (rm20 l Z a0 hw [] ca0 ca1 lenA G1 h14 n0 Z14 O2 P5 XO (own_bd ok1) (own_bd ok2)) hZ (hw _ (List.mem_of_getElem? (i := 10) rfl)) (hw _ (List.mem_of_getElem? (i := 2) rfl)) (by decide) (by decide)) (g := (mkF m 95 #[.val (.int a0_), .val (.int a1_), .val (.int b0_), .val (.int b1_), .val (.int mode), .val (.int lenA), .val (.int lenB), .val (.int kind), .val (.int cp), .val (.int ca0), .val (.int ca1), .val (.int cb0), .val (.int cb1), .unset, .unset, .unset] [(.int lenA), (.int ca1), (.int ca0), (.ref b14), (.ref b14)])) rfl (by rw [hml]; rfl) (argsL := [(.int ca0), (.int ca1), (.int lenA)]) (rest := [(.ref b14), (.ref b14)]) (lenOf own_pd13 rfl) rfl (by show 2 * 0 + _ ≤ _; exact Nat.le_of_eq rfl) (hb hby at_95) (fun _ _ => ⟨rfl, e14, (by decide : 1 + 3 ≤ _), (by decide : 1 + 8 ≤ _)⟩)
    dsimp only [Pt.U, Pt.locs, Pt.cells, Pt.slots] at X15 l15 y15 z15 st15 hQ15
    subst l15 y15 z15
    obtain ⟨x15, t15, kb15, rfl, N15q, EX15, ST15⟩ := hQ15
    have N15 := Fr.app NJ N15q
    replace k : own_K p.tables e below (s₁.setTop (entryFrame m #[(.int a0_), (.int a1_), (.int b0_), (.int b1_), (.int mode)] maxLocals)) (T15.setTop (mkF m 98 #[.val (.int a0_), .val (.int a1_), .val (.int b0_), .val (.int b1_), .val (.int mode), .val (.int lenA), .val (.int lenB), .val (.int kind), .val (.int cp), .val (.int ca0), .val (.int ca1), .val (.int cb0), .val (.int cb1), .unset, .unset, .unset] [(.ref x15), (.ref b14), (.ref b14)])) := fun t h => k t (st15 _ h)
    replace XO := XO.ext EX15
    replace CH := CH.trans (CHr.ext EX15 CH.1)
    replace hk0 := Nat.le_trans hk0 EX15.1
    have ZT15 := Nat.le_trans Z14 EX15.1
    have S1 := ST15
    replace E1_ := E1_.ext EX15
    replace F1 := F1.ext EX15
    have hcs1 := own_csok ok1 ok2 hA
    obtain ⟨hbc1, hl1⟩ := own_csb hcs1
    obtain ⟨nx1, nt1⟩ := own_Str.ne S1 E1_ (hw _ (List.mem_of_getElem? (i := 6) rfl))
    obtain ⟨_, _, ⟨T16, L16, kk16, n16⟩, -, X16, S16, gr16, ⟨Lc16, hQ16, l16, y16, z16, hC16⟩, st16⟩ := X15.specialBackS hx (y := (⟨"com/example/ferrolho/ferrolho/lock/LockName", "<init>", "(Ljava/lang/String;)V"⟩ : MethodName)) rfl hown (mvT hZ (hw _ (List.mem_of_getElem? (i := 41) rfl))) (mvT hZ (hw _ (List.mem_of_getElem? (i := 42) rfl))) (mvT hZ (hw _ (List.mem_of_getElem? (i := 43) rfl))) (by decide) (backOfSH (W := 1) (rm14 l Z a0 hw [] b14 .null x15 t15 kb15 (own_cs ca0 ca1 lenA) G1 G3 T15.heap n0 O2 P5 XO O4 rG3 S1 hcs1 E1_ F1 ge_b14) hZ (hw _ (List.mem_of_getElem? (i := 43) rfl)) (hw _ (List.mem_of_getElem? (i := 7) rfl)) (by decide) (by decide) hEL CH.1) (g := (mkF m 98 #[.val (.int a0_), .val (.int a1_), .val (.int b0_), .val (.int b1_), .val (.int mode), .val (.int lenA), .val (.int lenB), .val (.int kind), .val (.int cp), .val (.int ca0), .val (.int ca1), .val (.int cb0), .val (.int cb1), .unset, .unset, .unset] [(.ref x15), (.ref b14), (.ref b14)])) rfl (by rw [hml]; rfl) (Steps.refl _) (a := b14) (argsL := [(.ref x15)]) (rest := [(.ref b14)]) (lenOf own_pd14 rfl) rfl (by show 2 * 0 + _ ≤ _; exact Nat.le_of_eq rfl) (hb hby at_98) (fun _ _ => ⟨rfl, rfl, (by decide : 4 + 6 ≤ _), (by decide : 9 + 72 ≤ _)⟩)
    dsimp only [Pt.U, Pt.locs, Pt.cells, Pt.slots] at X16 l16 y16 z16 st16 hQ16 S16 gr16 hC16
    subst l16 y16 z16
    replace CH := CH.trans hC16
    obtain ⟨rfl, N16q, KC, E1_, F1⟩ := hQ16
    have N16 := Fr.app N15 N16q
    obtain ⟨X16, hS16, hZ16, hown16⟩ := rebS hS0 hk0 X16 S16 gr16 hZ hown
    have hk16 : T16.heap.size ≤ T16.heap.size := Nat.le_refl _
    replace k : own_K p.tables e below (s₁.setTop (entryFrame m #[(.int a0_), (.int a1_), (.int b0_), (.int b1_), (.int mode)] maxLocals)) (T16.setTop (mkF m 101 #[.val (.int a0_), .val (.int a1_), .val (.int b0_), .val (.int b1_), .val (.int mode), .val (.int lenA), .val (.int lenB), .val (.int kind), .val (.int cp), .val (.int ca0), .val (.int ca1), .val (.int cb0), .val (.int cb1), .unset, .unset, .unset] [(.ref b14)])) := fun t h => k t (st16.trans h)
    replace XO := XO.keep KC (allS ge_b14 all0)
    have ZK16 := Nat.le_trans ZT15 KC.1
    replace S1 := S1.keep KC (ninS nx1 nin0) (ninS nt1 nin0)
    replace k : own_K p.tables e below (s₁.setTop (entryFrame m #[(.int a0_), (.int a1_), (.int b0_), (.int b1_), (.int mode)] maxLocals)) (T16.setTop (mkF m 103 #[.val (.int a0_), .val (.int a1_), .val (.int b0_), .val (.int b1_), .val (.int mode), .val (.int lenA), .val (.int lenB), .val (.int kind), .val (.int cp), .val (.int ca0), .val (.int ca1), .val (.int cb0), .val (.int cb1), .val (.ref b14), .unset, .unset] [])) := fun t h => k t (XS.astore X16.here hx rfl (hb hby at_101) rfl rfl (l' := #[.val (.int a0_), .val (.int a1_), .val (.int b0_), .val (.int b1_), .val (.int mode), .val (.int lenA), .val (.int lenB), .val (.int kind), .val (.int cp), .val (.int ca0), .val (.int ca1), .val (.int cb0), .val (.int cb1), .val (.ref b14), .unset, .unset]) rfl h)
    replace k : own_K p.tables e below (s₁.setTop (entryFrame m #[(.int a0_), (.int a1_), (.int b0_), (.int b1_), (.int mode)] maxLocals)) (T16.setTop (mkF m 105 #[.val (.int a0_), .val (.int a1_), .val (.int b0_), .val (.int b1_), .val (.int mode), .val (.int lenA), .val (.int lenB), .val (.int kind), .val (.int cp), .val (.int ca0), .val (.int ca1), .val (.int cb0), .val (.int cb1), .val (.ref b14), .unset, .unset] [(.int kind)])) := fun t h => k t (XS.iload X16.here hx rfl (hb hby at_103) rfl h)
    replace k : own_K p.tables e below (s₁.setTop (entryFrame m #[(.int a0_), (.int a1_), (.int b0_), (.int b1_), (.int mode)] maxLocals)) (T16.setTop (mkF m 106 #[.val (.int a0_), .val (.int a1_), .val (.int b0_), .val (.int b1_), .val (.int mode), .val (.int lenA), .val (.int lenB), .val (.int kind), .val (.int cp), .val (.int ca0), .val (.int ca1), .val (.int cb0), .val (.int cb1), .val (.ref b14), .unset, .unset] [(.int (1 : Int32)), (.int kind)])) := fun t h => k t (XS.iconst X16.here hx rfl (hb hby at_105) h)
    by_cases cc17 : kind = (1 : Int32)
    · replace k : own_K p.tables e below (s₁.setTop (entryFrame m #[(.int a0_), (.int a1_), (.int b0_), (.int b1_), (.int mode)] maxLocals)) (T16.setTop (mkF m 109 #[.val (.int a0_), .val (.int a1_), .val (.int b0_), .val (.int b1_), .val (.int mode), .val (.int lenA), .val (.int lenB), .val (.int kind), .val (.int cp), .val (.int ca0), .val (.int ca1), .val (.int cb0), .val (.int cb1), .val (.ref b14), .unset, .unset] [])) := fun t h => k t (XS.icmpNo X16.here hx rfl (hb hby at_106) rfl (teq cc17).2 h)
      replace k : own_K p.tables e below (s₁.setTop (entryFrame m #[(.int a0_), (.int a1_), (.int b0_), (.int b1_), (.int mode)] maxLocals)) (T16.setTop (mkF m 111 #[.val (.int a0_), .val (.int a1_), .val (.int b0_), .val (.int b1_), .val (.int mode), .val (.int lenA), .val (.int lenB), .val (.int kind), .val (.int cp), .val (.int ca0), .val (.int ca1), .val (.int cb0), .val (.int cb1), .val (.ref b14), .unset, .unset] [(.ref b14)])) := fun t h => k t (XS.aload X16.here hx rfl (hb hby at_109) rfl rfl h)
      replace k : own_K p.tables e below (s₁.setTop (entryFrame m #[(.int a0_), (.int a1_), (.int b0_), (.int b1_), (.int mode)] maxLocals)) (T16.setTop (mkF m 112 #[.val (.int a0_), .val (.int a1_), .val (.int b0_), .val (.int b1_), .val (.int mode), .val (.int lenA), .val (.int lenB), .val (.int kind), .val (.int cp), .val (.int ca0), .val (.int ca1), .val (.int cb0), .val (.int cb1), .val (.ref b14), .unset, .unset] [.null, (.ref b14)])) := fun t h => k t (XS.aconstNull X16.here hx rfl (hb hby at_111) h)
      obtain ⟨cq19, kq19, q19a, q19b, q19c⟩ := isOf hZ16 rfl E1_
      obtain ⟨_, _, ⟨T19, L19, kk19, n19⟩, -, X19, ⟨Lc19, hQ19, l19, y19, z19⟩, st19⟩ := X16.virtualBack hx (y := (⟨"com/example/ferrolho/ferrolho/lock/LockName", "equals", "(Ljava/lang/Object;)Z"⟩ : MethodName)) (z := (⟨"com/example/ferrolho/ferrolho/lock/LockName", "equals", "(Ljava/lang/Object;)Z"⟩ : MethodName)) hown16 (mvT hZ16 (hw _ (List.mem_of_getElem? (i := 101) rfl))) (mvT hZ16 (hw _ (List.mem_of_getElem? (i := 102) rfl))) (notFace_of_selects (args := #[]) (mvT hZ16 (hw _ (List.mem_of_getElem? (i := 104) rfl)))) (mvT hZ16 (hw _ (List.mem_of_getElem? (i := 104) rfl))) (mvT hZ16 (hw _ (List.mem_of_getElem? (i := 103) rfl))) (by decide) (backOf (W := 0) (rm15 l Z a0 hw [] b14 T16.heap n0) hZ16 (hw _ (List.mem_of_getElem? (i := 105) rfl)) (hw _ (List.mem_of_getElem? (i := 7) rfl)) (by decide) (by decide)) q19a q19c (g := (mkF m 112 #[.val (.int a0_), .val (.int a1_), .val (.int b0_), .val (.int b1_), .val (.int mode), .val (.int lenA), .val (.int lenB), .val (.int kind), .val (.int cp), .val (.int ca0), .val (.int ca1), .val (.int cb0), .val (.int cb1), .val (.ref b14), .unset, .unset] [.null, (.ref b14)])) rfl (by rw [hml]; rfl) (Steps.refl _) (argsL := [.null]) (rest := []) (lenOf own_pd11 rfl) rfl (by show 2 * 0 + _ ≤ _; exact Nat.le_of_eq rfl) (hb hby at_112) (fun _ _ => ⟨rfl, rfl, (by decide : 10 + 0 ≤ _), (by decide : 81 + 0 ≤ _)⟩)
      dsimp only [Pt.U, Pt.locs, Pt.cells, Pt.slots] at X19 l19 y19 z19 st19 hQ19
      subst l19 y19 z19
      obtain ⟨rfl, N19q, eq18⟩ := hQ19
      have N19 := Fr.app N16 N19q
      replace k : own_K p.tables e below (s₁.setTop (entryFrame m #[(.int a0_), (.int a1_), (.int b0_), (.int b1_), (.int mode)] maxLocals)) (T19.setTop (mkF m 115 #[.val (.int a0_), .val (.int a1_), .val (.int b0_), .val (.int b1_), .val (.int mode), .val (.int lenA), .val (.int lenB), .val (.int kind), .val (.int cp), .val (.int ca0), .val (.int ca1), .val (.int cb0), .val (.int cb1), .val (.ref b14), .unset, .unset] [(.int (0 : Int32))])) := fun t h => k t (st19.trans h)
      replace k : own_K p.tables e below (s₁.setTop (entryFrame m #[(.int a0_), (.int a1_), (.int b0_), (.int b1_), (.int mode)] maxLocals)) (T19.setTop (mkF m 118 #[.val (.int a0_), .val (.int a1_), .val (.int b0_), .val (.int b1_), .val (.int mode), .val (.int lenA), .val (.int lenB), .val (.int kind), .val (.int cp), .val (.int ca0), .val (.int ca1), .val (.int cb0), .val (.int cb1), .val (.ref b14), .unset, .unset] [])) := fun t h => k t (XS.ifNo X19.here hx rfl (hb hby at_115) rfl ((if0 _ _).trans (teq rfl).2) h)
      replace k : own_K p.tables e below (s₁.setTop (entryFrame m #[(.int a0_), (.int a1_), (.int b0_), (.int b1_), (.int mode)] maxLocals)) (T19.setTop (mkF m 119 #[.val (.int a0_), .val (.int a1_), .val (.int b0_), .val (.int b1_), .val (.int mode), .val (.int lenA), .val (.int lenB), .val (.int kind), .val (.int cp), .val (.int ca0), .val (.int ca1), .val (.int cb0), .val (.int cb1), .val (.ref b14), .unset, .unset] [(.int (1 : Int32))])) := fun t h => k t (XS.iconst X19.here hx rfl (hb hby at_118) h)
      replace k : own_K p.tables e below (s₁.setTop (entryFrame m #[(.int a0_), (.int a1_), (.int b0_), (.int b1_), (.int mode)] maxLocals)) (T19.setTop (mkF m 123 #[.val (.int a0_), .val (.int a1_), .val (.int b0_), .val (.int b1_), .val (.int mode), .val (.int lenA), .val (.int lenB), .val (.int kind), .val (.int cp), .val (.int ca0), .val (.int ca1), .val (.int cb0), .val (.int cb1), .val (.ref b14), .unset, .unset] [(.int (1 : Int32))])) := fun t h => k t (XS.goto X19.here hx rfl (pc0 := 119) (pc' := 123) rfl (hb hby at_119) (by decide) (by decide) h)
      obtain ⟨fs, hr, hrun, hended, hEnd⟩ := X19.leaveW hS16 (by rw [eq18]; exact hk16) (v := some (.int (1 : Int32))) (fun h => by rw [Bd.returns] at h; cases h) Bd.notSynchronized
      have CHe : CHr Z consts_1 s.vm s.heap (T19.setFrames fs).vm (T19.setFrames fs).heap := by
        show CHr Z consts_1 s.vm s.heap T19.vm T19.heap
        rw [hh, eq18]
        exact CH.trans (CHv.at X19 hZ16 hEL CH.1)
      refine ⟨_, _, k _ (retOut X19 hx Bd.returns rfl (Or.inl ⟨rfl, by simp [ret], _, rfl⟩) (hb hby at_123) hr), hrun, hended, _, _, rfl, ?_, CHe, hEnd.1, hEnd.2.1, hEnd.2.2.1, hEnd.2.2.2.mono (by decide) (by decide)⟩
      show Q0 Z a0_ a1_ b0_ b1_ mode G1 G3 h0 n0 _ T19.heap _
      rw [eq18]
      exact ⟨rfl, N19⟩
    · replace k : own_K p.tables e below (s₁.setTop (entryFrame m #[(.int a0_), (.int a1_), (.int b0_), (.int b1_), (.int mode)] maxLocals)) (T16.setTop (mkF m 124 #[.val (.int a0_), .val (.int a1_), .val (.int b0_), .val (.int b1_), .val (.int mode), .val (.int lenA), .val (.int lenB), .val (.int kind), .val (.int cp), .val (.int ca0), .val (.int ca1), .val (.int cb0), .val (.int cb1), .val (.ref b14), .unset, .unset] [])) := fun t h => k t (XS.icmpYes X16.here hx rfl (pc0 := 106) (pc' := 124) rfl (hb hby at_106) rfl (feq cc17).2 (by decide) (by decide) h)
      replace k : own_K p.tables e below (s₁.setTop (entryFrame m #[(.int a0_), (.int a1_), (.int b0_), (.int b1_), (.int mode)] maxLocals)) (T16.setTop (mkF m 126 #[.val (.int a0_), .val (.int a1_), .val (.int b0_), .val (.int b1_), .val (.int mode), .val (.int lenA), .val (.int lenB), .val (.int kind), .val (.int cp), .val (.int ca0), .val (.int ca1), .val (.int cb0), .val (.int cb1), .val (.ref b14), .unset, .unset] [(.int kind)])) := fun t h => k t (XS.iload X16.here hx rfl (hb hby at_124) rfl h)
      replace k : own_K p.tables e below (s₁.setTop (entryFrame m #[(.int a0_), (.int a1_), (.int b0_), (.int b1_), (.int mode)] maxLocals)) (T16.setTop (mkF m 127 #[.val (.int a0_), .val (.int a1_), .val (.int b0_), .val (.int b1_), .val (.int mode), .val (.int lenA), .val (.int lenB), .val (.int kind), .val (.int cp), .val (.int ca0), .val (.int ca1), .val (.int cb0), .val (.int cb1), .val (.ref b14), .unset, .unset] [(.int (2 : Int32)), (.int kind)])) := fun t h => k t (XS.iconst X16.here hx rfl (hb hby at_126) h)
      by_cases cc20 : kind = (2 : Int32)
      · replace k : own_K p.tables e below (s₁.setTop (entryFrame m #[(.int a0_), (.int a1_), (.int b0_), (.int b1_), (.int mode)] maxLocals)) (T16.setTop (mkF m 130 #[.val (.int a0_), .val (.int a1_), .val (.int b0_), .val (.int b1_), .val (.int mode), .val (.int lenA), .val (.int lenB), .val (.int kind), .val (.int cp), .val (.int ca0), .val (.int ca1), .val (.int cb0), .val (.int cb1), .val (.ref b14), .unset, .unset] [])) := fun t h => k t (XS.icmpNo X16.here hx rfl (hb hby at_127) rfl (teq cc20).2 h)
        replace k : own_K p.tables e below (s₁.setTop (entryFrame m #[(.int a0_), (.int a1_), (.int b0_), (.int b1_), (.int mode)] maxLocals)) (T16.setTop (mkF m 132 #[.val (.int a0_), .val (.int a1_), .val (.int b0_), .val (.int b1_), .val (.int mode), .val (.int lenA), .val (.int lenB), .val (.int kind), .val (.int cp), .val (.int ca0), .val (.int ca1), .val (.int cb0), .val (.int cb1), .val (.ref b14), .unset, .unset] [(.ref b14)])) := fun t h => k t (XS.aload X16.here hx rfl (hb hby at_130) rfl rfl h)
        replace k : own_K p.tables e below (s₁.setTop (entryFrame m #[(.int a0_), (.int a1_), (.int b0_), (.int b1_), (.int mode)] maxLocals)) (T16.setTop (mkF m 134 #[.val (.int a0_), .val (.int a1_), .val (.int b0_), .val (.int b1_), .val (.int mode), .val (.int lenA), .val (.int lenB), .val (.int kind), .val (.int cp), .val (.int ca0), .val (.int ca1), .val (.int cb0), .val (.int cb1), .val (.ref b14), .unset, .unset] [(.ref b14), (.ref b14)])) := fun t h => k t (XS.aload X16.here hx rfl (hb hby at_132) rfl rfl h)
        obtain ⟨cq22, kq22, q22a, q22b, q22c⟩ := isOf hZ16 rfl E1_
        obtain ⟨_, _, ⟨T22, L22, kk22, n22⟩, -, X22, ⟨Lc22, hQ22, l22, y22, z22⟩, st22⟩ := X16.virtualBack hx (y := (⟨"com/example/ferrolho/ferrolho/lock/LockName", "getValue", "()Ljava/lang/String;"⟩ : MethodName)) (z := (⟨"com/example/ferrolho/ferrolho/lock/LockName", "getValue", "()Ljava/lang/String;"⟩ : MethodName)) hown16 (mvT hZ16 (hw _ (List.mem_of_getElem? (i := 117) rfl))) (mvT hZ16 (hw _ (List.mem_of_getElem? (i := 118) rfl))) (notFace_of_selects (args := #[]) (mvT hZ16 (hw _ (List.mem_of_getElem? (i := 120) rfl)))) (mvT hZ16 (hw _ (List.mem_of_getElem? (i := 120) rfl))) (mvT hZ16 (hw _ (List.mem_of_getElem? (i := 119) rfl))) (by decide) (backOf (W := 1) (rm18 l Z a0 hw [] b14 x15 T16.heap n0 F1) hZ16 (hw _ (List.mem_of_getElem? (i := 121) rfl)) (hw _ (List.mem_of_getElem? (i := 7) rfl)) (by decide) (by decide)) q22a q22c (g := (mkF m 134 #[.val (.int a0_), .val (.int a1_), .val (.int b0_), .val (.int b1_), .val (.int mode), .val (.int lenA), .val (.int lenB), .val (.int kind), .val (.int cp), .val (.int ca0), .val (.int ca1), .val (.int cb0), .val (.int cb1), .val (.ref b14), .unset, .unset] [(.ref b14), (.ref b14)])) rfl (by rw [hml]; rfl) (Steps.refl _) (argsL := []) (rest := [(.ref b14)]) (lenOf own_pd15 rfl) rfl (by show 2 * 0 + _ ≤ _; exact Nat.le_of_eq rfl) (hb hby at_134) (fun _ _ => ⟨rfl, rfl, (by decide : 10 + 0 ≤ _), (by decide : 81 + 0 ≤ _)⟩)
        dsimp only [Pt.U, Pt.locs, Pt.cells, Pt.slots] at X22 l22 y22 z22 st22 hQ22
        subst l22 y22 z22
        obtain ⟨rfl, N22q, eq21⟩ := hQ22
        have N22 := Fr.app N16 N22q
        replace k : own_K p.tables e below (s₁.setTop (entryFrame m #[(.int a0_), (.int a1_), (.int b0_), (.int b1_), (.int mode)] maxLocals)) (T22.setTop (mkF m 137 #[.val (.int a0_), .val (.int a1_), .val (.int b0_), .val (.int b1_), .val (.int mode), .val (.int lenA), .val (.int lenB), .val (.int kind), .val (.int cp), .val (.int ca0), .val (.int ca1), .val (.int cb0), .val (.int cb1), .val (.ref b14), .unset, .unset] [(.ref x15), (.ref b14)])) := fun t h => k t (st22.trans h)
        obtain ⟨cq24, kq24, q24a, q24b, q24c⟩ := isOf hZ16 eq21 E1_
        obtain ⟨_, _, ⟨T24, L24, kk24, n24⟩, -, X24, ⟨Lc24, hQ24, l24, y24, z24⟩, st24⟩ := X22.virtualBack hx (y := (⟨"com/example/ferrolho/ferrolho/lock/LockName", "equals", "(Ljava/lang/Object;)Z"⟩ : MethodName)) (z := (⟨"com/example/ferrolho/ferrolho/lock/LockName", "equals", "(Ljava/lang/Object;)Z"⟩ : MethodName)) hown16 (mvT hZ16 (hw _ (List.mem_of_getElem? (i := 101) rfl))) (mvT hZ16 (hw _ (List.mem_of_getElem? (i := 102) rfl))) (notFace_of_selects (args := #[]) (mvT hZ16 (hw _ (List.mem_of_getElem? (i := 104) rfl)))) (mvT hZ16 (hw _ (List.mem_of_getElem? (i := 104) rfl))) (mvT hZ16 (hw _ (List.mem_of_getElem? (i := 103) rfl))) (by decide) (backOf (W := 0) (rm16 l Z a0 hw [] b14 x15 T16.heap n0 S1.1) hZ16 (hw _ (List.mem_of_getElem? (i := 105) rfl)) (hw _ (List.mem_of_getElem? (i := 7) rfl)) (by decide) (by decide)) q24a q24c (g := (mkF m 137 #[.val (.int a0_), .val (.int a1_), .val (.int b0_), .val (.int b1_), .val (.int mode), .val (.int lenA), .val (.int lenB), .val (.int kind), .val (.int cp), .val (.int ca0), .val (.int ca1), .val (.int cb0), .val (.int cb1), .val (.ref b14), .unset, .unset] [(.ref x15), (.ref b14)])) rfl (by rw [hml]; rfl) (Steps.refl _) (argsL := [(.ref x15)]) (rest := []) (lenOf own_pd11 rfl) rfl (by show 2 * 0 + _ ≤ _; exact Nat.le_of_eq rfl) (hb hby at_137) (fun _ _ => ⟨rfl, eq21, (by decide : 10 + 0 ≤ _), (by decide : 81 + 0 ≤ _)⟩)
        dsimp only [Pt.U, Pt.locs, Pt.cells, Pt.slots] at X24 l24 y24 z24 st24 hQ24
        subst l24 y24 z24
        obtain ⟨rfl, N24q, eq23⟩ := hQ24
        have N24 := Fr.app N22 N24q
        replace k : own_K p.tables e below (s₁.setTop (entryFrame m #[(.int a0_), (.int a1_), (.int b0_), (.int b1_), (.int mode)] maxLocals)) (T24.setTop (mkF m 140 #[.val (.int a0_), .val (.int a1_), .val (.int b0_), .val (.int b1_), .val (.int mode), .val (.int lenA), .val (.int lenB), .val (.int kind), .val (.int cp), .val (.int ca0), .val (.int ca1), .val (.int cb0), .val (.int cb1), .val (.ref b14), .unset, .unset] [(.int (0 : Int32))])) := fun t h => k t (st24.trans h)
        replace k : own_K p.tables e below (s₁.setTop (entryFrame m #[(.int a0_), (.int a1_), (.int b0_), (.int b1_), (.int mode)] maxLocals)) (T24.setTop (mkF m 143 #[.val (.int a0_), .val (.int a1_), .val (.int b0_), .val (.int b1_), .val (.int mode), .val (.int lenA), .val (.int lenB), .val (.int kind), .val (.int cp), .val (.int ca0), .val (.int ca1), .val (.int cb0), .val (.int cb1), .val (.ref b14), .unset, .unset] [])) := fun t h => k t (XS.ifNo X24.here hx rfl (hb hby at_140) rfl ((if0 _ _).trans (teq rfl).2) h)
        replace k : own_K p.tables e below (s₁.setTop (entryFrame m #[(.int a0_), (.int a1_), (.int b0_), (.int b1_), (.int mode)] maxLocals)) (T24.setTop (mkF m 144 #[.val (.int a0_), .val (.int a1_), .val (.int b0_), .val (.int b1_), .val (.int mode), .val (.int lenA), .val (.int lenB), .val (.int kind), .val (.int cp), .val (.int ca0), .val (.int ca1), .val (.int cb0), .val (.int cb1), .val (.ref b14), .unset, .unset] [(.int (1 : Int32))])) := fun t h => k t (XS.iconst X24.here hx rfl (hb hby at_143) h)
        replace k : own_K p.tables e below (s₁.setTop (entryFrame m #[(.int a0_), (.int a1_), (.int b0_), (.int b1_), (.int mode)] maxLocals)) (T24.setTop (mkF m 148 #[.val (.int a0_), .val (.int a1_), .val (.int b0_), .val (.int b1_), .val (.int mode), .val (.int lenA), .val (.int lenB), .val (.int kind), .val (.int cp), .val (.int ca0), .val (.int ca1), .val (.int cb0), .val (.int cb1), .val (.ref b14), .unset, .unset] [(.int (1 : Int32))])) := fun t h => k t (XS.goto X24.here hx rfl (pc0 := 144) (pc' := 148) rfl (hb hby at_144) (by decide) (by decide) h)
        obtain ⟨fs, hr, hrun, hended, hEnd⟩ := X24.leaveW hS16 (by rw [eq23]; exact hk16) (v := some (.int (1 : Int32))) (fun h => by rw [Bd.returns] at h; cases h) Bd.notSynchronized
        have CHe : CHr Z consts_1 s.vm s.heap (T24.setFrames fs).vm (T24.setFrames fs).heap := by
          show CHr Z consts_1 s.vm s.heap T24.vm T24.heap
          rw [hh, eq23]
          exact CH.trans (CHv.at X24 hZ16 hEL CH.1)
        refine ⟨_, _, k _ (retOut X24 hx Bd.returns rfl (Or.inl ⟨rfl, by simp [ret], _, rfl⟩) (hb hby at_148) hr), hrun, hended, _, _, rfl, ?_, CHe, hEnd.1, hEnd.2.1, hEnd.2.2.1, hEnd.2.2.2.mono (by decide) (by decide)⟩
        show Q0 Z a0_ a1_ b0_ b1_ mode G1 G3 h0 n0 _ T24.heap _
        rw [eq23]
        exact ⟨rfl, N24⟩
      · replace k : own_K p.tables e below (s₁.setTop (entryFrame m #[(.int a0_), (.int a1_), (.int b0_), (.int b1_), (.int mode)] maxLocals)) (T16.setTop (mkF m 149 #[.val (.int a0_), .val (.int a1_), .val (.int b0_), .val (.int b1_), .val (.int mode), .val (.int lenA), .val (.int lenB), .val (.int kind), .val (.int cp), .val (.int ca0), .val (.int ca1), .val (.int cb0), .val (.int cb1), .val (.ref b14), .unset, .unset] [])) := fun t h => k t (XS.icmpYes X16.here hx rfl (pc0 := 127) (pc' := 149) rfl (hb hby at_127) rfl (feq cc20).2 (by decide) (by decide) h)
        replace k : own_K p.tables e below (s₁.setTop (entryFrame m #[(.int a0_), (.int a1_), (.int b0_), (.int b1_), (.int mode)] maxLocals)) (T16.setTop (mkF m 151 #[.val (.int a0_), .val (.int a1_), .val (.int b0_), .val (.int b1_), .val (.int mode), .val (.int lenA), .val (.int lenB), .val (.int kind), .val (.int cp), .val (.int ca0), .val (.int ca1), .val (.int cb0), .val (.int cb1), .val (.ref b14), .unset, .unset] [(.int kind)])) := fun t h => k t (XS.iload X16.here hx rfl (hb hby at_149) rfl h)
        replace k : own_K p.tables e below (s₁.setTop (entryFrame m #[(.int a0_), (.int a1_), (.int b0_), (.int b1_), (.int mode)] maxLocals)) (T16.setTop (mkF m 152 #[.val (.int a0_), .val (.int a1_), .val (.int b0_), .val (.int b1_), .val (.int mode), .val (.int lenA), .val (.int lenB), .val (.int kind), .val (.int cp), .val (.int ca0), .val (.int ca1), .val (.int cb0), .val (.int cb1), .val (.ref b14), .unset, .unset] [(.int (3 : Int32)), (.int kind)])) := fun t h => k t (XS.iconst X16.here hx rfl (hb hby at_151) h)
        by_cases cc25 : kind = (3 : Int32)
        · replace k : own_K p.tables e below (s₁.setTop (entryFrame m #[(.int a0_), (.int a1_), (.int b0_), (.int b1_), (.int mode)] maxLocals)) (T16.setTop (mkF m 155 #[.val (.int a0_), .val (.int a1_), .val (.int b0_), .val (.int b1_), .val (.int mode), .val (.int lenA), .val (.int lenB), .val (.int kind), .val (.int cp), .val (.int ca0), .val (.int ca1), .val (.int cb0), .val (.int cb1), .val (.ref b14), .unset, .unset] [])) := fun t h => k t (XS.icmpNo X16.here hx rfl (hb hby at_152) rfl (teq cc25).2 h)
          replace k : own_K p.tables e below (s₁.setTop (entryFrame m #[(.int a0_), (.int a1_), (.int b0_), (.int b1_), (.int mode)] maxLocals)) (T16.setTop (mkF m 157 #[.val (.int a0_), .val (.int a1_), .val (.int b0_), .val (.int b1_), .val (.int mode), .val (.int lenA), .val (.int lenB), .val (.int kind), .val (.int cp), .val (.int ca0), .val (.int ca1), .val (.int cb0), .val (.int cb1), .val (.ref b14), .unset, .unset] [(.ref b14)])) := fun t h => k t (XS.aload X16.here hx rfl (hb hby at_155) rfl rfl h)
          replace k : own_K p.tables e below (s₁.setTop (entryFrame m #[(.int a0_), (.int a1_), (.int b0_), (.int b1_), (.int mode)] maxLocals)) (T16.setTop (mkF m 159 #[.val (.int a0_), .val (.int a1_), .val (.int b0_), .val (.int b1_), .val (.int mode), .val (.int lenA), .val (.int lenB), .val (.int kind), .val (.int cp), .val (.int ca0), .val (.int ca1), .val (.int cb0), .val (.int cb1), .val (.ref b14), .unset, .unset] [(.ref b14), (.ref b14)])) := fun t h => k t (XS.aload X16.here hx rfl (hb hby at_157) rfl rfl h)
          obtain ⟨cq27, kq27, q27a, q27b, q27c⟩ := isOf hZ16 rfl E1_
          obtain ⟨_, _, ⟨T27, L27, kk27, n27⟩, -, X27, ⟨Lc27, hQ27, l27, y27, z27⟩, st27⟩ := X16.virtualBack hx (y := (⟨"com/example/ferrolho/ferrolho/lock/LockName", "equals", "(Ljava/lang/Object;)Z"⟩ : MethodName)) (z := (⟨"com/example/ferrolho/ferrolho/lock/LockName", "equals", "(Ljava/lang/Object;)Z"⟩ : MethodName)) hown16 (mvT hZ16 (hw _ (List.mem_of_getElem? (i := 101) rfl))) (mvT hZ16 (hw _ (List.mem_of_getElem? (i := 102) rfl))) (notFace_of_selects (args := #[]) (mvT hZ16 (hw _ (List.mem_of_getElem? (i := 104) rfl)))) (mvT hZ16 (hw _ (List.mem_of_getElem? (i := 104) rfl))) (mvT hZ16 (hw _ (List.mem_of_getElem? (i := 103) rfl))) (by decide) (backOf (W := 0) (rm17 l Z a0 hw [] b14 b14 x15 t15 kb15 (own_cs ca0 ca1 lenA) x15 t15 kb15 (own_cs ca0 ca1 lenA) G1 T16.heap n0 O2 P5 XO S1 hbc1 hl1 S1 hbc1 hl1 E1_ F1 F1) hZ16 (hw _ (List.mem_of_getElem? (i := 105) rfl)) (hw _ (List.mem_of_getElem? (i := 7) rfl)) (by decide) (by decide)) q27a q27c (g := (mkF m 159 #[.val (.int a0_), .val (.int a1_), .val (.int b0_), .val (.int b1_), .val (.int mode), .val (.int lenA), .val (.int lenB), .val (.int kind), .val (.int cp), .val (.int ca0), .val (.int ca1), .val (.int cb0), .val (.int cb1), .val (.ref b14), .unset, .unset] [(.ref b14), (.ref b14)])) rfl (by rw [hml]; rfl) (Steps.refl _) (argsL := [(.ref b14)]) (rest := []) (lenOf own_pd11 rfl) rfl (by show 2 * 0 + _ ≤ _; exact Nat.le_of_eq rfl) (hb hby at_159) (fun _ _ => ⟨rfl, rfl, (by decide : 10 + 0 ≤ _), (by decide : 81 + 0 ≤ _)⟩)
          dsimp only [Pt.U, Pt.locs, Pt.cells, Pt.slots] at X27 l27 y27 z27 st27 hQ27
          subst l27 y27 z27
          obtain ⟨rfl, N27q, eq26⟩ := hQ27
          have N27 := Fr.app N16 N27q
          replace k : own_K p.tables e below (s₁.setTop (entryFrame m #[(.int a0_), (.int a1_), (.int b0_), (.int b1_), (.int mode)] maxLocals)) (T27.setTop (mkF m 162 #[.val (.int a0_), .val (.int a1_), .val (.int b0_), .val (.int b1_), .val (.int mode), .val (.int lenA), .val (.int lenB), .val (.int kind), .val (.int cp), .val (.int ca0), .val (.int ca1), .val (.int cb0), .val (.int cb1), .val (.ref b14), .unset, .unset] [(.int (own_eq (own_cs ca0 ca1 lenA) (own_cs ca0 ca1 lenA)))])) := fun t h => k t (st27.trans h)
          replace k : own_K p.tables e below (s₁.setTop (entryFrame m #[(.int a0_), (.int a1_), (.int b0_), (.int b1_), (.int mode)] maxLocals)) (T27.setTop (mkF m 162 #[.val (.int a0_), .val (.int a1_), .val (.int b0_), .val (.int b1_), .val (.int mode), .val (.int lenA), .val (.int lenB), .val (.int kind), .val (.int cp), .val (.int ca0), .val (.int ca1), .val (.int cb0), .val (.int cb1), .val (.ref b14), .unset, .unset] [(.int (1 : Int32))])) := by
            have q : (own_eq (own_cs ca0 ca1 lenA) (own_cs ca0 ca1 lenA)) = (1 : Int32) := own_eq1 rfl
            rw [← q]; exact k
          obtain ⟨fs, hr, hrun, hended, hEnd⟩ := X27.leaveW hS16 (by rw [eq26]; exact hk16) (v := some (.int (1 : Int32))) (fun h => by rw [Bd.returns] at h; cases h) Bd.notSynchronized
          have CHe : CHr Z consts_1 s.vm s.heap (T27.setFrames fs).vm (T27.setFrames fs).heap := by
            show CHr Z consts_1 s.vm s.heap T27.vm T27.heap
            rw [hh, eq26]
            exact CH.trans (CHv.at X27 hZ16 hEL CH.1)
          refine ⟨_, _, k _ (retOut X27 hx Bd.returns rfl (Or.inl ⟨rfl, by simp [ret], _, rfl⟩) (hb hby at_162) hr), hrun, hended, _, _, rfl, ?_, CHe, hEnd.1, hEnd.2.1, hEnd.2.2.1, hEnd.2.2.2.mono (by decide) (by decide)⟩
          show Q0 Z a0_ a1_ b0_ b1_ mode G1 G3 h0 n0 _ T27.heap _
          rw [eq26]
          exact ⟨rfl, N27⟩
        · replace k : own_K p.tables e below (s₁.setTop (entryFrame m #[(.int a0_), (.int a1_), (.int b0_), (.int b1_), (.int mode)] maxLocals)) (T16.setTop (mkF m 163 #[.val (.int a0_), .val (.int a1_), .val (.int b0_), .val (.int b1_), .val (.int mode), .val (.int lenA), .val (.int lenB), .val (.int kind), .val (.int cp), .val (.int ca0), .val (.int ca1), .val (.int cb0), .val (.int cb1), .val (.ref b14), .unset, .unset] [])) := fun t h => k t (XS.icmpYes X16.here hx rfl (pc0 := 152) (pc' := 163) rfl (hb hby at_152) rfl (feq cc25).2 (by decide) (by decide) h)
          obtain ⟨T28, h28, X28, e28, E28, A28, D28, -, st28⟩ := newO X16 hx hZ16 hown16 (hw _ (List.mem_of_getElem? (i := 5) rfl)) (hw _ (List.mem_of_getElem? (i := 6) rfl)) (hw _ (List.mem_of_getElem? (i := 7) rfl)) rfl (g := (mkF m 163 #[.val (.int a0_), .val (.int a1_), .val (.int b0_), .val (.int b1_), .val (.int mode), .val (.int lenA), .val (.int lenB), .val (.int kind), .val (.int cp), .val (.int ca0), .val (.int ca1), .val (.int cb0), .val (.int cb1), .val (.ref b14), .unset, .unset] [])) rfl (hb hby at_163) (by decide) (by decide)
          obtain ⟨b28, g28⟩ : ∃ z, z = T16.heap.size := ⟨_, rfl⟩
          rw [← g28] at A28 D28 st28
          have ge_b28 : n0 ≤ b28 := Nat.le_trans ZK16 (Nat.le_of_eq g28.symm)
          have Z28 : n0 ≤ h28.size := Nat.le_trans ZK16 E28.1
          replace k : own_K p.tables e below (s₁.setTop (entryFrame m #[(.int a0_), (.int a1_), (.int b0_), (.int b1_), (.int mode)] maxLocals)) (T28.setTop (mkF m 166 #[.val (.int a0_), .val (.int a1_), .val (.int b0_), .val (.int b1_), .val (.int mode), .val (.int lenA), .val (.int lenB), .val (.int kind), .val (.int cp), .val (.int ca0), .val (.int ca1), .val (.int cb0), .val (.int cb1), .val (.ref b14), .unset, .unset] [(.ref b28)])) := fun t h => k t (st28 _ h)
          replace hk16 := Nat.le_trans hk16 E28.1
          replace CH := CH.trans (CHr.ext E28 CH.1)
          have F2 : Fld Z h28 b28 "com/example/ferrolho/ferrolho/lock/LockName" "value" "Ljava/lang/String;" .null := D28 (Or.inr (hw _ (List.mem_of_getElem? (i := 100) rfl))) (ty := (.object "java/lang/String")) (by decide)
          have E2_ := A28
          replace XO := XO.ext E28
          have neab : b14 ≠ b28 := fun q => absurd E1_.lt (by rw [q, g28]; exact Nat.lt_irrefl _)
          replace E1_ := E1_.ext E28
          replace F1 := F1.ext E28
          replace S1 := S1.ext E28
          replace k : own_K p.tables e below (s₁.setTop (entryFrame m #[(.int a0_), (.int a1_), (.int b0_), (.int b1_), (.int mode)] maxLocals)) (T28.setTop (mkF m 167 #[.val (.int a0_), .val (.int a1_), .val (.int b0_), .val (.int b1_), .val (.int mode), .val (.int lenA), .val (.int lenB), .val (.int kind), .val (.int cp), .val (.int ca0), .val (.int ca1), .val (.int cb0), .val (.int cb1), .val (.ref b14), .unset, .unset] [(.ref b28), (.ref b28)])) := fun t h => k t (XS.dup X28.here hx rfl (hb hby at_166) rfl rfl h)
          replace k : own_K p.tables e below (s₁.setTop (entryFrame m #[(.int a0_), (.int a1_), (.int b0_), (.int b1_), (.int mode)] maxLocals)) (T28.setTop (mkF m 169 #[.val (.int a0_), .val (.int a1_), .val (.int b0_), .val (.int b1_), .val (.int mode), .val (.int lenA), .val (.int lenB), .val (.int kind), .val (.int cp), .val (.int ca0), .val (.int ca1), .val (.int cb0), .val (.int cb1), .val (.ref b14), .unset, .unset] [(.int cb0), (.ref b28), (.ref b28)])) := fun t h => k t (XS.iload X28.here hx rfl (hb hby at_167) rfl h)
          replace k : own_K p.tables e below (s₁.setTop (entryFrame m #[(.int a0_), (.int a1_), (.int b0_), (.int b1_), (.int mode)] maxLocals)) (T28.setTop (mkF m 171 #[.val (.int a0_), .val (.int a1_), .val (.int b0_), .val (.int b1_), .val (.int mode), .val (.int lenA), .val (.int lenB), .val (.int kind), .val (.int cp), .val (.int ca0), .val (.int ca1), .val (.int cb0), .val (.int cb1), .val (.ref b14), .unset, .unset] [(.int cb1), (.int cb0), (.ref b28), (.ref b28)])) := fun t h => k t (XS.iload X28.here hx rfl (hb hby at_169) rfl h)
          replace k : own_K p.tables e below (s₁.setTop (entryFrame m #[(.int a0_), (.int a1_), (.int b0_), (.int b1_), (.int mode)] maxLocals)) (T28.setTop (mkF m 173 #[.val (.int a0_), .val (.int a1_), .val (.int b0_), .val (.int b1_), .val (.int mode), .val (.int lenA), .val (.int lenB), .val (.int kind), .val (.int cp), .val (.int ca0), .val (.int ca1), .val (.int cb0), .val (.int cb1), .val (.ref b14), .unset, .unset] [(.int lenB), (.int cb1), (.int cb0), (.ref b28), (.ref b28)])) := fun t h => k t (XS.iload X28.here hx rfl (hb hby at_171) rfl h)
          obtain ⟨_, _, ⟨T29, L29, kk29, n29⟩, -, X29, ⟨Lc29, hQ29, l29, y29, z29⟩, st29⟩ := Jvm.LawKit.callS X28 hx (y := (⟨"com/example/ferrolho/ferrolho/lock/LockNameEqualsPinLaw", "text", "(CCI)Ljava/lang/String;"⟩ : MethodName)) hown16 (mvT hZ16 (hw _ (List.mem_of_getElem? (i := 8) rfl))) (mvT hZ16 (hw _ (List.mem_of_getElem? (i := 9) rfl))) (mvT hZ16 (hw _ (List.mem_of_getElem? (i := 2) rfl))) (mvT hZ16 (hw _ (List.mem_of_getElem? (i := 10) rfl))) (by decide) (backOf (W := 2) (rm20 l Z a0 hw [] cb0 cb1 lenB G1 h28 n0 Z28 O2 P5 XO (own_bd ok3) (own_bd ok4)) hZ16 (hw _ (List.mem_of_getElem? (i := 10) rfl)) (hw _ (List.mem_of_getElem? (i := 2) rfl)) (by decide) (by decide)) (g := (mkF m 173 #[.val (.int a0_), .val (.int a1_), .val (.int b0_), .val (.int b1_), .val (.int mode), .val (.int lenA), .val (.int lenB), .val (.int kind), .val (.int cp), .val (.int ca0), .val (.int ca1), .val (.int cb0), .val (.int cb1), .val (.ref b14), .unset, .unset] [(.int lenB), (.int cb1), (.int cb0), (.ref b28), (.ref b28)])) rfl (by rw [hml]; rfl) (argsL := [(.int cb0), (.int cb1), (.int lenB)]) (rest := [(.ref b28), (.ref b28)]) (lenOf own_pd13 rfl) rfl (by show 2 * 0 + _ ≤ _; exact Nat.le_of_eq rfl) (hb hby at_173) (fun _ _ => ⟨rfl, e28, (by decide : 11 + 3 ≤ _), (by decide : 82 + 8 ≤ _)⟩)
          dsimp only [Pt.U, Pt.locs, Pt.cells, Pt.slots] at X29 l29 y29 z29 st29 hQ29
          subst l29 y29 z29
          obtain ⟨x29, t29, kb29, rfl, N29q, EX29, ST29⟩ := hQ29
          have N29 := Fr.app N16 N29q
          replace k : own_K p.tables e below (s₁.setTop (entryFrame m #[(.int a0_), (.int a1_), (.int b0_), (.int b1_), (.int mode)] maxLocals)) (T29.setTop (mkF m 176 #[.val (.int a0_), .val (.int a1_), .val (.int b0_), .val (.int b1_), .val (.int mode), .val (.int lenA), .val (.int lenB), .val (.int kind), .val (.int cp), .val (.int ca0), .val (.int ca1), .val (.int cb0), .val (.int cb1), .val (.ref b14), .unset, .unset] [(.ref x29), (.ref b28), (.ref b28)])) := fun t h => k t (st29 _ h)
          replace XO := XO.ext EX29
          replace CH := CH.trans (CHr.ext EX29 CH.1)
          replace hk16 := Nat.le_trans hk16 EX29.1
          have ZT29 := Nat.le_trans Z28 EX29.1
          have S2 := ST29
          replace E2_ := E2_.ext EX29
          replace F2 := F2.ext EX29
          replace E1_ := E1_.ext EX29
          replace F1 := F1.ext EX29
          replace S1 := S1.ext EX29
          have hcs2 := own_csok ok3 ok4 hB
          obtain ⟨hbc2, hl2⟩ := own_csb hcs2
          obtain ⟨nx2, nt2⟩ := own_Str.ne S2 E2_ (hw _ (List.mem_of_getElem? (i := 6) rfl))
          obtain ⟨nx3, nt3⟩ := own_Str.ne S1 E2_ (hw _ (List.mem_of_getElem? (i := 6) rfl))
          obtain ⟨_, _, ⟨T30, L30, kk30, n30⟩, -, X30, S30, gr30, ⟨Lc30, hQ30, l30, y30, z30, hC30⟩, st30⟩ := X29.specialBackS hx (y := (⟨"com/example/ferrolho/ferrolho/lock/LockName", "<init>", "(Ljava/lang/String;)V"⟩ : MethodName)) rfl hown16 (mvT hZ16 (hw _ (List.mem_of_getElem? (i := 41) rfl))) (mvT hZ16 (hw _ (List.mem_of_getElem? (i := 42) rfl))) (mvT hZ16 (hw _ (List.mem_of_getElem? (i := 43) rfl))) (by decide) (backOfSH (W := 1) (rm14 l Z a0 hw [] b28 .null x29 t29 kb29 (own_cs cb0 cb1 lenB) G1 G3 T29.heap n0 O2 P5 XO O4 rG3 S2 hcs2 E2_ F2 ge_b28) hZ16 (hw _ (List.mem_of_getElem? (i := 43) rfl)) (hw _ (List.mem_of_getElem? (i := 7) rfl)) (by decide) (by decide) hEL CH.1) (g := (mkF m 176 #[.val (.int a0_), .val (.int a1_), .val (.int b0_), .val (.int b1_), .val (.int mode), .val (.int lenA), .val (.int lenB), .val (.int kind), .val (.int cp), .val (.int ca0), .val (.int ca1), .val (.int cb0), .val (.int cb1), .val (.ref b14), .unset, .unset] [(.ref x29), (.ref b28), (.ref b28)])) rfl (by rw [hml]; rfl) (Steps.refl _) (a := b28) (argsL := [(.ref x29)]) (rest := [(.ref b28)]) (lenOf own_pd14 rfl) rfl (by show 2 * 0 + _ ≤ _; exact Nat.le_of_eq rfl) (hb hby at_176) (fun _ _ => ⟨rfl, rfl, (by decide : 14 + 6 ≤ _), (by decide : 90 + 72 ≤ _)⟩)
          dsimp only [Pt.U, Pt.locs, Pt.cells, Pt.slots] at X30 l30 y30 z30 st30 hQ30 S30 gr30 hC30
          subst l30 y30 z30
          replace CH := CH.trans hC30
          obtain ⟨rfl, N30q, KC, E2_, F2⟩ := hQ30
          have N30 := Fr.app N29 N30q
          obtain ⟨X30, hS30, hZ30, hown30⟩ := rebS hS16 hk16 X30 S30 gr30 hZ16 hown16
          have hk30 : T30.heap.size ≤ T30.heap.size := Nat.le_refl _
          replace k : own_K p.tables e below (s₁.setTop (entryFrame m #[(.int a0_), (.int a1_), (.int b0_), (.int b1_), (.int mode)] maxLocals)) (T30.setTop (mkF m 179 #[.val (.int a0_), .val (.int a1_), .val (.int b0_), .val (.int b1_), .val (.int mode), .val (.int lenA), .val (.int lenB), .val (.int kind), .val (.int cp), .val (.int ca0), .val (.int ca1), .val (.int cb0), .val (.int cb1), .val (.ref b14), .unset, .unset] [(.ref b28)])) := fun t h => k t (st30.trans h)
          replace XO := XO.keep KC (allS ge_b28 all0)
          have ZK30 := Nat.le_trans ZT29 KC.1
          replace S2 := S2.keep KC (ninS nx2 nin0) (ninS nt2 nin0)
          replace E1_ := E1_.keep KC
          replace F1 := F1.keep KC (ninS neab nin0)
          replace S1 := S1.keep KC (ninS nx3 nin0) (ninS nt3 nin0)
          replace k : own_K p.tables e below (s₁.setTop (entryFrame m #[(.int a0_), (.int a1_), (.int b0_), (.int b1_), (.int mode)] maxLocals)) (T30.setTop (mkF m 181 #[.val (.int a0_), .val (.int a1_), .val (.int b0_), .val (.int b1_), .val (.int mode), .val (.int lenA), .val (.int lenB), .val (.int kind), .val (.int cp), .val (.int ca0), .val (.int ca1), .val (.int cb0), .val (.int cb1), .val (.ref b14), .val (.ref b28), .unset] [])) := fun t h => k t (XS.astore X30.here hx rfl (hb hby at_179) rfl rfl (l' := #[.val (.int a0_), .val (.int a1_), .val (.int b0_), .val (.int b1_), .val (.int mode), .val (.int lenA), .val (.int lenB), .val (.int kind), .val (.int cp), .val (.int ca0), .val (.int ca1), .val (.int cb0), .val (.int cb1), .val (.ref b14), .val (.ref b28), .unset]) rfl h)
          refine cps (A := ∃ sm : Int32, own_eq (own_cs ca0 ca1 lenA) (own_cs cb0 cb1 lenB) = sm ∧ own_K p.tables e below (s₁.setTop (entryFrame m #[(.int a0_), (.int a1_), (.int b0_), (.int b1_), (.int mode)] maxLocals)) (T30.setTop (mkF m 215 #[.val (.int a0_), .val (.int a1_), .val (.int b0_), .val (.int b1_), .val (.int mode), .val (.int lenA), .val (.int lenB), .val (.int kind), .val (.int cp), .val (.int ca0), .val (.int ca1), .val (.int cb0), .val (.int cb1), .val (.ref b14), .val (.ref b28), .val (.int sm)] []))) (fun tail => ?_) ?_
          · replace k : own_K p.tables e below (s₁.setTop (entryFrame m #[(.int a0_), (.int a1_), (.int b0_), (.int b1_), (.int mode)] maxLocals)) (T30.setTop (mkF m 183 #[.val (.int a0_), .val (.int a1_), .val (.int b0_), .val (.int b1_), .val (.int mode), .val (.int lenA), .val (.int lenB), .val (.int kind), .val (.int cp), .val (.int ca0), .val (.int ca1), .val (.int cb0), .val (.int cb1), .val (.ref b14), .val (.ref b28), .unset] [(.int lenA)])) := fun t h => k t (XS.iload X30.here hx rfl (hb hby at_181) rfl h)
            replace k : own_K p.tables e below (s₁.setTop (entryFrame m #[(.int a0_), (.int a1_), (.int b0_), (.int b1_), (.int mode)] maxLocals)) (T30.setTop (mkF m 185 #[.val (.int a0_), .val (.int a1_), .val (.int b0_), .val (.int b1_), .val (.int mode), .val (.int lenA), .val (.int lenB), .val (.int kind), .val (.int cp), .val (.int ca0), .val (.int ca1), .val (.int cb0), .val (.int cb1), .val (.ref b14), .val (.ref b28), .unset] [(.int lenB), (.int lenA)])) := fun t h => k t (XS.iload X30.here hx rfl (hb hby at_183) rfl h)
            by_cases cc31 : lenA = lenB
            · replace k : own_K p.tables e below (s₁.setTop (entryFrame m #[(.int a0_), (.int a1_), (.int b0_), (.int b1_), (.int mode)] maxLocals)) (T30.setTop (mkF m 188 #[.val (.int a0_), .val (.int a1_), .val (.int b0_), .val (.int b1_), .val (.int mode), .val (.int lenA), .val (.int lenB), .val (.int kind), .val (.int cp), .val (.int ca0), .val (.int ca1), .val (.int cb0), .val (.int cb1), .val (.ref b14), .val (.ref b28), .unset] [])) := fun t h => k t (XS.icmpNo X30.here hx rfl (hb hby at_185) rfl (teq cc31).2 h)
              replace k : own_K p.tables e below (s₁.setTop (entryFrame m #[(.int a0_), (.int a1_), (.int b0_), (.int b1_), (.int mode)] maxLocals)) (T30.setTop (mkF m 190 #[.val (.int a0_), .val (.int a1_), .val (.int b0_), .val (.int b1_), .val (.int mode), .val (.int lenA), .val (.int lenB), .val (.int kind), .val (.int cp), .val (.int ca0), .val (.int ca1), .val (.int cb0), .val (.int cb1), .val (.ref b14), .val (.ref b28), .unset] [(.int ca0)])) := fun t h => k t (XS.iload X30.here hx rfl (hb hby at_188) rfl h)
              replace k : own_K p.tables e below (s₁.setTop (entryFrame m #[(.int a0_), (.int a1_), (.int b0_), (.int b1_), (.int mode)] maxLocals)) (T30.setTop (mkF m 192 #[.val (.int a0_), .val (.int a1_), .val (.int b0_), .val (.int b1_), .val (.int mode), .val (.int lenA), .val (.int lenB), .val (.int kind), .val (.int cp), .val (.int ca0), .val (.int ca1), .val (.int cb0), .val (.int cb1), .val (.ref b14), .val (.ref b28), .unset] [(.int cb0), (.int ca0)])) := fun t h => k t (XS.iload X30.here hx rfl (hb hby at_190) rfl h)
              by_cases cc32 : ca0 = cb0
              · replace k : own_K p.tables e below (s₁.setTop (entryFrame m #[(.int a0_), (.int a1_), (.int b0_), (.int b1_), (.int mode)] maxLocals)) (T30.setTop (mkF m 195 #[.val (.int a0_), .val (.int a1_), .val (.int b0_), .val (.int b1_), .val (.int mode), .val (.int lenA), .val (.int lenB), .val (.int kind), .val (.int cp), .val (.int ca0), .val (.int ca1), .val (.int cb0), .val (.int cb1), .val (.ref b14), .val (.ref b28), .unset] [])) := fun t h => k t (XS.icmpNo X30.here hx rfl (hb hby at_192) rfl (teq cc32).2 h)
                replace k : own_K p.tables e below (s₁.setTop (entryFrame m #[(.int a0_), (.int a1_), (.int b0_), (.int b1_), (.int mode)] maxLocals)) (T30.setTop (mkF m 197 #[.val (.int a0_), .val (.int a1_), .val (.int b0_), .val (.int b1_), .val (.int mode), .val (.int lenA), .val (.int lenB), .val (.int kind), .val (.int cp), .val (.int ca0), .val (.int ca1), .val (.int cb0), .val (.int cb1), .val (.ref b14), .val (.ref b28), .unset] [(.int lenA)])) := fun t h => k t (XS.iload X30.here hx rfl (hb hby at_195) rfl h)
                replace k : own_K p.tables e below (s₁.setTop (entryFrame m #[(.int a0_), (.int a1_), (.int b0_), (.int b1_), (.int mode)] maxLocals)) (T30.setTop (mkF m 198 #[.val (.int a0_), .val (.int a1_), .val (.int b0_), .val (.int b1_), .val (.int mode), .val (.int lenA), .val (.int lenB), .val (.int kind), .val (.int cp), .val (.int ca0), .val (.int ca1), .val (.int cb0), .val (.int cb1), .val (.ref b14), .val (.ref b28), .unset] [(.int (1 : Int32)), (.int lenA)])) := fun t h => k t (XS.iconst X30.here hx rfl (hb hby at_197) h)
                by_cases cc33 : lenA = (1 : Int32)
                · replace k : own_K p.tables e below (s₁.setTop (entryFrame m #[(.int a0_), (.int a1_), (.int b0_), (.int b1_), (.int mode)] maxLocals)) (T30.setTop (mkF m 208 #[.val (.int a0_), .val (.int a1_), .val (.int b0_), .val (.int b1_), .val (.int mode), .val (.int lenA), .val (.int lenB), .val (.int kind), .val (.int cp), .val (.int ca0), .val (.int ca1), .val (.int cb0), .val (.int cb1), .val (.ref b14), .val (.ref b28), .unset] [])) := fun t h => k t (XS.icmpYes X30.here hx rfl (pc0 := 198) (pc' := 208) rfl (hb hby at_198) rfl (teq cc33).1 (by decide) (by decide) h)
                  replace k : own_K p.tables e below (s₁.setTop (entryFrame m #[(.int a0_), (.int a1_), (.int b0_), (.int b1_), (.int mode)] maxLocals)) (T30.setTop (mkF m 209 #[.val (.int a0_), .val (.int a1_), .val (.int b0_), .val (.int b1_), .val (.int mode), .val (.int lenA), .val (.int lenB), .val (.int kind), .val (.int cp), .val (.int ca0), .val (.int ca1), .val (.int cb0), .val (.int cb1), .val (.ref b14), .val (.ref b28), .unset] [(.int (1 : Int32))])) := fun t h => k t (XS.iconst X30.here hx rfl (hb hby at_208) h)
                  replace k : own_K p.tables e below (s₁.setTop (entryFrame m #[(.int a0_), (.int a1_), (.int b0_), (.int b1_), (.int mode)] maxLocals)) (T30.setTop (mkF m 213 #[.val (.int a0_), .val (.int a1_), .val (.int b0_), .val (.int b1_), .val (.int mode), .val (.int lenA), .val (.int lenB), .val (.int kind), .val (.int cp), .val (.int ca0), .val (.int ca1), .val (.int cb0), .val (.int cb1), .val (.ref b14), .val (.ref b28), .unset] [(.int (1 : Int32))])) := fun t h => k t (XS.goto X30.here hx rfl (pc0 := 209) (pc' := 213) rfl (hb hby at_209) (by decide) (by decide) h)
                  replace k : own_K p.tables e below (s₁.setTop (entryFrame m #[(.int a0_), (.int a1_), (.int b0_), (.int b1_), (.int mode)] maxLocals)) (T30.setTop (mkF m 215 #[.val (.int a0_), .val (.int a1_), .val (.int b0_), .val (.int b1_), .val (.int mode), .val (.int lenA), .val (.int lenB), .val (.int kind), .val (.int cp), .val (.int ca0), .val (.int ca1), .val (.int cb0), .val (.int cb1), .val (.ref b14), .val (.ref b28), .val (.int (1 : Int32))] [])) := fun t h => k t (XS.istore X30.here hx rfl (hb hby at_213) rfl (l' := #[.val (.int a0_), .val (.int a1_), .val (.int b0_), .val (.int b1_), .val (.int mode), .val (.int lenA), .val (.int lenB), .val (.int kind), .val (.int cp), .val (.int ca0), .val (.int ca1), .val (.int cb0), .val (.int cb1), .val (.ref b14), .val (.ref b28), .val (.int (1 : Int32))]) rfl h)
                  exact tail ⟨(1 : Int32), (own_eq1 ((own_csIff hA hB).mpr ⟨cc31, cc32, Or.inl cc33⟩)), k⟩
                · replace k : own_K p.tables e below (s₁.setTop (entryFrame m #[(.int a0_), (.int a1_), (.int b0_), (.int b1_), (.int mode)] maxLocals)) (T30.setTop (mkF m 201 #[.val (.int a0_), .val (.int a1_), .val (.int b0_), .val (.int b1_), .val (.int mode), .val (.int lenA), .val (.int lenB), .val (.int kind), .val (.int cp), .val (.int ca0), .val (.int ca1), .val (.int cb0), .val (.int cb1), .val (.ref b14), .val (.ref b28), .unset] [])) := fun t h => k t (XS.icmpNo X30.here hx rfl (hb hby at_198) rfl (feq cc33).1 h)
                  replace k : own_K p.tables e below (s₁.setTop (entryFrame m #[(.int a0_), (.int a1_), (.int b0_), (.int b1_), (.int mode)] maxLocals)) (T30.setTop (mkF m 203 #[.val (.int a0_), .val (.int a1_), .val (.int b0_), .val (.int b1_), .val (.int mode), .val (.int lenA), .val (.int lenB), .val (.int kind), .val (.int cp), .val (.int ca0), .val (.int ca1), .val (.int cb0), .val (.int cb1), .val (.ref b14), .val (.ref b28), .unset] [(.int ca1)])) := fun t h => k t (XS.iload X30.here hx rfl (hb hby at_201) rfl h)
                  replace k : own_K p.tables e below (s₁.setTop (entryFrame m #[(.int a0_), (.int a1_), (.int b0_), (.int b1_), (.int mode)] maxLocals)) (T30.setTop (mkF m 205 #[.val (.int a0_), .val (.int a1_), .val (.int b0_), .val (.int b1_), .val (.int mode), .val (.int lenA), .val (.int lenB), .val (.int kind), .val (.int cp), .val (.int ca0), .val (.int ca1), .val (.int cb0), .val (.int cb1), .val (.ref b14), .val (.ref b28), .unset] [(.int cb1), (.int ca1)])) := fun t h => k t (XS.iload X30.here hx rfl (hb hby at_203) rfl h)
                  by_cases cc34 : ca1 = cb1
                  · replace k : own_K p.tables e below (s₁.setTop (entryFrame m #[(.int a0_), (.int a1_), (.int b0_), (.int b1_), (.int mode)] maxLocals)) (T30.setTop (mkF m 208 #[.val (.int a0_), .val (.int a1_), .val (.int b0_), .val (.int b1_), .val (.int mode), .val (.int lenA), .val (.int lenB), .val (.int kind), .val (.int cp), .val (.int ca0), .val (.int ca1), .val (.int cb0), .val (.int cb1), .val (.ref b14), .val (.ref b28), .unset] [])) := fun t h => k t (XS.icmpNo X30.here hx rfl (hb hby at_205) rfl (teq cc34).2 h)
                    replace k : own_K p.tables e below (s₁.setTop (entryFrame m #[(.int a0_), (.int a1_), (.int b0_), (.int b1_), (.int mode)] maxLocals)) (T30.setTop (mkF m 209 #[.val (.int a0_), .val (.int a1_), .val (.int b0_), .val (.int b1_), .val (.int mode), .val (.int lenA), .val (.int lenB), .val (.int kind), .val (.int cp), .val (.int ca0), .val (.int ca1), .val (.int cb0), .val (.int cb1), .val (.ref b14), .val (.ref b28), .unset] [(.int (1 : Int32))])) := fun t h => k t (XS.iconst X30.here hx rfl (hb hby at_208) h)
                    replace k : own_K p.tables e below (s₁.setTop (entryFrame m #[(.int a0_), (.int a1_), (.int b0_), (.int b1_), (.int mode)] maxLocals)) (T30.setTop (mkF m 213 #[.val (.int a0_), .val (.int a1_), .val (.int b0_), .val (.int b1_), .val (.int mode), .val (.int lenA), .val (.int lenB), .val (.int kind), .val (.int cp), .val (.int ca0), .val (.int ca1), .val (.int cb0), .val (.int cb1), .val (.ref b14), .val (.ref b28), .unset] [(.int (1 : Int32))])) := fun t h => k t (XS.goto X30.here hx rfl (pc0 := 209) (pc' := 213) rfl (hb hby at_209) (by decide) (by decide) h)
                    replace k : own_K p.tables e below (s₁.setTop (entryFrame m #[(.int a0_), (.int a1_), (.int b0_), (.int b1_), (.int mode)] maxLocals)) (T30.setTop (mkF m 215 #[.val (.int a0_), .val (.int a1_), .val (.int b0_), .val (.int b1_), .val (.int mode), .val (.int lenA), .val (.int lenB), .val (.int kind), .val (.int cp), .val (.int ca0), .val (.int ca1), .val (.int cb0), .val (.int cb1), .val (.ref b14), .val (.ref b28), .val (.int (1 : Int32))] [])) := fun t h => k t (XS.istore X30.here hx rfl (hb hby at_213) rfl (l' := #[.val (.int a0_), .val (.int a1_), .val (.int b0_), .val (.int b1_), .val (.int mode), .val (.int lenA), .val (.int lenB), .val (.int kind), .val (.int cp), .val (.int ca0), .val (.int ca1), .val (.int cb0), .val (.int cb1), .val (.ref b14), .val (.ref b28), .val (.int (1 : Int32))]) rfl h)
                    exact tail ⟨(1 : Int32), (own_eq1 ((own_csIff hA hB).mpr ⟨cc31, cc32, Or.inr cc34⟩)), k⟩
                  · replace k : own_K p.tables e below (s₁.setTop (entryFrame m #[(.int a0_), (.int a1_), (.int b0_), (.int b1_), (.int mode)] maxLocals)) (T30.setTop (mkF m 212 #[.val (.int a0_), .val (.int a1_), .val (.int b0_), .val (.int b1_), .val (.int mode), .val (.int lenA), .val (.int lenB), .val (.int kind), .val (.int cp), .val (.int ca0), .val (.int ca1), .val (.int cb0), .val (.int cb1), .val (.ref b14), .val (.ref b28), .unset] [])) := fun t h => k t (XS.icmpYes X30.here hx rfl (pc0 := 205) (pc' := 212) rfl (hb hby at_205) rfl (feq cc34).2 (by decide) (by decide) h)
                    replace k : own_K p.tables e below (s₁.setTop (entryFrame m #[(.int a0_), (.int a1_), (.int b0_), (.int b1_), (.int mode)] maxLocals)) (T30.setTop (mkF m 213 #[.val (.int a0_), .val (.int a1_), .val (.int b0_), .val (.int b1_), .val (.int mode), .val (.int lenA), .val (.int lenB), .val (.int kind), .val (.int cp), .val (.int ca0), .val (.int ca1), .val (.int cb0), .val (.int cb1), .val (.ref b14), .val (.ref b28), .unset] [(.int (0 : Int32))])) := fun t h => k t (XS.iconst X30.here hx rfl (hb hby at_212) h)
                    replace k : own_K p.tables e below (s₁.setTop (entryFrame m #[(.int a0_), (.int a1_), (.int b0_), (.int b1_), (.int mode)] maxLocals)) (T30.setTop (mkF m 215 #[.val (.int a0_), .val (.int a1_), .val (.int b0_), .val (.int b1_), .val (.int mode), .val (.int lenA), .val (.int lenB), .val (.int kind), .val (.int cp), .val (.int ca0), .val (.int ca1), .val (.int cb0), .val (.int cb1), .val (.ref b14), .val (.ref b28), .val (.int (0 : Int32))] [])) := fun t h => k t (XS.istore X30.here hx rfl (hb hby at_213) rfl (l' := #[.val (.int a0_), .val (.int a1_), .val (.int b0_), .val (.int b1_), .val (.int mode), .val (.int lenA), .val (.int lenB), .val (.int kind), .val (.int cp), .val (.int ca0), .val (.int ca1), .val (.int cb0), .val (.int cb1), .val (.ref b14), .val (.ref b28), .val (.int (0 : Int32))]) rfl h)
                    exact tail ⟨(0 : Int32), (own_eq0 (fun q0 => by
                      have q := (own_csIff hA hB).mp q0
                      exact (q.2.2.elim cc33 cc34))), k⟩
              · replace k : own_K p.tables e below (s₁.setTop (entryFrame m #[(.int a0_), (.int a1_), (.int b0_), (.int b1_), (.int mode)] maxLocals)) (T30.setTop (mkF m 212 #[.val (.int a0_), .val (.int a1_), .val (.int b0_), .val (.int b1_), .val (.int mode), .val (.int lenA), .val (.int lenB), .val (.int kind), .val (.int cp), .val (.int ca0), .val (.int ca1), .val (.int cb0), .val (.int cb1), .val (.ref b14), .val (.ref b28), .unset] [])) := fun t h => k t (XS.icmpYes X30.here hx rfl (pc0 := 192) (pc' := 212) rfl (hb hby at_192) rfl (feq cc32).2 (by decide) (by decide) h)
                replace k : own_K p.tables e below (s₁.setTop (entryFrame m #[(.int a0_), (.int a1_), (.int b0_), (.int b1_), (.int mode)] maxLocals)) (T30.setTop (mkF m 213 #[.val (.int a0_), .val (.int a1_), .val (.int b0_), .val (.int b1_), .val (.int mode), .val (.int lenA), .val (.int lenB), .val (.int kind), .val (.int cp), .val (.int ca0), .val (.int ca1), .val (.int cb0), .val (.int cb1), .val (.ref b14), .val (.ref b28), .unset] [(.int (0 : Int32))])) := fun t h => k t (XS.iconst X30.here hx rfl (hb hby at_212) h)
                replace k : own_K p.tables e below (s₁.setTop (entryFrame m #[(.int a0_), (.int a1_), (.int b0_), (.int b1_), (.int mode)] maxLocals)) (T30.setTop (mkF m 215 #[.val (.int a0_), .val (.int a1_), .val (.int b0_), .val (.int b1_), .val (.int mode), .val (.int lenA), .val (.int lenB), .val (.int kind), .val (.int cp), .val (.int ca0), .val (.int ca1), .val (.int cb0), .val (.int cb1), .val (.ref b14), .val (.ref b28), .val (.int (0 : Int32))] [])) := fun t h => k t (XS.istore X30.here hx rfl (hb hby at_213) rfl (l' := #[.val (.int a0_), .val (.int a1_), .val (.int b0_), .val (.int b1_), .val (.int mode), .val (.int lenA), .val (.int lenB), .val (.int kind), .val (.int cp), .val (.int ca0), .val (.int ca1), .val (.int cb0), .val (.int cb1), .val (.ref b14), .val (.ref b28), .val (.int (0 : Int32))]) rfl h)
                exact tail ⟨(0 : Int32), (own_eq0 (fun q0 => by
                  have q := (own_csIff hA hB).mp q0
                  exact cc32 q.2.1)), k⟩
            · replace k : own_K p.tables e below (s₁.setTop (entryFrame m #[(.int a0_), (.int a1_), (.int b0_), (.int b1_), (.int mode)] maxLocals)) (T30.setTop (mkF m 212 #[.val (.int a0_), .val (.int a1_), .val (.int b0_), .val (.int b1_), .val (.int mode), .val (.int lenA), .val (.int lenB), .val (.int kind), .val (.int cp), .val (.int ca0), .val (.int ca1), .val (.int cb0), .val (.int cb1), .val (.ref b14), .val (.ref b28), .unset] [])) := fun t h => k t (XS.icmpYes X30.here hx rfl (pc0 := 185) (pc' := 212) rfl (hb hby at_185) rfl (feq cc31).2 (by decide) (by decide) h)
              replace k : own_K p.tables e below (s₁.setTop (entryFrame m #[(.int a0_), (.int a1_), (.int b0_), (.int b1_), (.int mode)] maxLocals)) (T30.setTop (mkF m 213 #[.val (.int a0_), .val (.int a1_), .val (.int b0_), .val (.int b1_), .val (.int mode), .val (.int lenA), .val (.int lenB), .val (.int kind), .val (.int cp), .val (.int ca0), .val (.int ca1), .val (.int cb0), .val (.int cb1), .val (.ref b14), .val (.ref b28), .unset] [(.int (0 : Int32))])) := fun t h => k t (XS.iconst X30.here hx rfl (hb hby at_212) h)
              replace k : own_K p.tables e below (s₁.setTop (entryFrame m #[(.int a0_), (.int a1_), (.int b0_), (.int b1_), (.int mode)] maxLocals)) (T30.setTop (mkF m 215 #[.val (.int a0_), .val (.int a1_), .val (.int b0_), .val (.int b1_), .val (.int mode), .val (.int lenA), .val (.int lenB), .val (.int kind), .val (.int cp), .val (.int ca0), .val (.int ca1), .val (.int cb0), .val (.int cb1), .val (.ref b14), .val (.ref b28), .val (.int (0 : Int32))] [])) := fun t h => k t (XS.istore X30.here hx rfl (hb hby at_213) rfl (l' := #[.val (.int a0_), .val (.int a1_), .val (.int b0_), .val (.int b1_), .val (.int mode), .val (.int lenA), .val (.int lenB), .val (.int kind), .val (.int cp), .val (.int ca0), .val (.int ca1), .val (.int cb0), .val (.int cb1), .val (.ref b14), .val (.ref b28), .val (.int (0 : Int32))]) rfl h)
              exact tail ⟨(0 : Int32), (own_eq0 (fun q0 => by
                have q := (own_csIff hA hB).mp q0
                exact cc31 q.1)), k⟩
          · rintro ⟨sm, hsm, k⟩
            replace k : own_K p.tables e below (s₁.setTop (entryFrame m #[(.int a0_), (.int a1_), (.int b0_), (.int b1_), (.int mode)] maxLocals)) (T30.setTop (mkF m 217 #[.val (.int a0_), .val (.int a1_), .val (.int b0_), .val (.int b1_), .val (.int mode), .val (.int lenA), .val (.int lenB), .val (.int kind), .val (.int cp), .val (.int ca0), .val (.int ca1), .val (.int cb0), .val (.int cb1), .val (.ref b14), .val (.ref b28), .val (.int sm)] [(.ref b14)])) := fun t h => k t (XS.aload X30.here hx rfl (hb hby at_215) rfl rfl h)
            replace k : own_K p.tables e below (s₁.setTop (entryFrame m #[(.int a0_), (.int a1_), (.int b0_), (.int b1_), (.int mode)] maxLocals)) (T30.setTop (mkF m 219 #[.val (.int a0_), .val (.int a1_), .val (.int b0_), .val (.int b1_), .val (.int mode), .val (.int lenA), .val (.int lenB), .val (.int kind), .val (.int cp), .val (.int ca0), .val (.int ca1), .val (.int cb0), .val (.int cb1), .val (.ref b14), .val (.ref b28), .val (.int sm)] [(.ref b28), (.ref b14)])) := fun t h => k t (XS.aload X30.here hx rfl (hb hby at_217) rfl rfl h)
            obtain ⟨cq36, kq36, q36a, q36b, q36c⟩ := isOf hZ30 rfl E1_
            obtain ⟨_, _, ⟨T36, L36, kk36, n36⟩, -, X36, ⟨Lc36, hQ36, l36, y36, z36⟩, st36⟩ := X30.virtualBack hx (y := (⟨"com/example/ferrolho/ferrolho/lock/LockName", "equals", "(Ljava/lang/Object;)Z"⟩ : MethodName)) (z := (⟨"com/example/ferrolho/ferrolho/lock/LockName", "equals", "(Ljava/lang/Object;)Z"⟩ : MethodName)) hown30 (mvT hZ30 (hw _ (List.mem_of_getElem? (i := 101) rfl))) (mvT hZ30 (hw _ (List.mem_of_getElem? (i := 102) rfl))) (notFace_of_selects (args := #[]) (mvT hZ30 (hw _ (List.mem_of_getElem? (i := 104) rfl)))) (mvT hZ30 (hw _ (List.mem_of_getElem? (i := 104) rfl))) (mvT hZ30 (hw _ (List.mem_of_getElem? (i := 103) rfl))) (by decide) (backOf (W := 0) (rm17 l Z a0 hw [] b14 b28 x15 t15 kb15 (own_cs ca0 ca1 lenA) x29 t29 kb29 (own_cs cb0 cb1 lenB) G1 T30.heap n0 O2 P5 XO S1 hbc1 hl1 S2 hbc2 hl2 E2_ F1 F2) hZ30 (hw _ (List.mem_of_getElem? (i := 105) rfl)) (hw _ (List.mem_of_getElem? (i := 7) rfl)) (by decide) (by decide)) q36a q36c (g := (mkF m 219 #[.val (.int a0_), .val (.int a1_), .val (.int b0_), .val (.int b1_), .val (.int mode), .val (.int lenA), .val (.int lenB), .val (.int kind), .val (.int cp), .val (.int ca0), .val (.int ca1), .val (.int cb0), .val (.int cb1), .val (.ref b14), .val (.ref b28), .val (.int sm)] [(.ref b28), (.ref b14)])) rfl (by rw [hml]; rfl) (Steps.refl _) (argsL := [(.ref b28)]) (rest := []) (lenOf own_pd11 rfl) rfl (by show 2 * 0 + _ ≤ _; exact Nat.le_of_eq rfl) (hb hby at_219) (fun _ _ => ⟨rfl, rfl, (by decide : 20 + 0 ≤ _), (by decide : 162 + 0 ≤ _)⟩)
            dsimp only [Pt.U, Pt.locs, Pt.cells, Pt.slots] at X36 l36 y36 z36 st36 hQ36
            subst l36 y36 z36
            obtain ⟨rfl, N36q, eq35⟩ := hQ36
            have N36 := Fr.app N30 N36q
            replace k : own_K p.tables e below (s₁.setTop (entryFrame m #[(.int a0_), (.int a1_), (.int b0_), (.int b1_), (.int mode)] maxLocals)) (T36.setTop (mkF m 222 #[.val (.int a0_), .val (.int a1_), .val (.int b0_), .val (.int b1_), .val (.int mode), .val (.int lenA), .val (.int lenB), .val (.int kind), .val (.int cp), .val (.int ca0), .val (.int ca1), .val (.int cb0), .val (.int cb1), .val (.ref b14), .val (.ref b28), .val (.int sm)] [(.int (own_eq (own_cs ca0 ca1 lenA) (own_cs cb0 cb1 lenB)))])) := fun t h => k t (st36.trans h)
            replace k : own_K p.tables e below (s₁.setTop (entryFrame m #[(.int a0_), (.int a1_), (.int b0_), (.int b1_), (.int mode)] maxLocals)) (T36.setTop (mkF m 224 #[.val (.int a0_), .val (.int a1_), .val (.int b0_), .val (.int b1_), .val (.int mode), .val (.int lenA), .val (.int lenB), .val (.int kind), .val (.int cp), .val (.int ca0), .val (.int ca1), .val (.int cb0), .val (.int cb1), .val (.ref b14), .val (.ref b28), .val (.int sm)] [(.int sm), (.int (own_eq (own_cs ca0 ca1 lenA) (own_cs cb0 cb1 lenB)))])) := fun t h => k t (XS.iload X36.here hx rfl (hb hby at_222) rfl h)
            replace k : own_K p.tables e below (s₁.setTop (entryFrame m #[(.int a0_), (.int a1_), (.int b0_), (.int b1_), (.int mode)] maxLocals)) (T36.setTop (mkF m 227 #[.val (.int a0_), .val (.int a1_), .val (.int b0_), .val (.int b1_), .val (.int mode), .val (.int lenA), .val (.int lenB), .val (.int kind), .val (.int cp), .val (.int ca0), .val (.int ca1), .val (.int cb0), .val (.int cb1), .val (.ref b14), .val (.ref b28), .val (.int sm)] [])) := fun t h => k t (XS.icmpNo X36.here hx rfl (hb hby at_224) rfl (teq hsm).2 h)
            replace k : own_K p.tables e below (s₁.setTop (entryFrame m #[(.int a0_), (.int a1_), (.int b0_), (.int b1_), (.int mode)] maxLocals)) (T36.setTop (mkF m 229 #[.val (.int a0_), .val (.int a1_), .val (.int b0_), .val (.int b1_), .val (.int mode), .val (.int lenA), .val (.int lenB), .val (.int kind), .val (.int cp), .val (.int ca0), .val (.int ca1), .val (.int cb0), .val (.int cb1), .val (.ref b14), .val (.ref b28), .val (.int sm)] [(.ref b28)])) := fun t h => k t (XS.aload X36.here hx rfl (hb hby at_227) rfl rfl h)
            replace k : own_K p.tables e below (s₁.setTop (entryFrame m #[(.int a0_), (.int a1_), (.int b0_), (.int b1_), (.int mode)] maxLocals)) (T36.setTop (mkF m 231 #[.val (.int a0_), .val (.int a1_), .val (.int b0_), .val (.int b1_), .val (.int mode), .val (.int lenA), .val (.int lenB), .val (.int kind), .val (.int cp), .val (.int ca0), .val (.int ca1), .val (.int cb0), .val (.int cb1), .val (.ref b14), .val (.ref b28), .val (.int sm)] [(.ref b14), (.ref b28)])) := fun t h => k t (XS.aload X36.here hx rfl (hb hby at_229) rfl rfl h)
            obtain ⟨cq38, kq38, q38a, q38b, q38c⟩ := isOf hZ30 eq35 E2_
            obtain ⟨_, _, ⟨T38, L38, kk38, n38⟩, -, X38, ⟨Lc38, hQ38, l38, y38, z38⟩, st38⟩ := X36.virtualBack hx (y := (⟨"com/example/ferrolho/ferrolho/lock/LockName", "equals", "(Ljava/lang/Object;)Z"⟩ : MethodName)) (z := (⟨"com/example/ferrolho/ferrolho/lock/LockName", "equals", "(Ljava/lang/Object;)Z"⟩ : MethodName)) hown30 (mvT hZ30 (hw _ (List.mem_of_getElem? (i := 101) rfl))) (mvT hZ30 (hw _ (List.mem_of_getElem? (i := 102) rfl))) (notFace_of_selects (args := #[]) (mvT hZ30 (hw _ (List.mem_of_getElem? (i := 104) rfl)))) (mvT hZ30 (hw _ (List.mem_of_getElem? (i := 104) rfl))) (mvT hZ30 (hw _ (List.mem_of_getElem? (i := 103) rfl))) (by decide) (backOf (W := 0) (rm17 l Z a0 hw [] b28 b14 x29 t29 kb29 (own_cs cb0 cb1 lenB) x15 t15 kb15 (own_cs ca0 ca1 lenA) G1 T30.heap n0 O2 P5 XO S2 hbc2 hl2 S1 hbc1 hl1 E1_ F2 F1) hZ30 (hw _ (List.mem_of_getElem? (i := 105) rfl)) (hw _ (List.mem_of_getElem? (i := 7) rfl)) (by decide) (by decide)) q38a q38c (g := (mkF m 231 #[.val (.int a0_), .val (.int a1_), .val (.int b0_), .val (.int b1_), .val (.int mode), .val (.int lenA), .val (.int lenB), .val (.int kind), .val (.int cp), .val (.int ca0), .val (.int ca1), .val (.int cb0), .val (.int cb1), .val (.ref b14), .val (.ref b28), .val (.int sm)] [(.ref b14), (.ref b28)])) rfl (by rw [hml]; rfl) (Steps.refl _) (argsL := [(.ref b14)]) (rest := []) (lenOf own_pd11 rfl) rfl (by show 2 * 0 + _ ≤ _; exact Nat.le_of_eq rfl) (hb hby at_231) (fun _ _ => ⟨rfl, eq35, (by decide : 20 + 0 ≤ _), (by decide : 162 + 0 ≤ _)⟩)
            dsimp only [Pt.U, Pt.locs, Pt.cells, Pt.slots] at X38 l38 y38 z38 st38 hQ38
            subst l38 y38 z38
            obtain ⟨rfl, N38q, eq37⟩ := hQ38
            have N38 := Fr.app N36 N38q
            replace k : own_K p.tables e below (s₁.setTop (entryFrame m #[(.int a0_), (.int a1_), (.int b0_), (.int b1_), (.int mode)] maxLocals)) (T38.setTop (mkF m 234 #[.val (.int a0_), .val (.int a1_), .val (.int b0_), .val (.int b1_), .val (.int mode), .val (.int lenA), .val (.int lenB), .val (.int kind), .val (.int cp), .val (.int ca0), .val (.int ca1), .val (.int cb0), .val (.int cb1), .val (.ref b14), .val (.ref b28), .val (.int sm)] [(.int (own_eq (own_cs cb0 cb1 lenB) (own_cs ca0 ca1 lenA)))])) := fun t h => k t (st38.trans h)
            replace k : own_K p.tables e below (s₁.setTop (entryFrame m #[(.int a0_), (.int a1_), (.int b0_), (.int b1_), (.int mode)] maxLocals)) (T38.setTop (mkF m 236 #[.val (.int a0_), .val (.int a1_), .val (.int b0_), .val (.int b1_), .val (.int mode), .val (.int lenA), .val (.int lenB), .val (.int kind), .val (.int cp), .val (.int ca0), .val (.int ca1), .val (.int cb0), .val (.int cb1), .val (.ref b14), .val (.ref b28), .val (.int sm)] [(.int sm), (.int (own_eq (own_cs cb0 cb1 lenB) (own_cs ca0 ca1 lenA)))])) := fun t h => k t (XS.iload X38.here hx rfl (hb hby at_234) rfl h)
            replace k : own_K p.tables e below (s₁.setTop (entryFrame m #[(.int a0_), (.int a1_), (.int b0_), (.int b1_), (.int mode)] maxLocals)) (T38.setTop (mkF m 239 #[.val (.int a0_), .val (.int a1_), .val (.int b0_), .val (.int b1_), .val (.int mode), .val (.int lenA), .val (.int lenB), .val (.int kind), .val (.int cp), .val (.int ca0), .val (.int ca1), .val (.int cb0), .val (.int cb1), .val (.ref b14), .val (.ref b28), .val (.int sm)] [])) := fun t h => k t (XS.icmpNo X38.here hx rfl (hb hby at_236) rfl (teq ((own_eqc _ _).trans hsm)).2 h)
            replace k : own_K p.tables e below (s₁.setTop (entryFrame m #[(.int a0_), (.int a1_), (.int b0_), (.int b1_), (.int mode)] maxLocals)) (T38.setTop (mkF m 240 #[.val (.int a0_), .val (.int a1_), .val (.int b0_), .val (.int b1_), .val (.int mode), .val (.int lenA), .val (.int lenB), .val (.int kind), .val (.int cp), .val (.int ca0), .val (.int ca1), .val (.int cb0), .val (.int cb1), .val (.ref b14), .val (.ref b28), .val (.int sm)] [(.int (1 : Int32))])) := fun t h => k t (XS.iconst X38.here hx rfl (hb hby at_239) h)
            replace k : own_K p.tables e below (s₁.setTop (entryFrame m #[(.int a0_), (.int a1_), (.int b0_), (.int b1_), (.int mode)] maxLocals)) (T38.setTop (mkF m 244 #[.val (.int a0_), .val (.int a1_), .val (.int b0_), .val (.int b1_), .val (.int mode), .val (.int lenA), .val (.int lenB), .val (.int kind), .val (.int cp), .val (.int ca0), .val (.int ca1), .val (.int cb0), .val (.int cb1), .val (.ref b14), .val (.ref b28), .val (.int sm)] [(.int (1 : Int32))])) := fun t h => k t (XS.goto X38.here hx rfl (pc0 := 240) (pc' := 244) rfl (hb hby at_240) (by decide) (by decide) h)
            obtain ⟨fs, hr, hrun, hended, hEnd⟩ := X38.leaveW hS30 (by rw [eq37]; exact hk30) (v := some (.int (1 : Int32))) (fun h => by rw [Bd.returns] at h; cases h) Bd.notSynchronized
            have CHe : CHr Z consts_1 s.vm s.heap (T38.setFrames fs).vm (T38.setFrames fs).heap := by
              show CHr Z consts_1 s.vm s.heap T38.vm T38.heap
              rw [hh, eq37]
              exact CH.trans (CHv.at X38 hZ30 hEL CH.1)
            refine ⟨_, _, k _ (retOut X38 hx Bd.returns rfl (Or.inl ⟨rfl, by simp [ret], _, rfl⟩) (hb hby at_244) hr), hrun, hended, _, _, rfl, ?_, CHe, hEnd.1, hEnd.2.1, hEnd.2.2.1, hEnd.2.2.2.mono (by decide) (by decide)⟩
            show Q0 Z a0_ a1_ b0_ b1_ mode G1 G3 h0 n0 _ T38.heap _
            rw [eq37]
            exact ⟨rfl, N38⟩
set_option maxRecDepth 65536 in
set_option maxHeartbeats 40000000 in
theorem comes_1 {Post : Tables → Env → Array Value → State → Outcome → State → Prop} (hpost : ∀ tb e args s v u, (limb_1_1.after args s (.returned v) u = true ∧ limb_1_2.after args s (.returned v) u = true ∧ True) → ReturnedEndW s (.returned v) u (Jvm.fieldLocs frame_1_writes args s ++ Jvm.arrayLocs frame_1_arrays args s ++ Jvm.staticLocs frame_1_statics s) 32 2176 → Post tb e args s (.returned v) u) :
    ArmFor flags0 classFile x code maxLocals ret World_1 tables_1 room_1 Calls_1 rest_1 Pre_1 Post := by
  intro l hfl _ _ p e ha hc hk s m args below hf hA hF happ hP
  obtain ⟨hcalls, hrest, hpre⟩ := hP
  obtain ⟨-, -, -, hnamed, -, -, -, hat⟩ := (Spec.applies_iff hf).mp happ
  obtain ⟨hg, hn⟩ := and_e (Cond.before_iff.mp (show (Jvm.Cond.and given_1 narrow_1).before args s = true from hpre))
  obtain ⟨hcount, hg⟩ := and_e hg
  obtain ⟨w0, w1, w2, w3, w4, rfl⟩ : ∃ w0 w1 w2 w3 w4 : Value, args = #[w0, w1, w2, w3, w4] := by
    have hs : args.size = 5 := by simpa [Cond.value, given_1] using hcount
    obtain ⟨L⟩ := args
    match L, hs with
    | [w0, w1, w2, w3, w4], _ => exact ⟨w0, w1, w2, w3, w4, rfl⟩
  have hw := fun d (hd : d ∈ tables_1) => atoms_spec (ws := Jvm.Cond.code x code maxLocals ret :: tables_1) hat d (List.mem_cons_of_mem _ hd)
  have hfit : Fit s := fun {y c} hc i hi => by
    obtain ⟨ha, rfl⟩ := Array.getElem?_eq_some_iff.mp hc
    have q := List.all_eq_true.mp ((Array.all_eq_true_iff_forall_mem.mp hF) _ (Array.getElem_mem ha)) i (List.mem_range.mpr hi)
    simpa [Array.getElem?_eq_getElem hi] using q
  obtain ⟨hg0, hg⟩ := and_e hg
  obtain ⟨i0, hi0⟩ := is_v hg0
  obtain rfl : w0 = (.int i0) := Option.some.inj hi0
  obtain ⟨hg1, hg⟩ := and_e hg
  obtain ⟨i1, hi1⟩ := is_v hg1
  obtain rfl : w1 = (.int i1) := Option.some.inj hi1
  obtain ⟨hg2, hg⟩ := and_e hg
  obtain ⟨i2, hi2⟩ := is_v hg2
  obtain rfl : w2 = (.int i2) := Option.some.inj hi2
  obtain ⟨hg3, hg⟩ := and_e hg
  obtain ⟨i3, hi3⟩ := is_v hg3
  obtain rfl : w3 = (.int i3) := Option.some.inj hi3
  obtain ⟨i4, hi4⟩ := is_v hg
  obtain rfl : w4 = (.int i4) := Option.some.inj hi4
  obtain ⟨hsets, hown0⟩ := atoms_of _ (rest_1_c_eq ▸ (show rest_1_c.before _ s = true from hrest))
  have n5 := not_v (Cond.before_iff.mp (hsets _ (List.mem_of_getElem? (i := 2) rfl)))
  obtain ⟨G1, e10⟩ := is_v (Cond.before_iff.mp (hsets _ (List.mem_of_getElem? (i := 1) rfl)))
  have O2 : Sta s s.heap "java/lang/String" "COMPACT_STRINGS" "Z" (.int G1) := Sta.start e10 (Or.inl (hsets _ (List.mem_of_getElem? (i := 0) rfl)))
  obtain ⟨G3, e14, rG3⟩ := isR_v (Cond.before_iff.mp (hsets _ (List.mem_of_getElem? (i := 8) rfl)))
  have O4 : Sta s s.heap "jdk/internal/util/Preconditions" "SIOOBE_FORMATTER" "Ljava/util/function/BiFunction;" G3 := Sta.start e14 (Or.inl (hsets _ (List.mem_of_getElem? (i := 7) rfl)))
  have P5 : ¬ (G1 = (0 : Int32)) := gotF (Cond.eq_ints e10 (Term.int_eval (0))) n5
  have hCH0 : CHv s consts_1 s.vm s.heap := CHv.start (own_EW hw) hcalls.1 (hsets _ (List.mem_of_getElem? (i := 2) rfl)) (hw _ (List.mem_of_getElem? (i := 30) rfl)) (hw _ (List.mem_of_getElem? (i := 13) rfl))
  obtain ⟨n, o, h1, h2, h3, _, L, rfl, ⟨rfl, N⟩, hCHe, hq⟩ := rm0 l s _ hw tables_1 i0 i1 i2 i3 i4 G1 G3 s.heap s.heap.size (Nat.le_refl _) O2 P5 (Old.start s) O4 rG3 p e ha hc hk s m _ below hf ((Spec.applies_iff_loose hf).mp happ).1 ⟨rfl, State.Warmed39.refl s, rfl, hCH0⟩ trivial
  refine ⟨n, _, h1, h2, h3, hpost _ _ _ _ _ _ ⟨Cond.after_iff.mpr rfl, Cond.after_iff.mpr (eq_i res_at (Term.int_eval (1)) rfl), trivial⟩ ⟨hq.1, hq.2.1, hq.2.2.1, (hq.2.2.2.sift fun y hy => Or.inr (N y hy)).mono (by decide) (by decide)⟩⟩
theorem main_1_1 : Claimed_1_1 := comes_1 fun _ _ _ _ _ _ h hF => ⟨h.1, hF⟩
theorem main_1_2 : Claimed_1_2 := comes_1 fun _ _ _ _ _ _ h hF => ⟨h.2.1, hF⟩
end Jvm.Pilot.@@N@@
namespace Jvm.Pilot.@@N@@
open Jvm Jvm.ClassFile Sem Op Lib Jvm.Free Jvm.Stand Jvm.Pilot.@@N@@.Jvm.D
/-! MADE BY PROGRAM (witnessworld.py) out of the Statement's table words and the real class files: 22 classes; the members and pool entries that the words name. The judged class is class 1, her method 3. -/
namespace start1
open Jvm.ClassFile
def u (s : String) : CpInfo := .utf8 (stringToUtf16 s)
/-- a pool by its gaps: so many unusable entries, then the entry; so many at the end -/
def gap : Nat → List CpInfo → List CpInfo
  | 0, r => r
  | n + 1, r => .unusable :: gap n r
def poolList (es : List (Nat × CpInfo)) (last : Nat) : List CpInfo := es.foldr (fun e r => gap e.1 (e.2 :: r)) (gap last [])
def pool (es : List (Nat × CpInfo)) (last : Nat) : Array CpInfo := ⟨poolList es last⟩
def fileOf (pool : Array CpInfo) (this : Nat) (attrs : Array Attribute := #[]) (ms : Array MethodInfo := #[]) (fl : Nat := 33) (sup : Nat := 0) (ifs : Array Nat := #[]) (fds : Array FieldInfo := #[]) : ClassFile where
  minorVersion := 0
  majorVersion := 65
  constantPool := pool
  accessFlags := fl
  thisClass := this
  superClass := sup
  interfaces := ifs
  fields := fds
  methods := ms
  attributes := attrs
def plain (name : String) (sup : Option ClassId) : Class where
  name := name
  kind := .ordinary
  loader := none
  accessFlags := 33
  super := sup
  interfaces := #[]
  cf := none
  fields := #[]
  methods := #[]
  instanceTypes := #[]
  staticTypes := #[]
  resolved := #[]
  callSites := []
  init := .initialized
  statics := none
  mirror := none

def pool0 : Array CpInfo := pool [(5, u "<init>"), (0, u "()V"), (1, .class_ 10), (1, u "java/lang/Object")] 113

def k0c0 : Code := { maxStack := 0, maxLocals := 1, code := object_method_1_code, exceptionTable := #[], attributes := #[] }
def k0m0 : Method := { name := "<init>", desc := "()V", sig := { parameters := [], returnType := none }, accessFlags := 1, code := some k0c0 }
/-- java/lang/Object -/
def k0 : Class := { plain "java/lang/Object" none with
  accessFlags := 33
  interfaces := #[]
  cf := some (fileOf pool0 8 #[] #[{ accessFlags := 1, nameIndex := 5, descriptorIndex := 6, attributes := #[] }] 33 0 #[] #[])
  fields := #[]
  methods := #[k0m0]
  instanceTypes := #[]
  staticTypes := #[]
  resolved := Array.replicate 124 none
  statics := none }

def pool1 : Array CpInfo := pool [(2, .class_ 4), (1, u "java/lang/Object"), (0, u "<init>"), (0, u "()V"), (0, .integer 2147483647), (0, .class_ 9), (0, u "java/lang/String"), (0, .methodref 8 11), (0, .nameAndType 5 12), (0, u "([C)V"), (0, .methodref 14 15), (0, .class_ 16), (0, .nameAndType 17 18), (0, u "com/example/ferrolho/ferrolho/lock/LockNameEqualsPinLaw"), (0, u "allowed"), (0, u "(I)C"), (0, .class_ 20), (0, u "com/example/ferrolho/ferrolho/lock/LockName"), (0, .methodref 14 22), (0, .nameAndType 23 24), (0, u "text"), (0, u "(CCI)Ljava/lang/String;"), (0, .methodref 19 26), (0, .nameAndType 5 27), (0, u "(Ljava/lang/String;)V"), (0, .methodref 19 29), (0, .nameAndType 30 31), (0, u "equals"), (0, u "(Ljava/lang/Object;)Z"), (0, .methodref 19 33), (0, .nameAndType 34 35), (0, u "getValue"), (0, u "()Ljava/lang/String;"), (3, u "law"), (0, u "(IIIII)Z")] 2

def k1m0 : Method := { name := "<init>", desc := "()V", sig := { parameters := [], returnType := none }, accessFlags := 1, code := none }
def k1c1 : Code := { maxStack := 3, maxLocals := 2, code := method_2_code, exceptionTable := #[], attributes := #[] }
def k1m1 : Method := { name := "allowed", desc := "(I)C", sig := { parameters := [.int], returnType := some .char }, accessFlags := 10, code := some k1c1 }
def k1c2 : Code := { maxStack := 3, maxLocals := 4, code := method_3_code, exceptionTable := #[], attributes := #[] }
def k1m2 : Method := { name := "text", desc := "(CCI)Ljava/lang/String;", sig := { parameters := [.char, .char, .int], returnType := some (.object "java/lang/String") }, accessFlags := 10, code := some k1c2 }
def k1c3 : Code := { maxStack := 5, maxLocals := 16, code := code, exceptionTable := #[], attributes := #[] }
def k1m3 : Method := { name := "law", desc := "(IIIII)Z", sig := { parameters := [.int, .int, .int, .int, .int], returnType := some .boolean }, accessFlags := 9, code := some k1c3 }
/-- com/example/ferrolho/ferrolho/lock/LockNameEqualsPinLaw -/
def k1 : Class := { plain "com/example/ferrolho/ferrolho/lock/LockNameEqualsPinLaw" (some 0) with
  accessFlags := 49
  interfaces := #[]
  cf := some (fileOf pool1 14 #[] #[{ accessFlags := 1, nameIndex := 5, descriptorIndex := 6, attributes := #[] }, { accessFlags := 10, nameIndex := 17, descriptorIndex := 18, attributes := #[] }, { accessFlags := 10, nameIndex := 23, descriptorIndex := 24, attributes := #[] }, { accessFlags := 9, nameIndex := 39, descriptorIndex := 40, attributes := #[] }] 49 2 #[] #[])
  fields := #[]
  methods := #[k1m0, k1m1, k1m2, k1m3]
  instanceTypes := #[]
  staticTypes := #[]
  resolved := Array.replicate 43 none
  statics := none }

def pool2 : Array CpInfo := pool [(1, .methodref 2 3), (0, .class_ 4), (0, .nameAndType 5 6), (0, u "java/lang/Object"), (0, u "<init>"), (0, u "()V"), (0, .string 8), (0, u "value"), (0, .methodref 10 11), (0, .class_ 12), (0, .nameAndType 13 14), (0, u "java/util/Objects"), (0, u "requireNonNull"), (0, u "(Ljava/lang/Object;Ljava/lang/String;)Ljava/lang/Object;"), (0, .methodref 16 17), (0, .class_ 18), (0, .nameAndType 19 20), (0, u "java/lang/String"), (0, u "length"), (0, u "()I"), (0, .methodref 16 22), (0, .nameAndType 23 24), (0, u "codePointCount"), (0, u "(II)I"), (6, u "(Ljava/lang/String;)V"), (0, .class_ 33), (0, u "com/example/ferrolho/ferrolho/lock/LockName"), (4, .methodref 16 39), (0, .nameAndType 40 41), (0, u "charAt"), (0, u "(I)C"), (0, .methodref 32 43), (0, .nameAndType 44 45), (0, u "isAllowed"), (0, u "(C)Z"), (3, u "(I)I"), (8, .fieldref 32 59), (0, .nameAndType 8 60), (0, u "Ljava/lang/String;"), (0, .string 62), (0, u "._:/-"), (0, .methodref 16 64), (0, .nameAndType 65 49), (0, u "indexOf"), (0, .methodref 16 67), (0, .nameAndType 68 69), (0, u "equals"), (0, u "(Ljava/lang/Object;)Z"), (3, u "MAX_LENGTH"), (0, u "I"), (2, u "ALLOWED_PUNCTUATION"), (3, u "getValue"), (0, u "()Ljava/lang/String;")] 20

def k2c0 : Code := { maxStack := 4, maxLocals := 5, code := prog_21_method_1_code, exceptionTable := #[], attributes := #[] }
def k2m0 : Method := { name := "<init>", desc := "(Ljava/lang/String;)V", sig := { parameters := [(.object "java/lang/String")], returnType := none }, accessFlags := 1, code := some k2c0 }
def k2c1 : Code := { maxStack := 2, maxLocals := 1, code := prog_21_method_2_code, exceptionTable := #[], attributes := #[] }
def k2m1 : Method := { name := "isAllowed", desc := "(C)Z", sig := { parameters := [.char], returnType := some .boolean }, accessFlags := 10, code := some k2c1 }
def k2c2 : Code := { maxStack := 1, maxLocals := 1, code := prog_21_method_3_code, exceptionTable := #[], attributes := #[] }
def k2m2 : Method := { name := "getValue", desc := "()Ljava/lang/String;", sig := { parameters := [], returnType := some (.object "java/lang/String") }, accessFlags := 1, code := some k2c2 }
def k2c3 : Code := { maxStack := 2, maxLocals := 2, code := prog_21_method_4_code, exceptionTable := #[], attributes := #[] }
def k2m3 : Method := { name := "equals", desc := "(Ljava/lang/Object;)Z", sig := { parameters := [(.object "java/lang/Object")], returnType := some .boolean }, accessFlags := 1, code := some k2c3 }
/-- com/example/ferrolho/ferrolho/lock/LockName -/
def k2 : Class := { plain "com/example/ferrolho/ferrolho/lock/LockName" (some 0) with
  accessFlags := 33
  interfaces := #[]
  cf := some (fileOf pool2 32 #[] #[{ accessFlags := 1, nameIndex := 5, descriptorIndex := 31, attributes := #[] }, { accessFlags := 10, nameIndex := 44, descriptorIndex := 45, attributes := #[] }, { accessFlags := 1, nameIndex := 81, descriptorIndex := 82, attributes := #[] }, { accessFlags := 1, nameIndex := 68, descriptorIndex := 69, attributes := #[] }] 33 2 #[] #[{ accessFlags := 25, nameIndex := 73, descriptorIndex := 74, attributes := #[] }, { accessFlags := 26, nameIndex := 77, descriptorIndex := 60, attributes := #[] }, { accessFlags := 18, nameIndex := 8, descriptorIndex := 60, attributes := #[] }])
  fields := #[{ name := "MAX_LENGTH", type := .int, accessFlags := 25, slot := 0, constantValue := 0 }, { name := "ALLOWED_PUNCTUATION", type := (.object "java/lang/String"), accessFlags := 26, slot := 1, constantValue := 0 }, { name := "value", type := (.object "java/lang/String"), accessFlags := 18, slot := 0, constantValue := 0 }]
  methods := #[k2m0, k2m1, k2m2, k2m3]
  instanceTypes := #[(.object "java/lang/String")]
  staticTypes := #[.int, (.object "java/lang/String")]
  resolved := Array.replicate 103 none
  statics := none }

def pool3 : Array CpInfo := pool [(1, .class_ 2), (0, u "java/io/Serializable"), (0, .class_ 4), (0, u "java/lang/Object")] 2

/-- java/io/Serializable -/
def k3 : Class := { plain "java/io/Serializable" (some 0) with
  accessFlags := 1537
  interfaces := #[]
  cf := some (fileOf pool3 1 #[] #[] 1537 3 #[] #[])
  fields := #[]
  methods := #[]
  instanceTypes := #[]
  staticTypes := #[]
  resolved := Array.replicate 7 none
  statics := none }

def pool4 : Array CpInfo := pool [(1, .class_ 2), (0, u "java/lang/Comparable"), (0, .class_ 4), (0, u "java/lang/Object")] 7

/-- java/lang/Comparable -/
def k4 : Class := { plain "java/lang/Comparable" (some 0) with
  accessFlags := 1537
  interfaces := #[]
  cf := some (fileOf pool4 1 #[] #[] 1537 3 #[] #[])
  fields := #[]
  methods := #[]
  instanceTypes := #[]
  staticTypes := #[]
  resolved := Array.replicate 12 none
  statics := none }

def pool5 : Array CpInfo := pool [(2, .class_ 4), (1, u "java/lang/CharSequence"), (42, .class_ 48), (0, u "java/lang/CharSequence$1CodePointIterator"), (10, .class_ 60), (0, u "java/lang/CharSequence$1CharIterator"), (5, .class_ 67), (0, u "java/lang/Object")] 63

/-- java/lang/CharSequence -/
def k5 : Class := { plain "java/lang/CharSequence" (some 0) with
  accessFlags := 1537
  interfaces := #[]
  cf := some (fileOf pool5 2 #[.nestMembers #[47, 59]] #[] 1537 66 #[] #[])
  fields := #[]
  methods := #[]
  instanceTypes := #[]
  staticTypes := #[]
  resolved := Array.replicate 131 none
  statics := none }

def pool6 : Array CpInfo := pool [(1, .class_ 2), (0, u "java/lang/constant/Constable"), (0, .class_ 4), (0, u "java/lang/Object")] 6

/-- java/lang/constant/Constable -/
def k6 : Class := { plain "java/lang/constant/Constable" (some 0) with
  accessFlags := 1537
  interfaces := #[]
  cf := some (fileOf pool6 1 #[] #[] 1537 3 #[] #[])
  fields := #[]
  methods := #[]
  instanceTypes := #[]
  staticTypes := #[]
  resolved := Array.replicate 11 none
  statics := none }

def pool7 : Array CpInfo := pool [(1, .class_ 2), (0, u "java/lang/constant/ConstantDesc"), (0, .class_ 4), (0, u "java/lang/Object")] 32

/-- java/lang/constant/ConstantDesc -/
def k7 : Class := { plain "java/lang/constant/ConstantDesc" (some 0) with
  accessFlags := 1537
  interfaces := #[]
  cf := some (fileOf pool7 1 #[] #[] 1537 3 #[] #[])
  fields := #[]
  methods := #[]
  instanceTypes := #[]
  staticTypes := #[]
  resolved := Array.replicate 37 none
  statics := none }

def pool8 : Array CpInfo := pool [(1, .methodref 2 3), (0, .class_ 4), (0, .nameAndType 5 6), (0, u "java/lang/Object"), (0, u "<init>"), (0, u "()V"), (2, .fieldref 10 11), (0, .class_ 12), (0, .nameAndType 13 14), (0, u "java/lang/String"), (0, u "value"), (0, u "[B"), (0, .fieldref 10 16), (0, .nameAndType 17 18), (0, u "coder"), (0, u "B"), (2, u "hash"), (0, u "I"), (2, u "hashIsZero"), (0, u "Z"), (0, .methodref 10 28), (0, .nameAndType 5 29), (0, u "([CIILjava/lang/Void;)V"), (7, u "(III)I"), (0, .fieldref 10 39), (0, .nameAndType 40 26), (0, u "COMPACT_STRINGS"), (1, .class_ 44), (1, u "java/lang/StringUTF16"), (0, u "compress"), (1, .methodref 42 48), (0, .nameAndType 49 50), (0, u "coderFromArrayLen"), (0, u "([BI)B"), (28, .class_ 81), (1, u "java/util/Objects"), (25, .class_ 109), (1, u "java/lang/StringLatin1"), (32, u "()Z"), (34, .methodref 42 178), (0, .nameAndType 45 179), (0, u "([CII)[B"), (154, u "()I"), (0, .methodref 10 336), (0, .nameAndType 17 337), (0, u "()B"), (25, u "([BI)C"), (27, u "(II)V"), (35, u "(I)C"), (64, .methodref 10 493), (0, .nameAndType 494 142), (0, u "isLatin1"), (0, .methodref 107 496), (0, .nameAndType 497 363), (0, u "charAt"), (3, u "checkIndex"), (3, .methodref 10 506), (0, .nameAndType 507 334), (0, u "length"), (3, .methodref 79 512), (0, .nameAndType 513 37), (0, u "checkFromToIndex"), (2, u "codePointCount"), (24, .methodref 107 542), (0, .nameAndType 543 544), (0, u "equals"), (0, u "([B[B)Z"), (28, u "(Ljava/lang/Object;)Z"), (1, .class_ 576), (0, u "java/lang/CharSequence"), (22, u "CASE_INSENSITIVE_ORDER"), (0, u "Ljava/util/Comparator;"), (32, .methodref 10 634), (0, .nameAndType 635 636), (0, u "indexOf"), (0, u "(II)I"), (0, .methodref 107 638), (0, .nameAndType 635 639), (0, u "([BIII)I"), (125, u "(I)I"), (244, u "([C)V"), (42, .fieldref 1054 1055), (0, .class_ 1056), (0, .nameAndType 1057 1058), (0, u "jdk/internal/util/Preconditions"), (0, u "SIOOBE_FORMATTER"), (0, u "Ljava/util/function/BiFunction;"), (0, .methodref 1054 1060), (0, .nameAndType 501 1061), (0, u "(IILjava/util/function/BiFunction;)I"), (39, u "serialPersistentFields"), (0, u "[Ljava/io/ObjectStreamField;"), (0, .class_ 1104), (0, u "java/lang/String$CaseInsensitiveComparator"), (1, .class_ 1107), (0, u "java/io/Serializable"), (0, .class_ 1109), (0, u "java/lang/Comparable"), (0, .class_ 1111), (0, u "java/lang/constant/Constable"), (0, .class_ 1113), (0, u "java/lang/constant/ConstantDesc"), (2, u "serialVersionUID"), (0, u "J"), (3, u "REPL"), (0, u "C"), (2, u "LATIN1"), (1, u "UTF16")] 323

def k8m0 : Method := { name := "<init>", desc := "()V", sig := { parameters := [], returnType := none }, accessFlags := 1, code := none }
def k8c1 : Code := { maxStack := 5, maxLocals := 2, code := jdk_42_method_3_code, exceptionTable := #[], attributes := #[] }
def k8m1 : Method := { name := "<init>", desc := "([C)V", sig := { parameters := [(.array .char)], returnType := none }, accessFlags := 1, code := some k8c1 }
def k8c2 : Code := { maxStack := 2, maxLocals := 1, code := jdk_42_method_54_code, exceptionTable := #[], attributes := #[] }
def k8m2 : Method := { name := "length", desc := "()I", sig := { parameters := [], returnType := some .int }, accessFlags := 1, code := some k8c2 }
def k8c3 : Code := { maxStack := 2, maxLocals := 2, code := jdk_42_method_56_code, exceptionTable := #[], attributes := #[] }
def k8m3 : Method := { name := "charAt", desc := "(I)C", sig := { parameters := [.int], returnType := some .char }, accessFlags := 1, code := some k8c3 }
def k8c4 : Code := { maxStack := 3, maxLocals := 3, code := jdk_42_method_59_code, exceptionTable := #[], attributes := #[] }
def k8m4 : Method := { name := "codePointCount", desc := "(II)I", sig := { parameters := [.int, .int], returnType := some .int }, accessFlags := 1, code := some k8c4 }
def k8c5 : Code := { maxStack := 2, maxLocals := 3, code := jdk_42_method_66_code, exceptionTable := #[], attributes := #[] }
def k8m5 : Method := { name := "equals", desc := "(Ljava/lang/Object;)Z", sig := { parameters := [(.object "java/lang/Object")], returnType := some .boolean }, accessFlags := 1, code := some k8c5 }
def k8c6 : Code := { maxStack := 3, maxLocals := 2, code := jdk_42_method_79_code, exceptionTable := #[], attributes := #[] }
def k8m6 : Method := { name := "indexOf", desc := "(I)I", sig := { parameters := [.int], returnType := some .int }, accessFlags := 1, code := some k8c6 }
def k8c7 : Code := { maxStack := 4, maxLocals := 3, code := jdk_42_method_80_code, exceptionTable := #[], attributes := #[] }
def k8m7 : Method := { name := "indexOf", desc := "(II)I", sig := { parameters := [.int, .int], returnType := some .int }, accessFlags := 1, code := some k8c7 }
def k8c8 : Code := { maxStack := 4, maxLocals := 6, code := jdk_42_method_149_code, exceptionTable := #[], attributes := #[] }
def k8m8 : Method := { name := "<init>", desc := "([CIILjava/lang/Void;)V", sig := { parameters := [(.array .char), .int, .int, (.object "java/lang/Void")], returnType := none }, accessFlags := 2, code := some k8c8 }
def k8c9 : Code := { maxStack := 1, maxLocals := 1, code := jdk_42_method_152_code, exceptionTable := #[], attributes := #[] }
def k8m9 : Method := { name := "coder", desc := "()B", sig := { parameters := [], returnType := some .byte }, accessFlags := 0, code := some k8c9 }
def k8c10 : Code := { maxStack := 1, maxLocals := 1, code := jdk_42_method_154_code, exceptionTable := #[], attributes := #[] }
def k8m10 : Method := { name := "isLatin1", desc := "()Z", sig := { parameters := [], returnType := some .boolean }, accessFlags := 0, code := some k8c10 }
def k8c11 : Code := { maxStack := 3, maxLocals := 2, code := jdk_42_method_155_code, exceptionTable := #[], attributes := #[] }
def k8m11 : Method := { name := "checkIndex", desc := "(II)V", sig := { parameters := [.int, .int], returnType := none }, accessFlags := 8, code := some k8c11 }
/-- java/lang/String -/
def k8 : Class := { plain "java/lang/String" (some 0) with
  accessFlags := 49
  interfaces := #[3, 4, 5, 6, 7]
  cf := some (fileOf pool8 10 #[.nestMembers #[1103]] #[{ accessFlags := 1, nameIndex := 5, descriptorIndex := 6, attributes := #[] }, { accessFlags := 1, nameIndex := 5, descriptorIndex := 1010, attributes := #[] }, { accessFlags := 1, nameIndex := 507, descriptorIndex := 334, attributes := #[] }, { accessFlags := 1, nameIndex := 497, descriptorIndex := 427, attributes := #[] }, { accessFlags := 1, nameIndex := 516, descriptorIndex := 636, attributes := #[] }, { accessFlags := 1, nameIndex := 543, descriptorIndex := 573, attributes := #[] }, { accessFlags := 1, nameIndex := 635, descriptorIndex := 765, attributes := #[] }, { accessFlags := 1, nameIndex := 635, descriptorIndex := 636, attributes := #[] }, { accessFlags := 2, nameIndex := 5, descriptorIndex := 29, attributes := #[] }, { accessFlags := 0, nameIndex := 17, descriptorIndex := 337, attributes := #[] }, { accessFlags := 0, nameIndex := 494, descriptorIndex := 142, attributes := #[] }, { accessFlags := 8, nameIndex := 501, descriptorIndex := 391, attributes := #[] }] 49 2 #[1106, 1108, 575, 1110, 1112] #[{ accessFlags := 18, nameIndex := 13, descriptorIndex := 14, attributes := #[] }, { accessFlags := 18, nameIndex := 17, descriptorIndex := 18, attributes := #[] }, { accessFlags := 2, nameIndex := 21, descriptorIndex := 22, attributes := #[] }, { accessFlags := 2, nameIndex := 25, descriptorIndex := 26, attributes := #[] }, { accessFlags := 26, nameIndex := 1116, descriptorIndex := 1117, attributes := #[] }, { accessFlags := 24, nameIndex := 40, descriptorIndex := 26, attributes := #[] }, { accessFlags := 26, nameIndex := 1101, descriptorIndex := 1102, attributes := #[] }, { accessFlags := 26, nameIndex := 1121, descriptorIndex := 1122, attributes := #[] }, { accessFlags := 25, nameIndex := 599, descriptorIndex := 600, attributes := #[] }, { accessFlags := 24, nameIndex := 1125, descriptorIndex := 18, attributes := #[] }, { accessFlags := 24, nameIndex := 1127, descriptorIndex := 18, attributes := #[] }])
  fields := #[{ name := "value", type := (.array .byte), accessFlags := 18, slot := 0, constantValue := 0 }, { name := "coder", type := .byte, accessFlags := 18, slot := 1, constantValue := 0 }, { name := "hash", type := .int, accessFlags := 2, slot := 2, constantValue := 0 }, { name := "hashIsZero", type := .boolean, accessFlags := 2, slot := 3, constantValue := 0 }, { name := "serialVersionUID", type := .long, accessFlags := 26, slot := 0, constantValue := 0 }, { name := "COMPACT_STRINGS", type := .boolean, accessFlags := 24, slot := 1, constantValue := 0 }, { name := "serialPersistentFields", type := (.array (.object "java/io/ObjectStreamField")), accessFlags := 26, slot := 2, constantValue := 0 }, { name := "REPL", type := .char, accessFlags := 26, slot := 3, constantValue := 0 }, { name := "CASE_INSENSITIVE_ORDER", type := (.object "java/util/Comparator"), accessFlags := 25, slot := 4, constantValue := 0 }, { name := "LATIN1", type := .byte, accessFlags := 24, slot := 5, constantValue := 0 }, { name := "UTF16", type := .byte, accessFlags := 24, slot := 6, constantValue := 0 }]
  methods := #[k8m0, k8m1, k8m2, k8m3, k8m4, k8m5, k8m6, k8m7, k8m8, k8m9, k8m10, k8m11]
  instanceTypes := #[(.array .byte), .byte, .int, .boolean]
  staticTypes := #[.long, .boolean, (.array (.object "java/io/ObjectStreamField")), .char, (.object "java/util/Comparator"), .byte, .byte]
  resolved := Array.replicate 1451 none
  statics := some 0 }

def pool9 : Array CpInfo := pool [(6, .class_ 8), (1, u "java/lang/Object"), (0, u "<init>"), (0, u "()V"), (1, .class_ 14), (1, u "java/lang/StringUTF16"), (31, u "$assertionsDisabled"), (0, u "Z"), (13, u "HI_BYTE_SHIFT"), (0, u "I"), (2, u "LO_BYTE_SHIFT"), (49, .methodref 12 116), (0, .nameAndType 117 118), (0, u "compress"), (0, u "([CI[BII)I"), (3, u "([CII)[B"), (138, u "coderFromArrayLen"), (0, u "([BI)B"), (106, .class_ 371), (1, u "java/lang/StringUTF16$LinesSpliterator"), (58, u "MAX_LENGTH"), (196, .class_ 628), (0, u "java/lang/StringUTF16$CodePointsSpliterator"), (0, .class_ 630), (0, u "java/lang/StringUTF16$CharsSpliterator")] 4

def k9m0 : Method := { name := "<init>", desc := "()V", sig := { parameters := [], returnType := none }, accessFlags := 0, code := none }
def k9c1 : Code := { maxStack := 2, maxLocals := 2, code := jdk_52_method_15_code, exceptionTable := #[], attributes := #[] }
def k9m1 : Method := { name := "coderFromArrayLen", desc := "([BI)B", sig := { parameters := [(.array .byte), .int], returnType := some .byte }, accessFlags := 8, code := some k9c1 }
def k9c2 : Code := { maxStack := 5, maxLocals := 6, code := jdk_52_method_16_code, exceptionTable := #[], attributes := #[] }
def k9m2 : Method := { name := "compress", desc := "([CII)[B", sig := { parameters := [(.array .char), .int, .int], returnType := some (.array .byte) }, accessFlags := 9, code := some k9c2 }
def k9c3 : Code := { maxStack := 3, maxLocals := 7, code := jdk_52_method_21_code, exceptionTable := #[], attributes := #[] }
def k9m3 : Method := { name := "compress", desc := "([CI[BII)I", sig := { parameters := [(.array .char), .int, (.array .byte), .int, .int], returnType := some .int }, accessFlags := 9, code := some k9c3 }
/-- java/lang/StringUTF16 -/
def k9 : Class := { plain "java/lang/StringUTF16" (some 0) with
  accessFlags := 48
  interfaces := #[]
  cf := some (fileOf pool9 12 #[.nestMembers #[627, 629, 369]] #[{ accessFlags := 0, nameIndex := 9, descriptorIndex := 10, attributes := #[] }, { accessFlags := 8, nameIndex := 261, descriptorIndex := 262, attributes := #[] }, { accessFlags := 9, nameIndex := 117, descriptorIndex := 122, attributes := #[] }, { accessFlags := 9, nameIndex := 117, descriptorIndex := 118, attributes := #[] }] 48 6 #[] #[{ accessFlags := 26, nameIndex := 61, descriptorIndex := 62, attributes := #[] }, { accessFlags := 26, nameIndex := 65, descriptorIndex := 62, attributes := #[] }, { accessFlags := 24, nameIndex := 430, descriptorIndex := 62, attributes := #[] }, { accessFlags := 4120, nameIndex := 46, descriptorIndex := 47, attributes := #[] }])
  fields := #[{ name := "HI_BYTE_SHIFT", type := .int, accessFlags := 26, slot := 0, constantValue := 0 }, { name := "LO_BYTE_SHIFT", type := .int, accessFlags := 26, slot := 1, constantValue := 0 }, { name := "MAX_LENGTH", type := .int, accessFlags := 24, slot := 2, constantValue := 0 }, { name := "$assertionsDisabled", type := .boolean, accessFlags := 4120, slot := 3, constantValue := 0 }]
  methods := #[k9m0, k9m1, k9m2, k9m3]
  instanceTypes := #[]
  staticTypes := #[.int, .int, .int, .boolean]
  resolved := Array.replicate 635 none
  statics := none }

def pool10 : Array CpInfo := pool [(2, .class_ 4), (1, u "java/lang/Object"), (0, u "<init>"), (0, u "()V"), (35, .class_ 44), (1, u "java/util/Objects"), (0, u "requireNonNull"), (48, u "(Ljava/lang/Object;Ljava/lang/String;)Ljava/lang/Object;"), (11, .class_ 108), (1, u "jdk/internal/util/Preconditions"), (2, .methodref 106 112), (0, .nameAndType 113 114), (0, u "checkFromToIndex"), (0, u "(IIILjava/util/function/BiFunction;)I"), (60, u "(III)I")] 8

def k10m0 : Method := { name := "<init>", desc := "()V", sig := { parameters := [], returnType := none }, accessFlags := 2, code := none }
def k10c1 : Code := { maxStack := 3, maxLocals := 2, code := jdk_31_method_11_code, exceptionTable := #[], attributes := #[] }
def k10m1 : Method := { name := "requireNonNull", desc := "(Ljava/lang/Object;Ljava/lang/String;)Ljava/lang/Object;", sig := { parameters := [(.object "java/lang/Object"), (.object "java/lang/String")], returnType := some (.object "java/lang/Object") }, accessFlags := 9, code := some k10c1 }
def k10c2 : Code := { maxStack := 4, maxLocals := 3, code := jdk_31_method_18_code, exceptionTable := #[], attributes := #[] }
def k10m2 : Method := { name := "checkFromToIndex", desc := "(III)I", sig := { parameters := [.int, .int, .int], returnType := some .int }, accessFlags := 9, code := some k10c2 }
/-- java/util/Objects -/
def k10 : Class := { plain "java/util/Objects" (some 0) with
  accessFlags := 49
  interfaces := #[]
  cf := some (fileOf pool10 42 #[] #[{ accessFlags := 2, nameIndex := 5, descriptorIndex := 6, attributes := #[] }, { accessFlags := 9, nameIndex := 45, descriptorIndex := 94, attributes := #[] }, { accessFlags := 9, nameIndex := 113, descriptorIndex := 175, attributes := #[] }] 49 2 #[] #[])
  fields := #[]
  methods := #[k10m0, k10m1, k10m2]
  instanceTypes := #[]
  staticTypes := #[]
  resolved := Array.replicate 184 none
  statics := none }

def pool11 : Array CpInfo := pool [(2, .class_ 4), (1, u "java/lang/Object"), (0, u "<init>"), (0, u "()V"), (17, .class_ 26), (1, u "jdk/internal/util/Preconditions"), (6, u "checkIndex"), (13, u "checkFromToIndex"), (7, .class_ 56), (0, u "jdk/internal/util/Preconditions$4"), (57, .class_ 115), (0, u "jdk/internal/util/Preconditions$1"), (7, u "SIOOBE_FORMATTER"), (0, u "Ljava/util/function/BiFunction;"), (0, .class_ 126), (0, u "jdk/internal/util/Preconditions$2"), (3, u "AIOOBE_FORMATTER"), (0, .class_ 132), (0, u "jdk/internal/util/Preconditions$3"), (3, u "IOOBE_FORMATTER"), (41, u "(IILjava/util/function/BiFunction;)I"), (4, u "(IIILjava/util/function/BiFunction;)I")] 10

def k11m0 : Method := { name := "<init>", desc := "()V", sig := { parameters := [], returnType := none }, accessFlags := 1, code := none }
def k11c1 : Code := { maxStack := 3, maxLocals := 3, code := jdk_41_method_11_code, exceptionTable := #[], attributes := #[] }
def k11m1 : Method := { name := "checkIndex", desc := "(IILjava/util/function/BiFunction;)I", sig := { parameters := [.int, .int, (.object "java/util/function/BiFunction")], returnType := some .int }, accessFlags := 9, code := some k11c1 }
def k11c2 : Code := { maxStack := 4, maxLocals := 4, code := jdk_41_method_12_code, exceptionTable := #[], attributes := #[] }
def k11m2 : Method := { name := "checkFromToIndex", desc := "(IIILjava/util/function/BiFunction;)I", sig := { parameters := [.int, .int, .int, (.object "java/util/function/BiFunction")], returnType := some .int }, accessFlags := 9, code := some k11c2 }
/-- jdk/internal/util/Preconditions -/
def k11 : Class := { plain "jdk/internal/util/Preconditions" (some 0) with
  accessFlags := 33
  interfaces := #[]
  cf := some (fileOf pool11 24 #[.nestMembers #[55, 131, 125, 114]] #[{ accessFlags := 1, nameIndex := 5, descriptorIndex := 6, attributes := #[] }, { accessFlags := 9, nameIndex := 33, descriptorIndex := 178, attributes := #[] }, { accessFlags := 9, nameIndex := 47, descriptorIndex := 183, attributes := #[] }] 33 2 #[] #[{ accessFlags := 25, nameIndex := 123, descriptorIndex := 124, attributes := #[] }, { accessFlags := 25, nameIndex := 130, descriptorIndex := 124, attributes := #[] }, { accessFlags := 25, nameIndex := 136, descriptorIndex := 124, attributes := #[] }])
  fields := #[{ name := "SIOOBE_FORMATTER", type := (.object "java/util/function/BiFunction"), accessFlags := 25, slot := 0, constantValue := 0 }, { name := "AIOOBE_FORMATTER", type := (.object "java/util/function/BiFunction"), accessFlags := 25, slot := 1, constantValue := 0 }, { name := "IOOBE_FORMATTER", type := (.object "java/util/function/BiFunction"), accessFlags := 25, slot := 2, constantValue := 0 }]
  methods := #[k11m0, k11m1, k11m2]
  instanceTypes := #[]
  staticTypes := #[(.object "java/util/function/BiFunction"), (.object "java/util/function/BiFunction"), (.object "java/util/function/BiFunction")]
  resolved := Array.replicate 194 none
  statics := some 1 }

def pool12 : Array CpInfo := pool [(1, .class_ 2), (0, u "java/lang/String"), (1, .class_ 6), (1, u "java/lang/Object"), (0, u "<init>"), (0, u "()V"), (0, .methodref 1 10), (0, .nameAndType 11 12), (0, u "checkIndex"), (0, u "(II)V"), (1, .class_ 16), (1, u "java/lang/StringLatin1"), (21, .methodref 39 40), (0, .class_ 41), (0, .nameAndType 42 43), (0, u "java/lang/Math"), (0, u "min"), (0, u "(II)I"), (9, u "([BI)C"), (34, .methodref 14 89), (0, .nameAndType 90 91), (0, u "canEncode"), (0, u "(I)Z"), (0, .methodref 39 93), (0, .nameAndType 94 43), (0, u "max"), (0, .methodref 14 96), (0, .nameAndType 97 98), (0, u "indexOfChar"), (0, u "([BIII)I"), (2, u "indexOf"), (19, u "$assertionsDisabled"), (0, u "Z"), (98, .class_ 223), (1, u "java/lang/StringLatin1$LinesSpliterator"), (28, u "charAt"), (28, u "equals"), (0, u "([B[B)Z"), (107, .class_ 391), (0, u "java/lang/StringLatin1$CharsSpliterator")] 3

def k12m0 : Method := { name := "<init>", desc := "()V", sig := { parameters := [], returnType := none }, accessFlags := 0, code := none }
def k12c1 : Code := { maxStack := 2, maxLocals := 2, code := jdk_43_method_2_code, exceptionTable := #[], attributes := #[] }
def k12m1 : Method := { name := "charAt", desc := "([BI)C", sig := { parameters := [(.array .byte), .int], returnType := some .char }, accessFlags := 9, code := some k12c1 }
def k12c2 : Code := { maxStack := 2, maxLocals := 1, code := jdk_43_method_4_code, exceptionTable := #[], attributes := #[] }
def k12m2 : Method := { name := "canEncode", desc := "(I)Z", sig := { parameters := [.int], returnType := some .boolean }, accessFlags := 9, code := some k12c2 }
def k12c3 : Code := { maxStack := 3, maxLocals := 3, code := jdk_43_method_13_code, exceptionTable := #[], attributes := #[] }
def k12m3 : Method := { name := "equals", desc := "([B[B)Z", sig := { parameters := [(.array .byte), (.array .byte)], returnType := some .boolean }, accessFlags := 9, code := some k12c3 }
def k12c4 : Code := { maxStack := 4, maxLocals := 4, code := jdk_43_method_22_code, exceptionTable := #[], attributes := #[] }
def k12m4 : Method := { name := "indexOf", desc := "([BIII)I", sig := { parameters := [(.array .byte), .int, .int, .int], returnType := some .int }, accessFlags := 9, code := some k12c4 }
def k12c5 : Code := { maxStack := 2, maxLocals := 6, code := jdk_43_method_23_code, exceptionTable := #[], attributes := #[] }
def k12m5 : Method := { name := "indexOfChar", desc := "([BIII)I", sig := { parameters := [(.array .byte), .int, .int, .int], returnType := some .int }, accessFlags := 10, code := some k12c5 }
/-- java/lang/StringLatin1 -/
def k12 : Class := { plain "java/lang/StringLatin1" (some 0) with
  accessFlags := 48
  interfaces := #[]
  cf := some (fileOf pool12 14 #[.nestMembers #[390, 221]] #[{ accessFlags := 0, nameIndex := 7, descriptorIndex := 8, attributes := #[] }, { accessFlags := 9, nameIndex := 252, descriptorIndex := 53, attributes := #[] }, { accessFlags := 9, nameIndex := 90, descriptorIndex := 91, attributes := #[] }, { accessFlags := 9, nameIndex := 281, descriptorIndex := 282, attributes := #[] }, { accessFlags := 9, nameIndex := 101, descriptorIndex := 98, attributes := #[] }, { accessFlags := 10, nameIndex := 97, descriptorIndex := 98, attributes := #[] }] 48 4 #[] #[{ accessFlags := 4120, nameIndex := 121, descriptorIndex := 122, attributes := #[] }])
  fields := #[{ name := "$assertionsDisabled", type := .boolean, accessFlags := 4120, slot := 0, constantValue := 0 }]
  methods := #[k12m0, k12m1, k12m2, k12m3, k12m4, k12m5]
  instanceTypes := #[]
  staticTypes := #[.boolean]
  resolved := Array.replicate 395 none
  statics := none }

def pool13 : Array CpInfo := pool [(1, .class_ 2), (0, u "java/lang/Math"), (1, .class_ 6), (1, u "java/lang/Object"), (0, u "<init>"), (0, u "()V"), (89, .class_ 100), (1, u "java/lang/Math$RandomNumberGeneratorHolder"), (71, u "negativeZeroFloatBits"), (0, u "J"), (2, u "negativeZeroDoubleBits"), (21, u "max"), (2, u "min"), (43, u "$assertionsDisabled"), (0, u "Z"), (88, u "(II)I"), (2, u "twoToTheDoubleScaleDown"), (0, u "D"), (4, u "twoToTheDoubleScaleUp"), (9, u "E"), (3, u "PI"), (2, u "TAU"), (2, u "DEGREES_TO_RADIANS"), (0, u "RADIANS_TO_DEGREES")] 94

def k13m0 : Method := { name := "<init>", desc := "()V", sig := { parameters := [], returnType := none }, accessFlags := 2, code := none }
def k13c1 : Code := { maxStack := 2, maxLocals := 2, code := jdk_29_method_65_code, exceptionTable := #[], attributes := #[] }
def k13m1 : Method := { name := "max", desc := "(II)I", sig := { parameters := [.int, .int], returnType := some .int }, accessFlags := 9, code := some k13c1 }
def k13c2 : Code := { maxStack := 2, maxLocals := 2, code := jdk_29_method_69_code, exceptionTable := #[], attributes := #[] }
def k13m2 : Method := { name := "min", desc := "(II)I", sig := { parameters := [.int, .int], returnType := some .int }, accessFlags := 9, code := some k13c2 }
/-- java/lang/Math -/
def k13 : Class := { plain "java/lang/Math" (some 0) with
  accessFlags := 49
  interfaces := #[]
  cf := some (fileOf pool13 1 #[.nestMembers #[98]] #[{ accessFlags := 2, nameIndex := 7, descriptorIndex := 8, attributes := #[] }, { accessFlags := 9, nameIndex := 198, descriptorIndex := 335, attributes := #[] }, { accessFlags := 9, nameIndex := 201, descriptorIndex := 335, attributes := #[] }] 49 4 #[] #[{ accessFlags := 25, nameIndex := 354, descriptorIndex := 339, attributes := #[] }, { accessFlags := 25, nameIndex := 358, descriptorIndex := 339, attributes := #[] }, { accessFlags := 25, nameIndex := 361, descriptorIndex := 339, attributes := #[] }, { accessFlags := 26, nameIndex := 364, descriptorIndex := 339, attributes := #[] }, { accessFlags := 26, nameIndex := 365, descriptorIndex := 339, attributes := #[] }, { accessFlags := 26, nameIndex := 172, descriptorIndex := 173, attributes := #[] }, { accessFlags := 26, nameIndex := 176, descriptorIndex := 173, attributes := #[] }, { accessFlags := 8, nameIndex := 344, descriptorIndex := 339, attributes := #[] }, { accessFlags := 8, nameIndex := 338, descriptorIndex := 339, attributes := #[] }, { accessFlags := 4120, nameIndex := 245, descriptorIndex := 246, attributes := #[] }])
  fields := #[{ name := "E", type := .double, accessFlags := 25, slot := 0, constantValue := 0 }, { name := "PI", type := .double, accessFlags := 25, slot := 1, constantValue := 0 }, { name := "TAU", type := .double, accessFlags := 25, slot := 2, constantValue := 0 }, { name := "DEGREES_TO_RADIANS", type := .double, accessFlags := 26, slot := 3, constantValue := 0 }, { name := "RADIANS_TO_DEGREES", type := .double, accessFlags := 26, slot := 4, constantValue := 0 }, { name := "negativeZeroFloatBits", type := .long, accessFlags := 26, slot := 5, constantValue := 0 }, { name := "negativeZeroDoubleBits", type := .long, accessFlags := 26, slot := 6, constantValue := 0 }, { name := "twoToTheDoubleScaleUp", type := .double, accessFlags := 8, slot := 7, constantValue := 0 }, { name := "twoToTheDoubleScaleDown", type := .double, accessFlags := 8, slot := 8, constantValue := 0 }, { name := "$assertionsDisabled", type := .boolean, accessFlags := 4120, slot := 9, constantValue := 0 }]
  methods := #[k13m0, k13m1, k13m2]
  instanceTypes := #[]
  staticTypes := #[.double, .double, .double, .double, .double, .long, .long, .double, .double, .boolean]
  resolved := Array.replicate 460 none
  statics := none }

def pool14 : Array CpInfo := pool [(9, u "<init>"), (6, .class_ 18), (1, u "java/lang/Object"), (0, u "()V"), (1, .class_ 23), (1, u "jdk/internal/util/ArraysSupport"), (0, u "LOG2_ARRAY_LONG_INDEX_SCALE"), (0, u "I"), (2, u "U"), (0, u "Ljdk/internal/misc/Unsafe;"), (8, u "BIG_ENDIAN"), (0, u "Z"), (8, u "LOG2_BYTE_BIT_SIZE"), (4, u "LOG2_ARRAY_INT_INDEX_SCALE"), (54, u "JLA"), (0, u "Ljdk/internal/access/JavaLangAccess;"), (11, u "LOG2_ARRAY_BOOLEAN_INDEX_SCALE"), (9, u "LOG2_ARRAY_BYTE_INDEX_SCALE"), (5, u "LOG2_ARRAY_CHAR_INDEX_SCALE"), (5, u "LOG2_ARRAY_SHORT_INDEX_SCALE"), (18, u "LOG2_ARRAY_FLOAT_INDEX_SCALE"), (24, u "LOG2_ARRAY_DOUBLE_INDEX_SCALE"), (89, u "T_BOOLEAN"), (2, u "T_CHAR"), (1, u "T_FLOAT"), (1, u "T_DOUBLE"), (1, u "T_BYTE"), (1, u "T_SHORT"), (1, u "T_INT"), (1, u "T_LONG"), (1, u "SOFT_MAX_ARRAY_LENGTH")] 83

def k14m0 : Method := { name := "<init>", desc := "()V", sig := { parameters := [], returnType := none }, accessFlags := 2, code := none }
/-- jdk/internal/util/ArraysSupport -/
def k14 : Class := { plain "jdk/internal/util/ArraysSupport" (some 0) with
  accessFlags := 33
  interfaces := #[]
  cf := some (fileOf pool14 21 #[] #[{ accessFlags := 2, nameIndex := 9, descriptorIndex := 19, attributes := #[] }] 33 16 #[] #[{ accessFlags := 24, nameIndex := 28, descriptorIndex := 29, attributes := #[] }, { accessFlags := 26, nameIndex := 38, descriptorIndex := 39, attributes := #[] }, { accessFlags := 25, nameIndex := 121, descriptorIndex := 25, attributes := #[] }, { accessFlags := 25, nameIndex := 131, descriptorIndex := 25, attributes := #[] }, { accessFlags := 25, nameIndex := 137, descriptorIndex := 25, attributes := #[] }, { accessFlags := 25, nameIndex := 143, descriptorIndex := 25, attributes := #[] }, { accessFlags := 25, nameIndex := 53, descriptorIndex := 25, attributes := #[] }, { accessFlags := 25, nameIndex := 24, descriptorIndex := 25, attributes := #[] }, { accessFlags := 25, nameIndex := 162, descriptorIndex := 25, attributes := #[] }, { accessFlags := 25, nameIndex := 187, descriptorIndex := 25, attributes := #[] }, { accessFlags := 26, nameIndex := 48, descriptorIndex := 25, attributes := #[] }, { accessFlags := 25, nameIndex := 277, descriptorIndex := 25, attributes := #[] }, { accessFlags := 25, nameIndex := 280, descriptorIndex := 25, attributes := #[] }, { accessFlags := 25, nameIndex := 282, descriptorIndex := 25, attributes := #[] }, { accessFlags := 25, nameIndex := 284, descriptorIndex := 25, attributes := #[] }, { accessFlags := 25, nameIndex := 286, descriptorIndex := 25, attributes := #[] }, { accessFlags := 25, nameIndex := 288, descriptorIndex := 25, attributes := #[] }, { accessFlags := 25, nameIndex := 290, descriptorIndex := 25, attributes := #[] }, { accessFlags := 25, nameIndex := 292, descriptorIndex := 25, attributes := #[] }, { accessFlags := 26, nameIndex := 108, descriptorIndex := 109, attributes := #[] }, { accessFlags := 25, nameIndex := 294, descriptorIndex := 25, attributes := #[] }])
  fields := #[{ name := "U", type := (.object "jdk/internal/misc/Unsafe"), accessFlags := 24, slot := 0, constantValue := 0 }, { name := "BIG_ENDIAN", type := .boolean, accessFlags := 26, slot := 1, constantValue := 0 }, { name := "LOG2_ARRAY_BOOLEAN_INDEX_SCALE", type := .int, accessFlags := 25, slot := 2, constantValue := 0 }, { name := "LOG2_ARRAY_BYTE_INDEX_SCALE", type := .int, accessFlags := 25, slot := 3, constantValue := 0 }, { name := "LOG2_ARRAY_CHAR_INDEX_SCALE", type := .int, accessFlags := 25, slot := 4, constantValue := 0 }, { name := "LOG2_ARRAY_SHORT_INDEX_SCALE", type := .int, accessFlags := 25, slot := 5, constantValue := 0 }, { name := "LOG2_ARRAY_INT_INDEX_SCALE", type := .int, accessFlags := 25, slot := 6, constantValue := 0 }, { name := "LOG2_ARRAY_LONG_INDEX_SCALE", type := .int, accessFlags := 25, slot := 7, constantValue := 0 }, { name := "LOG2_ARRAY_FLOAT_INDEX_SCALE", type := .int, accessFlags := 25, slot := 8, constantValue := 0 }, { name := "LOG2_ARRAY_DOUBLE_INDEX_SCALE", type := .int, accessFlags := 25, slot := 9, constantValue := 0 }, { name := "LOG2_BYTE_BIT_SIZE", type := .int, accessFlags := 26, slot := 10, constantValue := 0 }, { name := "T_BOOLEAN", type := .int, accessFlags := 25, slot := 11, constantValue := 0 }, { name := "T_CHAR", type := .int, accessFlags := 25, slot := 12, constantValue := 0 }, { name := "T_FLOAT", type := .int, accessFlags := 25, slot := 13, constantValue := 0 }, { name := "T_DOUBLE", type := .int, accessFlags := 25, slot := 14, constantValue := 0 }, { name := "T_BYTE", type := .int, accessFlags := 25, slot := 15, constantValue := 0 }, { name := "T_SHORT", type := .int, accessFlags := 25, slot := 16, constantValue := 0 }, { name := "T_INT", type := .int, accessFlags := 25, slot := 17, constantValue := 0 }, { name := "T_LONG", type := .int, accessFlags := 25, slot := 18, constantValue := 0 }, { name := "JLA", type := (.object "jdk/internal/access/JavaLangAccess"), accessFlags := 26, slot := 19, constantValue := 0 }, { name := "SOFT_MAX_ARRAY_LENGTH", type := .int, accessFlags := 25, slot := 20, constantValue := 0 }]
  methods := #[k14m0]
  instanceTypes := #[]
  staticTypes := #[(.object "jdk/internal/misc/Unsafe"), .boolean, .int, .int, .int, .int, .int, .int, .int, .int, .int, .int, .int, .int, .int, .int, .int, .int, .int, (.object "jdk/internal/access/JavaLangAccess"), .int]
  resolved := Array.replicate 378 none
  statics := none }

def pool15 : Array CpInfo := pool [(1, u "java/lang/Cloneable"), (0, .class_ 1), (0, u "java/lang/Object"), (0, .class_ 3)] 3

/-- java/lang/Cloneable -/
def k15 : Class := { plain "java/lang/Cloneable" (some 0) with
  accessFlags := 1537
  interfaces := #[]
  cf := some (fileOf pool15 2 #[] #[] 1537 4 #[] #[])
  fields := #[]
  methods := #[]
  instanceTypes := #[]
  staticTypes := #[]
  resolved := Array.replicate 8 none
  statics := none }

/-- the primitive byte -/
def k16 : Class := { plain "byte" none with kind := .primitive 'B', accessFlags := 0x411 }
/-- [B -/
def k17 : Class := { plain "[B" (some 0) with kind := .array 16 .byte, interfaces := #[15, 3], accessFlags := 1041 }

/-- the primitive char -/
def k18 : Class := { plain "char" none with kind := .primitive 'C', accessFlags := 0x411 }
/-- [C -/
def k19 : Class := { plain "[C" (some 0) with kind := .array 18 .char, interfaces := #[15, 3], accessFlags := 1041 }

/-- the primitive int -/
def k20 : Class := { plain "int" none with kind := .primitive 'I', accessFlags := 0x411 }
/-- [I -/
def k21 : Class := { plain "[I" (some 0) with kind := .array 20 .int, interfaces := #[15, 3], accessFlags := 1041 }

def heap : Heap := #[{ cls := 8, slots := #[.long 0, .int 1, .null, .int 0, .null, .int 0, .int 0], vm := .statics 8 },
  { cls := 11, slots := #[.null, .null, .null], vm := .statics 11 }]
def classes : Array Class := #[k0, k1, k2, k3, k4, k5, k6, k7, k8, k9, k10, k11, k12, k13, k14, k15, k16, k17, k18, k19, k20, k21]
def interned : List (Array UInt16 × Addr) := []
def slotsUsed : Nat := 10
def theMethod : MethodId := ⟨1, 3⟩
def args0 : Array Value := #[.int 1, .int 65, .int 66, .int 67, .int 68]
def aboutOver (below : List Frame) : State where
  vm := { classes := classes, interned := interned.toArray }
  heap := heap
  slotsUsed := slotsUsed
  threads := #[{ frames := .invoking theMethod args0 :: below }]
def below0 : List Frame := [.native { method := ⟨0, 0⟩, args := #[] }]
def about1 : State := aboutOver below0
def p0 : Program := .bare "" "" ""
def e0 : Env := launch0.env 0 0 0
theorem w_frames : about1.frames = Frame.invoking theMethod args0 :: below0 := rfl
set_option maxRecDepth 65536 in
theorem w_args : argsFit about1.vm theMethod args0 = true := by decide +kernel
set_option maxRecDepth 65536 in
theorem w_heap : heapFits about1 = true := by decide +kernel
set_option maxRecDepth 65536 in
theorem w_runnable : about1.curStatus? = some .runnable := by decide +kernel
set_option maxRecDepth 65536 in
theorem w_alone : about1.alone = true := by decide +kernel
set_option maxRecDepth 65536 in
theorem w_named : about1.methodNamed? x = some theMethod := by decide +kernel
set_option maxRecDepth 65536 in
theorem w_hears : about1.hears theMethod below0 = true := by decide +kernel
set_option maxRecDepth 65536 in
theorem w_ripe : about1.ripe theMethod args0 below0 = true := by decide +kernel
theorem w_running : about1.status = .running := rfl
set_option maxRecDepth 65536 in
theorem w_room : about1.hasRoom e0.platform room_1 = true :=
  launch0.hasRoom_least _ room_1 (by decide +kernel) (by decide +kernel) (by decide +kernel) (by decide +kernel) (by decide +kernel) (by decide +kernel)
theorem allAtoms_all (ts : List Jvm.Cond) (a : Array Jvm.Value) (st : Jvm.State) : (allAtoms ts).before a st = ts.all (fun c => c.before a st) := by
  induction ts with
  | nil => rfl
  | cons c t ih =>
    show (Jvm.Cond.and c (allAtoms t)).before a st = _
    rw [Jvm.Cond.before_and, ih, List.all_cons]
def words1 : List Jvm.Cond := Jvm.Cond.code x code maxLocals ret :: tables_1
/-- a 'code' word, met by the world's own term for the bytes: nothing is compared byte by byte -/
theorem code_word {y : MethodName} {bytes : ByteArray} {mx : Nat} {rt : Option FieldType} {a : Array Value} {s : State} {m : MethodId} {meth : Method} {c : Code} (h1 : s.methodNamed? y = some m) (h2 : s.vm.method? m = some meth) (h3 : meth.code = some c) (h4 : c.code = bytes)
    (h5 : (c.maxLocals == mx && c.exceptionTable.isEmpty && decide (c.maxStack ≤ mostOperands) && decide (meth.sig.returnType = rt) && !meth.locks && decide (parseMethodDescriptor y.desc = some meth.sig)) = true) : (Jvm.Cond.code y bytes mx rt).before a s = true := by
  simp only [Bool.and_eq_true, beq_iff_eq, Bool.not_eq_true', decide_eq_true_eq] at h5
  obtain ⟨⟨⟨⟨⟨g1, g2⟩, g3⟩, g4⟩, g5⟩, g6⟩ := h5
  simp [Cond.before, Cond.holds, Cond.value, h1, h2, h3, h4, g1, g2, g3, g4, g5, g6]
def isCode : Jvm.Cond → Bool
  | .code _ _ _ _ => true
  | _ => false
theorem all_split {L : List Jvm.Cond} {P : Jvm.Cond → Bool} (h1 : L.all (fun c => isCode c || P c) = true) (h2 : ∀ c ∈ L.filter isCode, P c = true) : L.all P = true := by
  refine List.all_eq_true.mpr fun c hc => ?_
  have h := List.all_eq_true.mp h1 c hc
  rcases Bool.eq_false_or_eq_true (isCode c) with hi | hi
  · exact h2 c (List.mem_filter.mpr ⟨hc, hi⟩)
  · simpa [hi] using h
set_option maxRecDepth 65536 in
theorem w_c0 : (Jvm.Cond.code x code maxLocals ret).before args0 about1 = true := code_word (m := ⟨1, 3⟩) (meth := k1m3) (c := k1c3) (by decide +kernel) rfl rfl rfl (by decide +kernel)
set_option maxRecDepth 65536 in
theorem w_c1 : (Jvm.Cond.code ({ cls := "com/example/ferrolho/ferrolho/lock/LockNameEqualsPinLaw", name := "allowed", desc := "(I)C" } : Jvm.MethodName) method_2_code (2 : Nat) (Option.some Jvm.ClassFile.FieldType.char)).before args0 about1 = true := code_word (m := ⟨1, 1⟩) (meth := k1m1) (c := k1c1) (by decide +kernel) rfl rfl rfl (by decide +kernel)
set_option maxRecDepth 65536 in
theorem w_c2 : (Jvm.Cond.code ({ cls := "com/example/ferrolho/ferrolho/lock/LockNameEqualsPinLaw", name := "text", desc := "(CCI)Ljava/lang/String;" } : Jvm.MethodName) method_3_code (4 : Nat) (Option.some (Jvm.ClassFile.FieldType.object "java/lang/String"))).before args0 about1 = true := code_word (m := ⟨1, 2⟩) (meth := k1m2) (c := k1c2) (by decide +kernel) rfl rfl rfl (by decide +kernel)
set_option maxRecDepth 65536 in
theorem w_c3 : (Jvm.Cond.code ({ cls := "java/lang/String", name := "<init>", desc := "([C)V" } : Jvm.MethodName) jdk_42_method_3_code (2 : Nat) (Option.none : Option Jvm.ClassFile.FieldType)).before args0 about1 = true := code_word (m := ⟨8, 1⟩) (meth := k8m1) (c := k8c1) (by decide +kernel) rfl rfl rfl (by decide +kernel)
set_option maxRecDepth 65536 in
theorem w_c4 : (Jvm.Cond.code ({ cls := "java/lang/String", name := "<init>", desc := "([CIILjava/lang/Void;)V" } : Jvm.MethodName) jdk_42_method_149_code (6 : Nat) (Option.none : Option Jvm.ClassFile.FieldType)).before args0 about1 = true := code_word (m := ⟨8, 8⟩) (meth := k8m8) (c := k8c8) (by decide +kernel) rfl rfl rfl (by decide +kernel)
set_option maxRecDepth 65536 in
theorem w_c5 : (Jvm.Cond.code ({ cls := "java/lang/Object", name := "<init>", desc := "()V" } : Jvm.MethodName) object_method_1_code (1 : Nat) (Option.none : Option Jvm.ClassFile.FieldType)).before args0 about1 = true := code_word (m := ⟨0, 0⟩) (meth := k0m0) (c := k0c0) (by decide +kernel) rfl rfl rfl (by decide +kernel)
set_option maxRecDepth 65536 in
theorem w_c6 : (Jvm.Cond.code ({ cls := "java/lang/StringUTF16", name := "compress", desc := "([CII)[B" } : Jvm.MethodName) jdk_52_method_16_code (6 : Nat) (Option.some (Jvm.ClassFile.FieldType.array Jvm.ClassFile.FieldType.byte))).before args0 about1 = true := code_word (m := ⟨9, 2⟩) (meth := k9m2) (c := k9c2) (by decide +kernel) rfl rfl rfl (by decide +kernel)
set_option maxRecDepth 65536 in
theorem w_c7 : (Jvm.Cond.code ({ cls := "java/lang/StringUTF16", name := "compress", desc := "([CI[BII)I" } : Jvm.MethodName) jdk_52_method_21_code (7 : Nat) (Option.some Jvm.ClassFile.FieldType.int)).before args0 about1 = true := code_word (m := ⟨9, 3⟩) (meth := k9m3) (c := k9c3) (by decide +kernel) rfl rfl rfl (by decide +kernel)
set_option maxRecDepth 65536 in
theorem w_c8 : (Jvm.Cond.code ({ cls := "java/lang/StringUTF16", name := "coderFromArrayLen", desc := "([BI)B" } : Jvm.MethodName) jdk_52_method_15_code (2 : Nat) (Option.some Jvm.ClassFile.FieldType.byte)).before args0 about1 = true := code_word (m := ⟨9, 1⟩) (meth := k9m1) (c := k9c1) (by decide +kernel) rfl rfl rfl (by decide +kernel)
set_option maxRecDepth 65536 in
theorem w_c9 : (Jvm.Cond.code ({ cls := "com/example/ferrolho/ferrolho/lock/LockName", name := "<init>", desc := "(Ljava/lang/String;)V" } : Jvm.MethodName) prog_21_method_1_code (5 : Nat) (Option.none : Option Jvm.ClassFile.FieldType)).before args0 about1 = true := code_word (m := ⟨2, 0⟩) (meth := k2m0) (c := k2c0) (by decide +kernel) rfl rfl rfl (by decide +kernel)
set_option maxRecDepth 65536 in
theorem w_c10 : (Jvm.Cond.code ({ cls := "java/util/Objects", name := "requireNonNull", desc := "(Ljava/lang/Object;Ljava/lang/String;)Ljava/lang/Object;" } : Jvm.MethodName) jdk_31_method_11_code (2 : Nat) (Option.some (Jvm.ClassFile.FieldType.object "java/lang/Object"))).before args0 about1 = true := code_word (m := ⟨10, 1⟩) (meth := k10m1) (c := k10c1) (by decide +kernel) rfl rfl rfl (by decide +kernel)
set_option maxRecDepth 65536 in
theorem w_c11 : (Jvm.Cond.code ({ cls := "java/lang/String", name := "length", desc := "()I" } : Jvm.MethodName) jdk_42_method_54_code (1 : Nat) (Option.some Jvm.ClassFile.FieldType.int)).before args0 about1 = true := code_word (m := ⟨8, 2⟩) (meth := k8m2) (c := k8c2) (by decide +kernel) rfl rfl rfl (by decide +kernel)
set_option maxRecDepth 65536 in
theorem w_c12 : (Jvm.Cond.code ({ cls := "java/lang/String", name := "coder", desc := "()B" } : Jvm.MethodName) jdk_42_method_152_code (1 : Nat) (Option.some Jvm.ClassFile.FieldType.byte)).before args0 about1 = true := code_word (m := ⟨8, 9⟩) (meth := k8m9) (c := k8c9) (by decide +kernel) rfl rfl rfl (by decide +kernel)
set_option maxRecDepth 65536 in
theorem w_c13 : (Jvm.Cond.code ({ cls := "java/lang/String", name := "codePointCount", desc := "(II)I" } : Jvm.MethodName) jdk_42_method_59_code (3 : Nat) (Option.some Jvm.ClassFile.FieldType.int)).before args0 about1 = true := code_word (m := ⟨8, 4⟩) (meth := k8m4) (c := k8c4) (by decide +kernel) rfl rfl rfl (by decide +kernel)
set_option maxRecDepth 65536 in
theorem w_c14 : (Jvm.Cond.code ({ cls := "java/util/Objects", name := "checkFromToIndex", desc := "(III)I" } : Jvm.MethodName) jdk_31_method_18_code (3 : Nat) (Option.some Jvm.ClassFile.FieldType.int)).before args0 about1 = true := code_word (m := ⟨10, 2⟩) (meth := k10m2) (c := k10c2) (by decide +kernel) rfl rfl rfl (by decide +kernel)
set_option maxRecDepth 65536 in
theorem w_c15 : (Jvm.Cond.code ({ cls := "jdk/internal/util/Preconditions", name := "checkFromToIndex", desc := "(IIILjava/util/function/BiFunction;)I" } : Jvm.MethodName) jdk_41_method_12_code (4 : Nat) (Option.some Jvm.ClassFile.FieldType.int)).before args0 about1 = true := code_word (m := ⟨11, 2⟩) (meth := k11m2) (c := k11c2) (by decide +kernel) rfl rfl rfl (by decide +kernel)
set_option maxRecDepth 65536 in
theorem w_c16 : (Jvm.Cond.code ({ cls := "java/lang/String", name := "isLatin1", desc := "()Z" } : Jvm.MethodName) jdk_42_method_154_code (1 : Nat) (Option.some Jvm.ClassFile.FieldType.boolean)).before args0 about1 = true := code_word (m := ⟨8, 10⟩) (meth := k8m10) (c := k8c10) (by decide +kernel) rfl rfl rfl (by decide +kernel)
set_option maxRecDepth 65536 in
theorem w_c17 : (Jvm.Cond.code ({ cls := "java/lang/String", name := "charAt", desc := "(I)C" } : Jvm.MethodName) jdk_42_method_56_code (2 : Nat) (Option.some Jvm.ClassFile.FieldType.char)).before args0 about1 = true := code_word (m := ⟨8, 3⟩) (meth := k8m3) (c := k8c3) (by decide +kernel) rfl rfl rfl (by decide +kernel)
set_option maxRecDepth 65536 in
theorem w_c18 : (Jvm.Cond.code ({ cls := "java/lang/StringLatin1", name := "charAt", desc := "([BI)C" } : Jvm.MethodName) jdk_43_method_2_code (2 : Nat) (Option.some Jvm.ClassFile.FieldType.char)).before args0 about1 = true := code_word (m := ⟨12, 1⟩) (meth := k12m1) (c := k12c1) (by decide +kernel) rfl rfl rfl (by decide +kernel)
set_option maxRecDepth 65536 in
theorem w_c19 : (Jvm.Cond.code ({ cls := "java/lang/String", name := "checkIndex", desc := "(II)V" } : Jvm.MethodName) jdk_42_method_155_code (2 : Nat) (Option.none : Option Jvm.ClassFile.FieldType)).before args0 about1 = true := code_word (m := ⟨8, 11⟩) (meth := k8m11) (c := k8c11) (by decide +kernel) rfl rfl rfl (by decide +kernel)
set_option maxRecDepth 65536 in
theorem w_c20 : (Jvm.Cond.code ({ cls := "jdk/internal/util/Preconditions", name := "checkIndex", desc := "(IILjava/util/function/BiFunction;)I" } : Jvm.MethodName) jdk_41_method_11_code (3 : Nat) (Option.some Jvm.ClassFile.FieldType.int)).before args0 about1 = true := code_word (m := ⟨11, 1⟩) (meth := k11m1) (c := k11c1) (by decide +kernel) rfl rfl rfl (by decide +kernel)
set_option maxRecDepth 65536 in
theorem w_c21 : (Jvm.Cond.code ({ cls := "com/example/ferrolho/ferrolho/lock/LockName", name := "isAllowed", desc := "(C)Z" } : Jvm.MethodName) prog_21_method_2_code (1 : Nat) (Option.some Jvm.ClassFile.FieldType.boolean)).before args0 about1 = true := code_word (m := ⟨2, 1⟩) (meth := k2m1) (c := k2c1) (by decide +kernel) rfl rfl rfl (by decide +kernel)
set_option maxRecDepth 65536 in
theorem w_c22 : (Jvm.Cond.code ({ cls := "com/example/ferrolho/ferrolho/lock/LockName", name := "equals", desc := "(Ljava/lang/Object;)Z" } : Jvm.MethodName) prog_21_method_4_code (2 : Nat) (Option.some Jvm.ClassFile.FieldType.boolean)).before args0 about1 = true := code_word (m := ⟨2, 3⟩) (meth := k2m3) (c := k2c3) (by decide +kernel) rfl rfl rfl (by decide +kernel)
set_option maxRecDepth 65536 in
theorem w_c23 : (Jvm.Cond.code ({ cls := "java/lang/String", name := "equals", desc := "(Ljava/lang/Object;)Z" } : Jvm.MethodName) jdk_42_method_66_code (3 : Nat) (Option.some Jvm.ClassFile.FieldType.boolean)).before args0 about1 = true := code_word (m := ⟨8, 5⟩) (meth := k8m5) (c := k8c5) (by decide +kernel) rfl rfl rfl (by decide +kernel)
set_option maxRecDepth 65536 in
theorem w_c24 : (Jvm.Cond.code ({ cls := "java/lang/StringLatin1", name := "equals", desc := "([B[B)Z" } : Jvm.MethodName) jdk_43_method_13_code (3 : Nat) (Option.some Jvm.ClassFile.FieldType.boolean)).before args0 about1 = true := code_word (m := ⟨12, 3⟩) (meth := k12m3) (c := k12c3) (by decide +kernel) rfl rfl rfl (by decide +kernel)
set_option maxRecDepth 65536 in
theorem w_c25 : (Jvm.Cond.code ({ cls := "com/example/ferrolho/ferrolho/lock/LockName", name := "getValue", desc := "()Ljava/lang/String;" } : Jvm.MethodName) prog_21_method_3_code (1 : Nat) (Option.some (Jvm.ClassFile.FieldType.object "java/lang/String"))).before args0 about1 = true := code_word (m := ⟨2, 2⟩) (meth := k2m2) (c := k2c2) (by decide +kernel) rfl rfl rfl (by decide +kernel)
set_option maxRecDepth 65536 in
theorem w_c26 : (Jvm.Cond.code ({ cls := "java/lang/String", name := "indexOf", desc := "(I)I" } : Jvm.MethodName) jdk_42_method_79_code (2 : Nat) (Option.some Jvm.ClassFile.FieldType.int)).before args0 about1 = true := code_word (m := ⟨8, 6⟩) (meth := k8m6) (c := k8c6) (by decide +kernel) rfl rfl rfl (by decide +kernel)
set_option maxRecDepth 65536 in
theorem w_c27 : (Jvm.Cond.code ({ cls := "java/lang/String", name := "indexOf", desc := "(II)I" } : Jvm.MethodName) jdk_42_method_80_code (3 : Nat) (Option.some Jvm.ClassFile.FieldType.int)).before args0 about1 = true := code_word (m := ⟨8, 7⟩) (meth := k8m7) (c := k8c7) (by decide +kernel) rfl rfl rfl (by decide +kernel)
set_option maxRecDepth 65536 in
theorem w_c28 : (Jvm.Cond.code ({ cls := "java/lang/StringLatin1", name := "indexOf", desc := "([BIII)I" } : Jvm.MethodName) jdk_43_method_22_code (4 : Nat) (Option.some Jvm.ClassFile.FieldType.int)).before args0 about1 = true := code_word (m := ⟨12, 4⟩) (meth := k12m4) (c := k12c4) (by decide +kernel) rfl rfl rfl (by decide +kernel)
set_option maxRecDepth 65536 in
theorem w_c29 : (Jvm.Cond.code ({ cls := "java/lang/StringLatin1", name := "canEncode", desc := "(I)Z" } : Jvm.MethodName) jdk_43_method_4_code (1 : Nat) (Option.some Jvm.ClassFile.FieldType.boolean)).before args0 about1 = true := code_word (m := ⟨12, 2⟩) (meth := k12m2) (c := k12c2) (by decide +kernel) rfl rfl rfl (by decide +kernel)
set_option maxRecDepth 65536 in
theorem w_c30 : (Jvm.Cond.code ({ cls := "java/lang/Math", name := "max", desc := "(II)I" } : Jvm.MethodName) jdk_29_method_65_code (2 : Nat) (Option.some Jvm.ClassFile.FieldType.int)).before args0 about1 = true := code_word (m := ⟨13, 1⟩) (meth := k13m1) (c := k13c1) (by decide +kernel) rfl rfl rfl (by decide +kernel)
set_option maxRecDepth 65536 in
theorem w_c31 : (Jvm.Cond.code ({ cls := "java/lang/Math", name := "min", desc := "(II)I" } : Jvm.MethodName) jdk_29_method_69_code (2 : Nat) (Option.some Jvm.ClassFile.FieldType.int)).before args0 about1 = true := code_word (m := ⟨13, 2⟩) (meth := k13m2) (c := k13c2) (by decide +kernel) rfl rfl rfl (by decide +kernel)
set_option maxRecDepth 65536 in
theorem w_c32 : (Jvm.Cond.code ({ cls := "java/lang/StringLatin1", name := "indexOfChar", desc := "([BIII)I" } : Jvm.MethodName) jdk_43_method_23_code (6 : Nat) (Option.some Jvm.ClassFile.FieldType.int)).before args0 about1 = true := code_word (m := ⟨12, 5⟩) (meth := k12m5) (c := k12c5) (by decide +kernel) rfl rfl rfl (by decide +kernel)
def codes1 : List Jvm.Cond := [Jvm.Cond.code x code maxLocals ret, Jvm.Cond.code ({ cls := "com/example/ferrolho/ferrolho/lock/LockNameEqualsPinLaw", name := "allowed", desc := "(I)C" } : Jvm.MethodName) method_2_code (2 : Nat) (Option.some Jvm.ClassFile.FieldType.char), Jvm.Cond.code ({ cls := "com/example/ferrolho/ferrolho/lock/LockNameEqualsPinLaw", name := "text", desc := "(CCI)Ljava/lang/String;" } : Jvm.MethodName) method_3_code (4 : Nat) (Option.some (Jvm.ClassFile.FieldType.object "java/lang/String")), Jvm.Cond.code ({ cls := "java/lang/String", name := "<init>", desc := "([C)V" } : Jvm.MethodName) jdk_42_method_3_code (2 : Nat) (Option.none : Option Jvm.ClassFile.FieldType), Jvm.Cond.code ({ cls := "java/lang/String", name := "<init>", desc := "([CIILjava/lang/Void;)V" } : Jvm.MethodName) jdk_42_method_149_code (6 : Nat) (Option.none : Option Jvm.ClassFile.FieldType), Jvm.Cond.code ({ cls := "java/lang/Object", name := "<init>", desc := "()V" } : Jvm.MethodName) object_method_1_code (1 : Nat) (Option.none : Option Jvm.ClassFile.FieldType), Jvm.Cond.code ({ cls := "java/lang/StringUTF16", name := "compress", desc := "([CII)[B" } : Jvm.MethodName) jdk_52_method_16_code (6 : Nat) (Option.some (Jvm.ClassFile.FieldType.array Jvm.ClassFile.FieldType.byte)), Jvm.Cond.code ({ cls := "java/lang/StringUTF16", name := "compress", desc := "([CI[BII)I" } : Jvm.MethodName) jdk_52_method_21_code (7 : Nat) (Option.some Jvm.ClassFile.FieldType.int), Jvm.Cond.code ({ cls := "java/lang/StringUTF16", name := "coderFromArrayLen", desc := "([BI)B" } : Jvm.MethodName) jdk_52_method_15_code (2 : Nat) (Option.some Jvm.ClassFile.FieldType.byte), Jvm.Cond.code ({ cls := "com/example/ferrolho/ferrolho/lock/LockName", name := "<init>", desc := "(Ljava/lang/String;)V" } : Jvm.MethodName) prog_21_method_1_code (5 : Nat) (Option.none : Option Jvm.ClassFile.FieldType), Jvm.Cond.code ({ cls := "java/util/Objects", name := "requireNonNull", desc := "(Ljava/lang/Object;Ljava/lang/String;)Ljava/lang/Object;" } : Jvm.MethodName) jdk_31_method_11_code (2 : Nat) (Option.some (Jvm.ClassFile.FieldType.object "java/lang/Object")), Jvm.Cond.code ({ cls := "java/lang/String", name := "length", desc := "()I" } : Jvm.MethodName) jdk_42_method_54_code (1 : Nat) (Option.some Jvm.ClassFile.FieldType.int), Jvm.Cond.code ({ cls := "java/lang/String", name := "coder", desc := "()B" } : Jvm.MethodName) jdk_42_method_152_code (1 : Nat) (Option.some Jvm.ClassFile.FieldType.byte), Jvm.Cond.code ({ cls := "java/lang/String", name := "codePointCount", desc := "(II)I" } : Jvm.MethodName) jdk_42_method_59_code (3 : Nat) (Option.some Jvm.ClassFile.FieldType.int), Jvm.Cond.code ({ cls := "java/util/Objects", name := "checkFromToIndex", desc := "(III)I" } : Jvm.MethodName) jdk_31_method_18_code (3 : Nat) (Option.some Jvm.ClassFile.FieldType.int), Jvm.Cond.code ({ cls := "jdk/internal/util/Preconditions", name := "checkFromToIndex", desc := "(IIILjava/util/function/BiFunction;)I" } : Jvm.MethodName) jdk_41_method_12_code (4 : Nat) (Option.some Jvm.ClassFile.FieldType.int), Jvm.Cond.code ({ cls := "java/lang/String", name := "isLatin1", desc := "()Z" } : Jvm.MethodName) jdk_42_method_154_code (1 : Nat) (Option.some Jvm.ClassFile.FieldType.boolean), Jvm.Cond.code ({ cls := "java/lang/String", name := "charAt", desc := "(I)C" } : Jvm.MethodName) jdk_42_method_56_code (2 : Nat) (Option.some Jvm.ClassFile.FieldType.char), Jvm.Cond.code ({ cls := "java/lang/StringLatin1", name := "charAt", desc := "([BI)C" } : Jvm.MethodName) jdk_43_method_2_code (2 : Nat) (Option.some Jvm.ClassFile.FieldType.char), Jvm.Cond.code ({ cls := "java/lang/String", name := "checkIndex", desc := "(II)V" } : Jvm.MethodName) jdk_42_method_155_code (2 : Nat) (Option.none : Option Jvm.ClassFile.FieldType), Jvm.Cond.code ({ cls := "jdk/internal/util/Preconditions", name := "checkIndex", desc := "(IILjava/util/function/BiFunction;)I" } : Jvm.MethodName) jdk_41_method_11_code (3 : Nat) (Option.some Jvm.ClassFile.FieldType.int), Jvm.Cond.code ({ cls := "com/example/ferrolho/ferrolho/lock/LockName", name := "isAllowed", desc := "(C)Z" } : Jvm.MethodName) prog_21_method_2_code (1 : Nat) (Option.some Jvm.ClassFile.FieldType.boolean), Jvm.Cond.code ({ cls := "com/example/ferrolho/ferrolho/lock/LockName", name := "equals", desc := "(Ljava/lang/Object;)Z" } : Jvm.MethodName) prog_21_method_4_code (2 : Nat) (Option.some Jvm.ClassFile.FieldType.boolean), Jvm.Cond.code ({ cls := "java/lang/String", name := "equals", desc := "(Ljava/lang/Object;)Z" } : Jvm.MethodName) jdk_42_method_66_code (3 : Nat) (Option.some Jvm.ClassFile.FieldType.boolean), Jvm.Cond.code ({ cls := "java/lang/StringLatin1", name := "equals", desc := "([B[B)Z" } : Jvm.MethodName) jdk_43_method_13_code (3 : Nat) (Option.some Jvm.ClassFile.FieldType.boolean), Jvm.Cond.code ({ cls := "com/example/ferrolho/ferrolho/lock/LockName", name := "getValue", desc := "()Ljava/lang/String;" } : Jvm.MethodName) prog_21_method_3_code (1 : Nat) (Option.some (Jvm.ClassFile.FieldType.object "java/lang/String")), Jvm.Cond.code ({ cls := "java/lang/String", name := "indexOf", desc := "(I)I" } : Jvm.MethodName) jdk_42_method_79_code (2 : Nat) (Option.some Jvm.ClassFile.FieldType.int), Jvm.Cond.code ({ cls := "java/lang/String", name := "indexOf", desc := "(II)I" } : Jvm.MethodName) jdk_42_method_80_code (3 : Nat) (Option.some Jvm.ClassFile.FieldType.int), Jvm.Cond.code ({ cls := "java/lang/StringLatin1", name := "indexOf", desc := "([BIII)I" } : Jvm.MethodName) jdk_43_method_22_code (4 : Nat) (Option.some Jvm.ClassFile.FieldType.int), Jvm.Cond.code ({ cls := "java/lang/StringLatin1", name := "canEncode", desc := "(I)Z" } : Jvm.MethodName) jdk_43_method_4_code (1 : Nat) (Option.some Jvm.ClassFile.FieldType.boolean), Jvm.Cond.code ({ cls := "java/lang/Math", name := "max", desc := "(II)I" } : Jvm.MethodName) jdk_29_method_65_code (2 : Nat) (Option.some Jvm.ClassFile.FieldType.int), Jvm.Cond.code ({ cls := "java/lang/Math", name := "min", desc := "(II)I" } : Jvm.MethodName) jdk_29_method_69_code (2 : Nat) (Option.some Jvm.ClassFile.FieldType.int), Jvm.Cond.code ({ cls := "java/lang/StringLatin1", name := "indexOfChar", desc := "([BIII)I" } : Jvm.MethodName) jdk_43_method_23_code (6 : Nat) (Option.some Jvm.ClassFile.FieldType.int)]
set_option maxRecDepth 65536 in
theorem codes_eq : words1.filter isCode = codes1 := rfl
theorem w_codes : ∀ c ∈ words1.filter isCode, c.before args0 about1 = true := by
  rw [codes_eq]
  intro c hc
  simp only [codes1, List.mem_cons, List.not_mem_nil, or_false] at hc
  rcases hc with rfl | rfl | rfl | rfl | rfl | rfl | rfl | rfl | rfl | rfl | rfl | rfl | rfl | rfl | rfl | rfl | rfl | rfl | rfl | rfl | rfl | rfl | rfl | rfl | rfl | rfl | rfl | rfl | rfl | rfl | rfl | rfl | rfl
  · exact w_c0
  · exact w_c1
  · exact w_c2
  · exact w_c3
  · exact w_c4
  · exact w_c5
  · exact w_c6
  · exact w_c7
  · exact w_c8
  · exact w_c9
  · exact w_c10
  · exact w_c11
  · exact w_c12
  · exact w_c13
  · exact w_c14
  · exact w_c15
  · exact w_c16
  · exact w_c17
  · exact w_c18
  · exact w_c19
  · exact w_c20
  · exact w_c21
  · exact w_c22
  · exact w_c23
  · exact w_c24
  · exact w_c25
  · exact w_c26
  · exact w_c27
  · exact w_c28
  · exact w_c29
  · exact w_c30
  · exact w_c31
  · exact w_c32
set_option maxRecDepth 65536 in
theorem w_t1 : (words1.take 24).all (fun c => isCode c || c.before args0 about1) = true := by decide +kernel
set_option maxRecDepth 65536 in
theorem w_t2 : ((words1.drop 24).take 24).all (fun c => isCode c || c.before args0 about1) = true := by decide +kernel
set_option maxRecDepth 65536 in
theorem w_t3 : (((words1.drop 24).drop 24).take 24).all (fun c => isCode c || c.before args0 about1) = true := by decide +kernel
set_option maxRecDepth 65536 in
theorem w_t4 : ((((words1.drop 24).drop 24).drop 24).take 24).all (fun c => isCode c || c.before args0 about1) = true := by decide +kernel
set_option maxRecDepth 65536 in
theorem w_t5 : (((((words1.drop 24).drop 24).drop 24).drop 24).take 24).all (fun c => isCode c || c.before args0 about1) = true := by decide +kernel
set_option maxRecDepth 65536 in
theorem w_t6 : ((((((words1.drop 24).drop 24).drop 24).drop 24).drop 24).take 24).all (fun c => isCode c || c.before args0 about1) = true := by decide +kernel
set_option maxRecDepth 65536 in
theorem w_t7 : ((((((words1.drop 24).drop 24).drop 24).drop 24).drop 24).drop 24).all (fun c => isCode c || c.before args0 about1) = true := by decide +kernel
theorem w_tables : (allAtoms (Jvm.Cond.code x code maxLocals ret :: tables_1)).before args0 about1 = true := by
  rw [allAtoms_all]
  show words1.all (fun c => c.before args0 about1) = true
  refine all_split ?_ w_codes
  rw [← List.take_append_drop 24 words1, List.all_append, w_t1, ← List.take_append_drop 24 (words1.drop 24), List.all_append, w_t2, ← List.take_append_drop 24 ((words1.drop 24).drop 24), List.all_append, w_t3, ← List.take_append_drop 24 (((words1.drop 24).drop 24).drop 24), List.all_append, w_t4, ← List.take_append_drop 24 ((((words1.drop 24).drop 24).drop 24).drop 24), List.all_append, w_t5, ← List.take_append_drop 24 (((((words1.drop 24).drop 24).drop 24).drop 24).drop 24), List.all_append, w_t6, w_t7]
  rfl
set_option maxRecDepth 65536 in
theorem w_rest : rest_1_c.before args0 about1 = true := by decide +kernel
set_option maxRecDepth 65536 in
theorem w_case : (Jvm.Cond.and given_1 narrow_1).before args0 about1 = true := by decide +kernel
set_option maxRecDepth 65536 in
theorem w_consts : constsHeld consts_1 about1 := Jvm.Lit.constsHeldB_iff.mp (by decide +kernel)
theorem w_applies : (headSpec (Jvm.Cond.code x code maxLocals ret :: tables_1) room_1).applies x e0.platform about1 = true :=
  (Spec.applies_iff w_frames).mpr ⟨w_running, w_runnable, w_alone, w_named, w_hears, w_ripe, w_room, w_tables⟩
theorem atStart : AtStart classFile x code maxLocals ret World_1 tables_1 room_1 Calls_1 rest_1 Pre_1 launch0 p0 e0 about1 theMethod args0 below0 :=
  ⟨lists_1, trivial, launch0.admits_env _ _ _, launch0.least_env, fairChoices_fair.cas, fairChoices_fair.clock, w_frames, w_args, w_heap, w_applies, ⟨w_consts, trivial⟩, w_rest, w_case⟩
end start1
theorem witness_1 : WitnessClaimed_1 := ⟨start1.p0, start1.e0, start1.about1, start1.theMethod, start1.args0, start1.below0, start1.atStart⟩
end Jvm.Pilot.@@N@@
