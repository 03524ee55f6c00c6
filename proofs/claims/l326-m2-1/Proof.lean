import JvmDerived
import JvmDerived.Pilot.@@N@@Statement
import JvmDerived.Pilot.@@N@@Code
set_option linter.unusedVariables false
set_option linter.unusedSimpArgs false
namespace Jvm.Pilot.@@N@@
open Jvm Jvm.ClassFile Sem Op Lib Jvm.Free Jvm.Stand Jvm.LawKit Jvm.RoadKit Bundle Jvm.Pilot.@@N@@.Jvm.D
/-- what is reached from S1 is reached from S0 -/
abbrev own_K (tb : Tables) (e : Env) (below : List Frame) (S0 S1 : State) : Prop := ∀ t, Steps tb e below S1 t → Steps tb e below S0 t
section Own
variable {p : Program} {l : Launch} {e : Env} {R : Room} {s : State} {m : MethodId} {args : Array Value} {below : List Frame} {meth : Method} {c : Code} {T : State} {locs : List Loc} {cells slots : Nat} {Z : State} {h h' : Heap}
theorem own_lremM {g : JFrame} {target : State} (X : Stand p l e R s m args below meth c T locs cells slots) (hx : p.tables.exec = Jvm.exec) (hg : g.method = m) {x y : Int64} {rest : List Value} (hd : decode c.code g.pc = .ok (.lrem, 1)) (hs : g.stack = .long y :: .long x :: rest) (hy : y ≠ 0)
    (hr : Steps p.tables e below (T.setTop { g with pc := g.pc + 1, stack := .long (x % y) :: rest }) target) : Steps p.tables e below (T.setTop g) target := by
  have q : x - x / y * y = x % y := lrem_mod x y
  exact XS.lrem X.here hx hg hd hs hy (by rw [q]; exact hr)
/-- a static field rides over a write to cells that hold no statics -/
theorem own_staKeep {C n d : String} {w : Value} {ws : List Addr} (F : Sta Z h C n d w) (K : Keep h h' ws) (q : ∀ x ∈ ws, ∀ cell : Cell, h[x]? = some cell → cell.vm.isStatics = false) : Sta Z h' C n d w := by
  obtain ⟨cf, i, k, f, st, cell, h1, h2, h3, h4, h5, h6, h7⟩ := F
  refine ⟨cf, i, k, f, st, cell, h1, h2, h3, h4, K.2.1 st cell h5 (fun hm => ?_), h6, h7⟩
  rw [q st hm cell h5] at h6; cases h6
theorem own_exaNo {a : Addr} {C : String} (E : Exa Z h a C) : ∀ cell : Cell, h[a]? = some cell → cell.vm.isStatics = false := fun cell q => by
  obtain ⟨c1, _, h1, -, -, h4, -⟩ := E
  cases h1.symm.trans q; exact h4
theorem own_selPriv {y : MethodName} {n : Nat} (wi : (Jvm.Cond.instantiable y.cls n).before args s = true) (wp : s.PrivateAt y) (hinst : (Jvm.Cond.instanceMethod y).before args s = true) (hy : y.cls ≠ "java/lang/invoke/MethodHandle" ∧ y.cls ≠ "java/lang/invoke/VarHandle") : (Jvm.Cond.selects y.cls y y).before args s = true := by
  obtain ⟨c, k, h1, h2, -, h4, -⟩ := Cond.instantiable_spec wi
  exact selects_self_of_private h1 h2 (Bool.or_eq_false_iff.mp h4).1 wp hinst hy
/-- a static that holds an object exactly of a class, out of the case's words -/
theorem own_stat {C n d D : String} (hx : (Jvm.Cond.exactly (.static C n d) D).value args Z none Z [] = some true) (w1 : (Jvm.Cond.initialized C).before args Z = true) (w2 : (Jvm.Cond.laysStatic C n d).before args Z = true) :
    ∃ a, Sta Z Z.heap C n d (.ref a) ∧ Exa Z Z.heap a D ∧ (Term.static C n d).eval args Z none [] Z = some (.ref a) := by
  obtain ⟨a, ev⟩ := exa_v hx
  exact ⟨a, Sta.start ev (Or.inr ⟨w1, w2⟩), Exa.start ev hx, ev⟩
theorem own_fldI {t : Term} {a : Addr} {O n d : String} {k : Int32} (ev : t.eval args Z none [] Z = some (.ref a)) (hq : (Jvm.Cond.eq (.field t O n d) (.int k)).value args Z none Z [] = some true) : Fld Z Z.heap a O n d (.int k) := by
  have q := Cond.eq_int (Cond.before_iff.mpr hq) rfl
  rw [fld_at ev] at q
  exact Fld.start q
theorem own_fldJ {t : Term} {a : Addr} {O n d : String} {k : Int64} (ev : t.eval args Z none [] Z = some (.ref a)) (hq : (Jvm.Cond.eq (.field t O n d) (.long k)).value args Z none Z [] = some true) : Fld Z Z.heap a O n d (.long k) := by
  have q := Cond.eq_long (Cond.before_iff.mpr hq) rfl
  rw [fld_at ev] at q
  exact Fld.start q
end Own
theorem own_lt7 {n : Nat} (h : n < 7) : n = 0 ∨ n = 1 ∨ n = 2 ∨ n = 3 ∨ n = 4 ∨ n = 5 ∨ n = 6 := by omega
theorem own_inj {Z : State} {h : Heap} {x : Addr} {n m : Nat} (hn : n < 1000) (hm : m < 1000) (F : Fld Z h x "java/lang/Enum" "ordinal" "I" (.int (Int32.ofNat n))) (G : Fld Z h x "java/lang/Enum" "ordinal" "I" (.int (Int32.ofNat m))) : n = m := by
  refine Decidable.byContradiction fun q => Fld.ne F G (fun e => q ?_) rfl
  have e1 : Int32.ofNat n = Int32.ofNat m := Value.int.inj e
  have e2 := congrArg Int32.toInt e1
  rw [Int32.toInt_ofNat_small (by omega), Int32.toInt_ofNat_small (by omega)] at e2
  omega
def own_f (r : Addr) (a : Nat → Addr) : Int32 := if r = a 0 ∨ r = a 4 ∨ r = a 5 then 1 else 0
theorem own_f1 {a : Nat → Addr} {n : Nat} (h : n = 0 ∨ n = 4 ∨ n = 5) : own_f (a n) a = 1 := by
  unfold own_f
  rw [if_pos]
  rcases h with rfl | rfl | rfl <;> simp
theorem own_f0 {a : Nat → Addr} (DD : ∀ n m, n < 7 → m < 7 → a n = a m → n = m) {n : Nat} (hn : n < 7) (h : ¬ (n = 0 ∨ n = 4 ∨ n = 5)) : own_f (a n) a = 0 := by
  unfold own_f
  rw [if_neg]
  rintro (q | q | q)
  · exact h (Or.inl (DD _ _ hn (by omega) q))
  · exact h (Or.inr (Or.inl (DD _ _ hn (by omega) q)))
  · exact h (Or.inr (Or.inr (DD _ _ hn (by omega) q)))
theorem own_pn0 : plainName "com/example/oncelog/oncelog/log/TransactionState" = true := by first | (simp [plainName, overriddenIn]; done) | decide +kernel
theorem own_d1_0 : decode prog_172_method_4_code 0 = .ok (.aload_n 0, 1) := by decide +kernel
theorem own_d1_1 : decode prog_172_method_4_code 1 = .ok (.getstatic 3, 3) := by decide +kernel
theorem own_d1_4 : decode prog_172_method_4_code 4 = .ok (.if_acmp .eq 17, 3) := by decide +kernel
theorem own_d1_7 : decode prog_172_method_4_code 7 = .ok (.aload_n 0, 1) := by decide +kernel
theorem own_d1_8 : decode prog_172_method_4_code 8 = .ok (.getstatic 16, 3) := by decide +kernel
theorem own_d1_11 : decode prog_172_method_4_code 11 = .ok (.if_acmp .eq 10, 3) := by decide +kernel
theorem own_d1_14 : decode prog_172_method_4_code 14 = .ok (.aload_n 0, 1) := by decide +kernel
theorem own_d1_15 : decode prog_172_method_4_code 15 = .ok (.getstatic 19, 3) := by decide +kernel
theorem own_d1_18 : decode prog_172_method_4_code 18 = .ok (.if_acmp .ne 7, 3) := by decide +kernel
theorem own_d1_21 : decode prog_172_method_4_code 21 = .ok (.iconst 1, 1) := by decide +kernel
theorem own_d1_22 : decode prog_172_method_4_code 22 = .ok (.goto 4, 3) := by decide +kernel
theorem own_d1_25 : decode prog_172_method_4_code 25 = .ok (.iconst 0, 1) := by decide +kernel
theorem own_d1_26 : decode prog_172_method_4_code 26 = .ok (.ireturn, 1) := by decide +kernel
theorem own_ef1 (m : MethodId) (y0 : Addr) : entryFrame m #[(.ref y0)] 1 = mkF m 0 #[.val (.ref y0)] [] := by first | (simp [entryFrame, mkF, argsToLocals, Value.category]; done) | rfl
def Q1 (Z : State) (r : Addr) (a : Nat → Addr) (h0 : Heap) (n0 : Nat) (v : Option Value) (h : Heap) (L : List Loc) : Prop := v = some (.int (own_f r a)) ∧ Fr n0 L ∧ h = h0
set_option maxRecDepth 65536 in
set_option maxHeartbeats 40000000 in
theorem rm1 (l : Launch) (Z : State) (a0 : Array Value) (hw : ∀ d ∈ tables_1, d.before a0 Z = true) (ws : List Jvm.Cond) (r : Addr) (a : Nat → Addr) (h0 : Heap) (n0 : Nat) (S0 : Sta Z h0 "com/example/oncelog/oncelog/log/TransactionState" "EMPTY" "Lcom/example/oncelog/oncelog/log/TransactionState;" (.ref (a 0))) (S4 : Sta Z h0 "com/example/oncelog/oncelog/log/TransactionState" "COMPLETE_COMMIT" "Lcom/example/oncelog/oncelog/log/TransactionState;" (.ref (a 4))) (S5 : Sta Z h0 "com/example/oncelog/oncelog/log/TransactionState" "COMPLETE_ABORT" "Lcom/example/oncelog/oncelog/log/TransactionState;" (.ref (a 5))) :
    MetFree l (⟨"com/example/oncelog/oncelog/log/TransactionState", "settled", "()Z"⟩ : MethodName) (head1 (Jvm.Cond.code (⟨"com/example/oncelog/oncelog/log/TransactionState", "settled", "()Z"⟩ : MethodName) prog_172_method_4_code 1 (some .boolean) :: ws) ({ frames := 0, cells := 0, slots := 0, locals := 0 } : Room)) (fun a U => a = #[(.ref r)] ∧ Z.Warmed39 U.vm ∧ U.heap = h0) (fun _ _ _ _ _ => True) (fun _ U o U' => ∃ v L, o = .returned v ∧ Q1 Z r a h0 n0 v U'.heap L ∧ FrameEnd U o U' L ({ frames := 0, cells := 0, slots := 0, locals := 0 } : Room).cells ({ frames := 0, cells := 0, slots := 0, locals := 0 } : Room).slots) := by
  refine MetFree.of_bodySF (plainFor_of_name own_pn0) hisR ?_
  intro p e s m args below meth c s₁ Bd hml0 hP hK
  obtain ⟨rfl, hZ, hh⟩ := hP
  have hx := Bd.exec
  have hby := Bd.bytes
  have hml : c.maxLocals = 1 := hml0
  have hown : s.vm.findClass "com/example/oncelog/oncelog/log/TransactionState" = some m.cls := findClass_of_methodNamed Bd.named
  have hnm := (name_of_methodNamed Bd.named Bd.method).1
  have X0 : Stand p l e ({ frames := 0, cells := 0, slots := 0, locals := 0 } : Room) s m #[(.ref r)] below meth c s₁ [] 0 0 := Stand.of_body Bd
  have e0 : s₁.heap = h0 := by rw [← hh, Bd.state]; rfl
  have N0 := Fr.nil n0
  have k : own_K p.tables e below (s₁.setTop (entryFrame m #[(.ref r)] 1)) (s₁.setTop (mkF m 0 #[.val (.ref r)] [])) := fun t h => castTop (own_ef1 m r) h
  replace k : own_K p.tables e below (s₁.setTop (entryFrame m #[(.ref r)] 1)) (s₁.setTop (mkF m 1 #[.val (.ref r)] [(.ref r)])) := fun t h => k t (XS.aloadN X0.here hx rfl (hb hby own_d1_0) rfl rfl h)
  obtain ⟨T1, X1, e1, st1⟩ := getS2 X0 hx hZ hown (host := "") (Or.inl (hw _ (List.mem_of_getElem? (i := 9) rfl))) Via.refl e0 S0 (g := (mkF m 1 #[.val (.ref r)] [(.ref r)])) rfl (hb hby own_d1_1)
  replace k : own_K p.tables e below (s₁.setTop (entryFrame m #[(.ref r)] 1)) (T1.setTop (mkF m 4 #[.val (.ref r)] [(.ref (a 0)), (.ref r)])) := fun t h => k t (st1 _ h)
  by_cases cc2 : r = (a 0)
  · replace k : own_K p.tables e below (s₁.setTop (entryFrame m #[(.ref r)] 1)) (T1.setTop (mkF m 21 #[.val (.ref r)] [])) := fun t h => k t (Jvm.RoadKit.acmp (g := (mkF m 4 #[.val (.ref r)] [(.ref (a 0)), (.ref r)])) X1 hx rfl rfl rfl (pc0 := 4) (pc' := 21) (same := true) rfl (hb hby own_d1_4) rfl (decide_eq_true (congrArg Value.ref cc2)) (by decide) (by decide) h)
    replace k : own_K p.tables e below (s₁.setTop (entryFrame m #[(.ref r)] 1)) (T1.setTop (mkF m 22 #[.val (.ref r)] [(.int (1 : Int32))])) := fun t h => k t (XS.iconst X1.here hx rfl (hb hby own_d1_21) h)
    replace k : own_K p.tables e below (s₁.setTop (entryFrame m #[(.ref r)] 1)) (T1.setTop (mkF m 26 #[.val (.ref r)] [(.int (1 : Int32))])) := fun t h => k t (XS.goto X1.here hx rfl (pc0 := 22) (pc' := 26) rfl (hb hby own_d1_22) (by decide) (by decide) h)
    obtain ⟨fs, hr, hrun, hended, hW, hsame⟩ := X1.leave (v := some (.int (1 : Int32))) (fun h => by rw [Bd.returns] at h; cases h)
    refine ⟨_, _, k _ (retOut X1 hx Bd.returns rfl (Or.inl ⟨rfl, by simp, _, rfl⟩) (hb hby own_d1_26) hr), hrun, hended, _, _, rfl, ?_, ⟨_, rfl⟩, hW, hsame.mono (by decide) (by decide)⟩
    show Q1 Z r a h0 n0 _ T1.heap _
    rw [e1]
    exact ⟨(by simp [own_f, cc2]), N0, rfl⟩
  · replace k : own_K p.tables e below (s₁.setTop (entryFrame m #[(.ref r)] 1)) (T1.setTop (mkF m 7 #[.val (.ref r)] [])) := fun t h => k t (Jvm.RoadKit.acmp (g := (mkF m 4 #[.val (.ref r)] [(.ref (a 0)), (.ref r)])) X1 hx rfl rfl rfl (pc0 := 4) (pc' := 7) (same := false) rfl (hb hby own_d1_4) rfl (decide_eq_false fun q => cc2 (Value.ref.inj q)) (by decide) (by decide) h)
    replace k : own_K p.tables e below (s₁.setTop (entryFrame m #[(.ref r)] 1)) (T1.setTop (mkF m 8 #[.val (.ref r)] [(.ref r)])) := fun t h => k t (XS.aloadN X1.here hx rfl (hb hby own_d1_7) rfl rfl h)
    obtain ⟨T3, X3, e3, st3⟩ := getS2 X1 hx hZ hown (host := "") (Or.inl (hw _ (List.mem_of_getElem? (i := 12) rfl))) Via.refl e1 S4 (g := (mkF m 8 #[.val (.ref r)] [(.ref r)])) rfl (hb hby own_d1_8)
    replace k : own_K p.tables e below (s₁.setTop (entryFrame m #[(.ref r)] 1)) (T3.setTop (mkF m 11 #[.val (.ref r)] [(.ref (a 4)), (.ref r)])) := fun t h => k t (st3 _ h)
    by_cases cc4 : r = (a 4)
    · replace k : own_K p.tables e below (s₁.setTop (entryFrame m #[(.ref r)] 1)) (T3.setTop (mkF m 21 #[.val (.ref r)] [])) := fun t h => k t (Jvm.RoadKit.acmp (g := (mkF m 11 #[.val (.ref r)] [(.ref (a 4)), (.ref r)])) X3 hx rfl rfl rfl (pc0 := 11) (pc' := 21) (same := true) rfl (hb hby own_d1_11) rfl (decide_eq_true (congrArg Value.ref cc4)) (by decide) (by decide) h)
      replace k : own_K p.tables e below (s₁.setTop (entryFrame m #[(.ref r)] 1)) (T3.setTop (mkF m 22 #[.val (.ref r)] [(.int (1 : Int32))])) := fun t h => k t (XS.iconst X3.here hx rfl (hb hby own_d1_21) h)
      replace k : own_K p.tables e below (s₁.setTop (entryFrame m #[(.ref r)] 1)) (T3.setTop (mkF m 26 #[.val (.ref r)] [(.int (1 : Int32))])) := fun t h => k t (XS.goto X3.here hx rfl (pc0 := 22) (pc' := 26) rfl (hb hby own_d1_22) (by decide) (by decide) h)
      obtain ⟨fs, hr, hrun, hended, hW, hsame⟩ := X3.leave (v := some (.int (1 : Int32))) (fun h => by rw [Bd.returns] at h; cases h)
      refine ⟨_, _, k _ (retOut X3 hx Bd.returns rfl (Or.inl ⟨rfl, by simp, _, rfl⟩) (hb hby own_d1_26) hr), hrun, hended, _, _, rfl, ?_, ⟨_, rfl⟩, hW, hsame.mono (by decide) (by decide)⟩
      show Q1 Z r a h0 n0 _ T3.heap _
      rw [e3]
      exact ⟨(by simp [own_f, cc2, cc4]), N0, rfl⟩
    · replace k : own_K p.tables e below (s₁.setTop (entryFrame m #[(.ref r)] 1)) (T3.setTop (mkF m 14 #[.val (.ref r)] [])) := fun t h => k t (Jvm.RoadKit.acmp (g := (mkF m 11 #[.val (.ref r)] [(.ref (a 4)), (.ref r)])) X3 hx rfl rfl rfl (pc0 := 11) (pc' := 14) (same := false) rfl (hb hby own_d1_11) rfl (decide_eq_false fun q => cc4 (Value.ref.inj q)) (by decide) (by decide) h)
      replace k : own_K p.tables e below (s₁.setTop (entryFrame m #[(.ref r)] 1)) (T3.setTop (mkF m 15 #[.val (.ref r)] [(.ref r)])) := fun t h => k t (XS.aloadN X3.here hx rfl (hb hby own_d1_14) rfl rfl h)
      obtain ⟨T5, X5, e5, st5⟩ := getS2 X3 hx hZ hown (host := "") (Or.inl (hw _ (List.mem_of_getElem? (i := 14) rfl))) Via.refl e3 S5 (g := (mkF m 15 #[.val (.ref r)] [(.ref r)])) rfl (hb hby own_d1_15)
      replace k : own_K p.tables e below (s₁.setTop (entryFrame m #[(.ref r)] 1)) (T5.setTop (mkF m 18 #[.val (.ref r)] [(.ref (a 5)), (.ref r)])) := fun t h => k t (st5 _ h)
      by_cases cc6 : r = (a 5)
      · replace k : own_K p.tables e below (s₁.setTop (entryFrame m #[(.ref r)] 1)) (T5.setTop (mkF m 21 #[.val (.ref r)] [])) := fun t h => k t (Jvm.RoadKit.acmp (g := (mkF m 18 #[.val (.ref r)] [(.ref (a 5)), (.ref r)])) X5 hx rfl rfl rfl (pc0 := 18) (pc' := 21) (same := true) rfl (hb hby own_d1_18) rfl (decide_eq_true (congrArg Value.ref cc6)) (by decide) (by decide) h)
        replace k : own_K p.tables e below (s₁.setTop (entryFrame m #[(.ref r)] 1)) (T5.setTop (mkF m 22 #[.val (.ref r)] [(.int (1 : Int32))])) := fun t h => k t (XS.iconst X5.here hx rfl (hb hby own_d1_21) h)
        replace k : own_K p.tables e below (s₁.setTop (entryFrame m #[(.ref r)] 1)) (T5.setTop (mkF m 26 #[.val (.ref r)] [(.int (1 : Int32))])) := fun t h => k t (XS.goto X5.here hx rfl (pc0 := 22) (pc' := 26) rfl (hb hby own_d1_22) (by decide) (by decide) h)
        obtain ⟨fs, hr, hrun, hended, hW, hsame⟩ := X5.leave (v := some (.int (1 : Int32))) (fun h => by rw [Bd.returns] at h; cases h)
        refine ⟨_, _, k _ (retOut X5 hx Bd.returns rfl (Or.inl ⟨rfl, by simp, _, rfl⟩) (hb hby own_d1_26) hr), hrun, hended, _, _, rfl, ?_, ⟨_, rfl⟩, hW, hsame.mono (by decide) (by decide)⟩
        show Q1 Z r a h0 n0 _ T5.heap _
        rw [e5]
        exact ⟨(by simp [own_f, cc2, cc4, cc6]), N0, rfl⟩
      · replace k : own_K p.tables e below (s₁.setTop (entryFrame m #[(.ref r)] 1)) (T5.setTop (mkF m 25 #[.val (.ref r)] [])) := fun t h => k t (Jvm.RoadKit.acmp (g := (mkF m 18 #[.val (.ref r)] [(.ref (a 5)), (.ref r)])) X5 hx rfl rfl rfl (pc0 := 18) (pc' := 25) (same := false) rfl (hb hby own_d1_18) rfl (decide_eq_false fun q => cc6 (Value.ref.inj q)) (by decide) (by decide) h)
        replace k : own_K p.tables e below (s₁.setTop (entryFrame m #[(.ref r)] 1)) (T5.setTop (mkF m 26 #[.val (.ref r)] [(.int (0 : Int32))])) := fun t h => k t (XS.iconst X5.here hx rfl (hb hby own_d1_25) h)
        obtain ⟨fs, hr, hrun, hended, hW, hsame⟩ := X5.leave (v := some (.int (0 : Int32))) (fun h => by rw [Bd.returns] at h; cases h)
        refine ⟨_, _, k _ (retOut X5 hx Bd.returns rfl (Or.inl ⟨rfl, by simp, _, rfl⟩) (hb hby own_d1_26) hr), hrun, hended, _, _, rfl, ?_, ⟨_, rfl⟩, hW, hsame.mono (by decide) (by decide)⟩
        show Q1 Z r a h0 n0 _ T5.heap _
        rw [e5]
        exact ⟨(by simp [own_f, cc2, cc4, cc6]), N0, rfl⟩
theorem own_pn1 : plainName "com/example/oncelog/oncelog/log/TransactionStateSettledPinLaw" = true := by first | (simp [plainName, overriddenIn]; done) | decide +kernel
theorem own_pd0 : parseMethodDescriptor "()Z" = some ⟨[], some .boolean⟩ := by decide +kernel
theorem own_ef0 (m : MethodId) (y0 : Int32) : entryFrame m #[(.int y0)] maxLocals = mkF m 0 #[.val (.int y0), .unset, .unset, .unset] [] := by first | (simp [entryFrame, mkF, argsToLocals, Value.category, maxLocals]; done) | rfl
def Q0 (Z : State) (q : Int32) (a : Nat → Addr) (h0 : Heap) (n0 : Nat) (v : Option Value) (h : Heap) (L : List Loc) : Prop := v = some (.int 1) ∧ Fr n0 L
set_option maxRecDepth 65536 in
set_option maxHeartbeats 40000000 in
theorem rm0 (l : Launch) (Z : State) (a0 : Array Value) (hw : ∀ d ∈ tables_1, d.before a0 Z = true) (ws : List Jvm.Cond) (q : Int32) (a : Nat → Addr) (h0 : Heap) (n0 : Nat) (S0 : Sta Z h0 "com/example/oncelog/oncelog/log/TransactionState" "EMPTY" "Lcom/example/oncelog/oncelog/log/TransactionState;" (.ref (a 0))) (S1 : Sta Z h0 "com/example/oncelog/oncelog/log/TransactionState" "ONGOING" "Lcom/example/oncelog/oncelog/log/TransactionState;" (.ref (a 1))) (S2 : Sta Z h0 "com/example/oncelog/oncelog/log/TransactionState" "PREPARE_COMMIT" "Lcom/example/oncelog/oncelog/log/TransactionState;" (.ref (a 2))) (S3 : Sta Z h0 "com/example/oncelog/oncelog/log/TransactionState" "PREPARE_ABORT" "Lcom/example/oncelog/oncelog/log/TransactionState;" (.ref (a 3))) (S4 : Sta Z h0 "com/example/oncelog/oncelog/log/TransactionState" "COMPLETE_COMMIT" "Lcom/example/oncelog/oncelog/log/TransactionState;" (.ref (a 4))) (S5 : Sta Z h0 "com/example/oncelog/oncelog/log/TransactionState" "COMPLETE_ABORT" "Lcom/example/oncelog/oncelog/log/TransactionState;" (.ref (a 5))) (S6 : Sta Z h0 "com/example/oncelog/oncelog/log/TransactionState" "PREPARE_EPOCH_FENCE" "Lcom/example/oncelog/oncelog/log/TransactionState;" (.ref (a 6))) (EE : ∀ n, n < 7 → Exa Z h0 (a n) "com/example/oncelog/oncelog/log/TransactionState") (DD : ∀ n m, n < 7 → m < 7 → a n = a m → n = m) :
    MetFree l x (head1 (Jvm.Cond.code x code maxLocals ret :: ws) room_1) (fun a U => a = #[(.int q)] ∧ Z.Warmed39 U.vm ∧ U.heap = h0) (fun _ _ _ _ _ => True) (fun _ U o U' => ∃ v L, o = .returned v ∧ Q0 Z q a h0 n0 v U'.heap L ∧ FrameEnd U o U' L room_1.cells room_1.slots) := by
  refine MetFree.of_bodySF (plainFor_of_name own_pn1) hisR ?_
  intro p e s m args below meth c s₁ Bd hml0 hP hK
  obtain ⟨rfl, hZ, hh⟩ := hP
  have hx := Bd.exec
  have hby := Bd.bytes
  have hml : c.maxLocals = 4 := hml0
  have hown : s.vm.findClass "com/example/oncelog/oncelog/log/TransactionStateSettledPinLaw" = some m.cls := findClass_of_methodNamed Bd.named
  have hnm := (name_of_methodNamed Bd.named Bd.method).1
  have X0 : Stand p l e room_1 s m #[(.int q)] below meth c s₁ [] 0 0 := Stand.of_body Bd
  have e0 : s₁.heap = h0 := by rw [← hh, Bd.state]; rfl
  have N0 := Fr.nil n0
  have k : own_K p.tables e below (s₁.setTop (entryFrame m #[(.int q)] maxLocals)) (s₁.setTop (mkF m 0 #[.val (.int q), .unset, .unset, .unset] [])) := fun t h => castTop (own_ef0 m q) h
  replace k : own_K p.tables e below (s₁.setTop (entryFrame m #[(.int q)] maxLocals)) (s₁.setTop (mkF m 1 #[.val (.int q), .unset, .unset, .unset] [(.int q)])) := fun t h => k t (XS.iloadN X0.here hx rfl (hb hby at_0) rfl h)
  replace k : own_K p.tables e below (s₁.setTop (entryFrame m #[(.int q)] maxLocals)) (s₁.setTop (mkF m 3 #[.val (.int q), .unset, .unset, .unset] [(.int (2147483647 : Int32)), (.int q)])) := fun t h => k t (X0.ldcInt hx hown (mvT hZ (hw _ (List.mem_of_getElem? (i := 0) rfl))) (g := (mkF m 1 #[.val (.int q), .unset, .unset, .unset] [(.int q)])) rfl (hb hby at_1) _ h)
  replace k : own_K p.tables e below (s₁.setTop (entryFrame m #[(.int q)] maxLocals)) (s₁.setTop (mkF m 4 #[.val (.int q), .unset, .unset, .unset] [(.int (q &&& (2147483647 : Int32)))])) := fun t h => k t (XS.iand X0.here hx rfl (hb hby at_3) rfl h)
  replace k : own_K p.tables e below (s₁.setTop (entryFrame m #[(.int q)] maxLocals)) (s₁.setTop (mkF m 6 #[.val (.int q), .unset, .unset, .unset] [(.int (7 : Int32)), (.int (q &&& (2147483647 : Int32)))])) := fun t h => k t (XS.bipush X0.here hx rfl (hb hby at_4) h)
  replace k : own_K p.tables e below (s₁.setTop (entryFrame m #[(.int q)] maxLocals)) (s₁.setTop (mkF m 7 #[.val (.int q), .unset, .unset, .unset] [(.int ((q &&& (2147483647 : Int32)) % (7 : Int32)))])) := fun t h => k t (iremM X0 hx rfl (hb hby at_6) rfl (by decide) h)
  obtain ⟨kk, hkk⟩ : ∃ z, z = ((q &&& (2147483647 : Int32)) % (7 : Int32)) := ⟨_, rfl⟩
  rw [← hkk] at k
  replace k : own_K p.tables e below (s₁.setTop (entryFrame m #[(.int q)] maxLocals)) (s₁.setTop (mkF m 8 #[.val (.int q), .val (.int kk), .unset, .unset] [])) := fun t h => k t (XS.istoreN X0.here hx rfl (hb hby at_7) rfl (l' := #[.val (.int q), .val (.int kk), .unset, .unset]) rfl h)
  replace k : own_K p.tables e below (s₁.setTop (entryFrame m #[(.int q)] maxLocals)) (s₁.setTop (mkF m 9 #[.val (.int q), .val (.int kk), .unset, .unset] [(.int kk)])) := fun t h => k t (XS.iloadN X0.here hx rfl (hb hby at_8) rfl h)
  by_cases cc1 : kk = (0 : Int32)
  · replace k : own_K p.tables e below (s₁.setTop (entryFrame m #[(.int q)] maxLocals)) (s₁.setTop (mkF m 12 #[.val (.int q), .val (.int kk), .unset, .unset] [])) := fun t h => k t (XS.ifNo X0.here hx rfl (hb hby at_9) rfl ((if0 _ _).trans (teq cc1).2) h)
    obtain ⟨T2, X2, e2, st2⟩ := getS2 X0 hx hZ hown (host := "") (Or.inl (hw _ (List.mem_of_getElem? (i := 1) rfl))) Via.refl e0 S0 (g := (mkF m 12 #[.val (.int q), .val (.int kk), .unset, .unset] [])) rfl (hb hby at_12)
    replace k : own_K p.tables e below (s₁.setTop (entryFrame m #[(.int q)] maxLocals)) (T2.setTop (mkF m 15 #[.val (.int q), .val (.int kk), .unset, .unset] [(.ref (a 0))])) := fun t h => k t (st2 _ h)
    replace k : own_K p.tables e below (s₁.setTop (entryFrame m #[(.int q)] maxLocals)) (T2.setTop (mkF m 16 #[.val (.int q), .val (.int kk), .val (.ref (a 0)), .unset] [])) := fun t h => k t (XS.astoreN X2.here hx rfl (hb hby at_15) rfl rfl (l' := #[.val (.int q), .val (.int kk), .val (.ref (a 0)), .unset]) rfl h)
    replace k : own_K p.tables e below (s₁.setTop (entryFrame m #[(.int q)] maxLocals)) (T2.setTop (mkF m 17 #[.val (.int q), .val (.int kk), .val (.ref (a 0)), .unset] [(.int (1 : Int32))])) := fun t h => k t (XS.iconst X2.here hx rfl (hb hby at_16) h)
    replace k : own_K p.tables e below (s₁.setTop (entryFrame m #[(.int q)] maxLocals)) (T2.setTop (mkF m 18 #[.val (.int q), .val (.int kk), .val (.ref (a 0)), .val (.int (1 : Int32))] [])) := fun t h => k t (XS.istoreN X2.here hx rfl (hb hby at_17) rfl (l' := #[.val (.int q), .val (.int kk), .val (.ref (a 0)), .val (.int (1 : Int32))]) rfl h)
    replace k : own_K p.tables e below (s₁.setTop (entryFrame m #[(.int q)] maxLocals)) (T2.setTop (mkF m 97 #[.val (.int q), .val (.int kk), .val (.ref (a 0)), .val (.int (1 : Int32))] [])) := fun t h => k t (XS.goto X2.here hx rfl (pc0 := 18) (pc' := 97) rfl (hb hby at_18) (by decide) (by decide) h)
    replace k : own_K p.tables e below (s₁.setTop (entryFrame m #[(.int q)] maxLocals)) (T2.setTop (mkF m 98 #[.val (.int q), .val (.int kk), .val (.ref (a 0)), .val (.int (1 : Int32))] [(.ref (a 0))])) := fun t h => k t (XS.aloadN X2.here hx rfl (hb hby at_97) rfl rfl h)
    obtain ⟨cq4, kq4, q4a, q4b, q4c⟩ := isOf hZ e2 (EE 0 (by omega))
    obtain ⟨_, _, ⟨T4, L4, kk4, n4⟩, -, X4, ⟨Lc4, hQ4, l4, y4, z4⟩, st4⟩ := X2.virtualBack hx (y := (⟨"com/example/oncelog/oncelog/log/TransactionState", "settled", "()Z"⟩ : MethodName)) (z := (⟨"com/example/oncelog/oncelog/log/TransactionState", "settled", "()Z"⟩ : MethodName)) hown (mvT hZ (hw _ (List.mem_of_getElem? (i := 4) rfl))) (mvT hZ (hw _ (List.mem_of_getElem? (i := 5) rfl))) (notFace_of_selects (args := #[]) (mvT hZ (hw _ (List.mem_of_getElem? (i := 7) rfl)))) (mvT hZ (hw _ (List.mem_of_getElem? (i := 7) rfl))) (mvT hZ (hw _ (List.mem_of_getElem? (i := 6) rfl))) (by decide) (backOf (W := 0) (rm1 l Z a0 hw [] (a 0) a h0 n0 S0 S4 S5) hZ (hw _ (List.mem_of_getElem? (i := 8) rfl)) (hw _ (List.mem_of_getElem? (i := 2) rfl)) (by decide) (by decide)) q4a q4c (g := (mkF m 98 #[.val (.int q), .val (.int kk), .val (.ref (a 0)), .val (.int (1 : Int32))] [(.ref (a 0))])) rfl (by rw [hml]; rfl) (Steps.refl _) (argsL := []) (rest := []) (lenOf own_pd0 rfl) rfl (by show 2 * 0 + _ ≤ _; exact Nat.le_of_eq rfl) (hb hby at_98) (fun _ _ => ⟨rfl, e2, (by decide : 0 + 0 ≤ _), (by decide : 0 + 0 ≤ _)⟩)
    dsimp only [Pt.U, Pt.locs, Pt.cells, Pt.slots] at X4 l4 y4 z4 st4 hQ4
    subst l4 y4 z4
    obtain ⟨rfl, N4q, eq3⟩ := hQ4
    have N4 := Fr.app N0 N4q
    replace k : own_K p.tables e below (s₁.setTop (entryFrame m #[(.int q)] maxLocals)) (T4.setTop (mkF m 101 #[.val (.int q), .val (.int kk), .val (.ref (a 0)), .val (.int (1 : Int32))] [(.int (own_f (a 0) a))])) := fun t h => k t (st4.trans h)
    replace k : own_K p.tables e below (s₁.setTop (entryFrame m #[(.int q)] maxLocals)) (T4.setTop (mkF m 102 #[.val (.int q), .val (.int kk), .val (.ref (a 0)), .val (.int (1 : Int32))] [(.int (1 : Int32)), (.int (own_f (a 0) a))])) := fun t h => k t (XS.iloadN X4.here hx rfl (hb hby at_101) rfl h)
    replace k : own_K p.tables e below (s₁.setTop (entryFrame m #[(.int q)] maxLocals)) (T4.setTop (mkF m 105 #[.val (.int q), .val (.int kk), .val (.ref (a 0)), .val (.int (1 : Int32))] [])) := fun t h => k t (XS.icmpNo X4.here hx rfl (hb hby at_102) rfl (teq (own_f1 (n := 0) (by omega))).2 h)
    replace k : own_K p.tables e below (s₁.setTop (entryFrame m #[(.int q)] maxLocals)) (T4.setTop (mkF m 106 #[.val (.int q), .val (.int kk), .val (.ref (a 0)), .val (.int (1 : Int32))] [(.int (1 : Int32))])) := fun t h => k t (XS.iconst X4.here hx rfl (hb hby at_105) h)
    replace k : own_K p.tables e below (s₁.setTop (entryFrame m #[(.int q)] maxLocals)) (T4.setTop (mkF m 110 #[.val (.int q), .val (.int kk), .val (.ref (a 0)), .val (.int (1 : Int32))] [(.int (1 : Int32))])) := fun t h => k t (XS.goto X4.here hx rfl (pc0 := 106) (pc' := 110) rfl (hb hby at_106) (by decide) (by decide) h)
    obtain ⟨fs, hr, hrun, hended, hW, hsame⟩ := X4.leave (v := some (.int (1 : Int32))) (fun h => by rw [Bd.returns] at h; cases h)
    refine ⟨_, _, k _ (retOut X4 hx Bd.returns rfl (Or.inl ⟨rfl, by simp [ret], _, rfl⟩) (hb hby at_110) hr), hrun, hended, _, _, rfl, ?_, ⟨_, rfl⟩, hW, hsame.mono (by decide) (by decide)⟩
    show Q0 Z q a h0 n0 _ T4.heap _
    rw [eq3]
    exact ⟨rfl, N4⟩
  · replace k : own_K p.tables e below (s₁.setTop (entryFrame m #[(.int q)] maxLocals)) (s₁.setTop (mkF m 21 #[.val (.int q), .val (.int kk), .unset, .unset] [])) := fun t h => k t (XS.ifYes X0.here hx rfl (pc0 := 9) (pc' := 21) rfl (hb hby at_9) rfl ((if0 _ _).trans (feq cc1).2) (by decide) (by decide) h)
    replace k : own_K p.tables e below (s₁.setTop (entryFrame m #[(.int q)] maxLocals)) (s₁.setTop (mkF m 22 #[.val (.int q), .val (.int kk), .unset, .unset] [(.int kk)])) := fun t h => k t (XS.iloadN X0.here hx rfl (hb hby at_21) rfl h)
    replace k : own_K p.tables e below (s₁.setTop (entryFrame m #[(.int q)] maxLocals)) (s₁.setTop (mkF m 23 #[.val (.int q), .val (.int kk), .unset, .unset] [(.int (1 : Int32)), (.int kk)])) := fun t h => k t (XS.iconst X0.here hx rfl (hb hby at_22) h)
    by_cases cc5 : kk = (1 : Int32)
    · replace k : own_K p.tables e below (s₁.setTop (entryFrame m #[(.int q)] maxLocals)) (s₁.setTop (mkF m 26 #[.val (.int q), .val (.int kk), .unset, .unset] [])) := fun t h => k t (XS.icmpNo X0.here hx rfl (hb hby at_23) rfl (teq cc5).2 h)
      obtain ⟨T6, X6, e6, st6⟩ := getS2 X0 hx hZ hown (host := "") (Or.inl (hw _ (List.mem_of_getElem? (i := 22) rfl))) Via.refl e0 S1 (g := (mkF m 26 #[.val (.int q), .val (.int kk), .unset, .unset] [])) rfl (hb hby at_26)
      replace k : own_K p.tables e below (s₁.setTop (entryFrame m #[(.int q)] maxLocals)) (T6.setTop (mkF m 29 #[.val (.int q), .val (.int kk), .unset, .unset] [(.ref (a 1))])) := fun t h => k t (st6 _ h)
      replace k : own_K p.tables e below (s₁.setTop (entryFrame m #[(.int q)] maxLocals)) (T6.setTop (mkF m 30 #[.val (.int q), .val (.int kk), .val (.ref (a 1)), .unset] [])) := fun t h => k t (XS.astoreN X6.here hx rfl (hb hby at_29) rfl rfl (l' := #[.val (.int q), .val (.int kk), .val (.ref (a 1)), .unset]) rfl h)
      replace k : own_K p.tables e below (s₁.setTop (entryFrame m #[(.int q)] maxLocals)) (T6.setTop (mkF m 31 #[.val (.int q), .val (.int kk), .val (.ref (a 1)), .unset] [(.int (0 : Int32))])) := fun t h => k t (XS.iconst X6.here hx rfl (hb hby at_30) h)
      replace k : own_K p.tables e below (s₁.setTop (entryFrame m #[(.int q)] maxLocals)) (T6.setTop (mkF m 32 #[.val (.int q), .val (.int kk), .val (.ref (a 1)), .val (.int (0 : Int32))] [])) := fun t h => k t (XS.istoreN X6.here hx rfl (hb hby at_31) rfl (l' := #[.val (.int q), .val (.int kk), .val (.ref (a 1)), .val (.int (0 : Int32))]) rfl h)
      replace k : own_K p.tables e below (s₁.setTop (entryFrame m #[(.int q)] maxLocals)) (T6.setTop (mkF m 97 #[.val (.int q), .val (.int kk), .val (.ref (a 1)), .val (.int (0 : Int32))] [])) := fun t h => k t (XS.goto X6.here hx rfl (pc0 := 32) (pc' := 97) rfl (hb hby at_32) (by decide) (by decide) h)
      replace k : own_K p.tables e below (s₁.setTop (entryFrame m #[(.int q)] maxLocals)) (T6.setTop (mkF m 98 #[.val (.int q), .val (.int kk), .val (.ref (a 1)), .val (.int (0 : Int32))] [(.ref (a 1))])) := fun t h => k t (XS.aloadN X6.here hx rfl (hb hby at_97) rfl rfl h)
      obtain ⟨cq8, kq8, q8a, q8b, q8c⟩ := isOf hZ e6 (EE 1 (by omega))
      obtain ⟨_, _, ⟨T8, L8, kk8, n8⟩, -, X8, ⟨Lc8, hQ8, l8, y8, z8⟩, st8⟩ := X6.virtualBack hx (y := (⟨"com/example/oncelog/oncelog/log/TransactionState", "settled", "()Z"⟩ : MethodName)) (z := (⟨"com/example/oncelog/oncelog/log/TransactionState", "settled", "()Z"⟩ : MethodName)) hown (mvT hZ (hw _ (List.mem_of_getElem? (i := 4) rfl))) (mvT hZ (hw _ (List.mem_of_getElem? (i := 5) rfl))) (notFace_of_selects (args := #[]) (mvT hZ (hw _ (List.mem_of_getElem? (i := 7) rfl)))) (mvT hZ (hw _ (List.mem_of_getElem? (i := 7) rfl))) (mvT hZ (hw _ (List.mem_of_getElem? (i := 6) rfl))) (by decide) (backOf (W := 0) (rm1 l Z a0 hw [] (a 1) a h0 n0 S0 S4 S5) hZ (hw _ (List.mem_of_getElem? (i := 8) rfl)) (hw _ (List.mem_of_getElem? (i := 2) rfl)) (by decide) (by decide)) q8a q8c (g := (mkF m 98 #[.val (.int q), .val (.int kk), .val (.ref (a 1)), .val (.int (0 : Int32))] [(.ref (a 1))])) rfl (by rw [hml]; rfl) (Steps.refl _) (argsL := []) (rest := []) (lenOf own_pd0 rfl) rfl (by show 2 * 0 + _ ≤ _; exact Nat.le_of_eq rfl) (hb hby at_98) (fun _ _ => ⟨rfl, e6, (by decide : 0 + 0 ≤ _), (by decide : 0 + 0 ≤ _)⟩)
      dsimp only [Pt.U, Pt.locs, Pt.cells, Pt.slots] at X8 l8 y8 z8 st8 hQ8
      subst l8 y8 z8
      obtain ⟨rfl, N8q, eq7⟩ := hQ8
      have N8 := Fr.app N0 N8q
      replace k : own_K p.tables e below (s₁.setTop (entryFrame m #[(.int q)] maxLocals)) (T8.setTop (mkF m 101 #[.val (.int q), .val (.int kk), .val (.ref (a 1)), .val (.int (0 : Int32))] [(.int (own_f (a 1) a))])) := fun t h => k t (st8.trans h)
      replace k : own_K p.tables e below (s₁.setTop (entryFrame m #[(.int q)] maxLocals)) (T8.setTop (mkF m 102 #[.val (.int q), .val (.int kk), .val (.ref (a 1)), .val (.int (0 : Int32))] [(.int (0 : Int32)), (.int (own_f (a 1) a))])) := fun t h => k t (XS.iloadN X8.here hx rfl (hb hby at_101) rfl h)
      replace k : own_K p.tables e below (s₁.setTop (entryFrame m #[(.int q)] maxLocals)) (T8.setTop (mkF m 105 #[.val (.int q), .val (.int kk), .val (.ref (a 1)), .val (.int (0 : Int32))] [])) := fun t h => k t (XS.icmpNo X8.here hx rfl (hb hby at_102) rfl (teq (own_f0 DD (n := 1) (by omega) (by omega))).2 h)
      replace k : own_K p.tables e below (s₁.setTop (entryFrame m #[(.int q)] maxLocals)) (T8.setTop (mkF m 106 #[.val (.int q), .val (.int kk), .val (.ref (a 1)), .val (.int (0 : Int32))] [(.int (1 : Int32))])) := fun t h => k t (XS.iconst X8.here hx rfl (hb hby at_105) h)
      replace k : own_K p.tables e below (s₁.setTop (entryFrame m #[(.int q)] maxLocals)) (T8.setTop (mkF m 110 #[.val (.int q), .val (.int kk), .val (.ref (a 1)), .val (.int (0 : Int32))] [(.int (1 : Int32))])) := fun t h => k t (XS.goto X8.here hx rfl (pc0 := 106) (pc' := 110) rfl (hb hby at_106) (by decide) (by decide) h)
      obtain ⟨fs, hr, hrun, hended, hW, hsame⟩ := X8.leave (v := some (.int (1 : Int32))) (fun h => by rw [Bd.returns] at h; cases h)
      refine ⟨_, _, k _ (retOut X8 hx Bd.returns rfl (Or.inl ⟨rfl, by simp [ret], _, rfl⟩) (hb hby at_110) hr), hrun, hended, _, _, rfl, ?_, ⟨_, rfl⟩, hW, hsame.mono (by decide) (by decide)⟩
      show Q0 Z q a h0 n0 _ T8.heap _
      rw [eq7]
      exact ⟨rfl, N8⟩
    · replace k : own_K p.tables e below (s₁.setTop (entryFrame m #[(.int q)] maxLocals)) (s₁.setTop (mkF m 35 #[.val (.int q), .val (.int kk), .unset, .unset] [])) := fun t h => k t (XS.icmpYes X0.here hx rfl (pc0 := 23) (pc' := 35) rfl (hb hby at_23) rfl (feq cc5).2 (by decide) (by decide) h)
      replace k : own_K p.tables e below (s₁.setTop (entryFrame m #[(.int q)] maxLocals)) (s₁.setTop (mkF m 36 #[.val (.int q), .val (.int kk), .unset, .unset] [(.int kk)])) := fun t h => k t (XS.iloadN X0.here hx rfl (hb hby at_35) rfl h)
      replace k : own_K p.tables e below (s₁.setTop (entryFrame m #[(.int q)] maxLocals)) (s₁.setTop (mkF m 37 #[.val (.int q), .val (.int kk), .unset, .unset] [(.int (2 : Int32)), (.int kk)])) := fun t h => k t (XS.iconst X0.here hx rfl (hb hby at_36) h)
      by_cases cc9 : kk = (2 : Int32)
      · replace k : own_K p.tables e below (s₁.setTop (entryFrame m #[(.int q)] maxLocals)) (s₁.setTop (mkF m 40 #[.val (.int q), .val (.int kk), .unset, .unset] [])) := fun t h => k t (XS.icmpNo X0.here hx rfl (hb hby at_37) rfl (teq cc9).2 h)
        obtain ⟨T10, X10, e10, st10⟩ := getS2 X0 hx hZ hown (host := "") (Or.inl (hw _ (List.mem_of_getElem? (i := 20) rfl))) Via.refl e0 S2 (g := (mkF m 40 #[.val (.int q), .val (.int kk), .unset, .unset] [])) rfl (hb hby at_40)
        replace k : own_K p.tables e below (s₁.setTop (entryFrame m #[(.int q)] maxLocals)) (T10.setTop (mkF m 43 #[.val (.int q), .val (.int kk), .unset, .unset] [(.ref (a 2))])) := fun t h => k t (st10 _ h)
        replace k : own_K p.tables e below (s₁.setTop (entryFrame m #[(.int q)] maxLocals)) (T10.setTop (mkF m 44 #[.val (.int q), .val (.int kk), .val (.ref (a 2)), .unset] [])) := fun t h => k t (XS.astoreN X10.here hx rfl (hb hby at_43) rfl rfl (l' := #[.val (.int q), .val (.int kk), .val (.ref (a 2)), .unset]) rfl h)
        replace k : own_K p.tables e below (s₁.setTop (entryFrame m #[(.int q)] maxLocals)) (T10.setTop (mkF m 45 #[.val (.int q), .val (.int kk), .val (.ref (a 2)), .unset] [(.int (0 : Int32))])) := fun t h => k t (XS.iconst X10.here hx rfl (hb hby at_44) h)
        replace k : own_K p.tables e below (s₁.setTop (entryFrame m #[(.int q)] maxLocals)) (T10.setTop (mkF m 46 #[.val (.int q), .val (.int kk), .val (.ref (a 2)), .val (.int (0 : Int32))] [])) := fun t h => k t (XS.istoreN X10.here hx rfl (hb hby at_45) rfl (l' := #[.val (.int q), .val (.int kk), .val (.ref (a 2)), .val (.int (0 : Int32))]) rfl h)
        replace k : own_K p.tables e below (s₁.setTop (entryFrame m #[(.int q)] maxLocals)) (T10.setTop (mkF m 97 #[.val (.int q), .val (.int kk), .val (.ref (a 2)), .val (.int (0 : Int32))] [])) := fun t h => k t (XS.goto X10.here hx rfl (pc0 := 46) (pc' := 97) rfl (hb hby at_46) (by decide) (by decide) h)
        replace k : own_K p.tables e below (s₁.setTop (entryFrame m #[(.int q)] maxLocals)) (T10.setTop (mkF m 98 #[.val (.int q), .val (.int kk), .val (.ref (a 2)), .val (.int (0 : Int32))] [(.ref (a 2))])) := fun t h => k t (XS.aloadN X10.here hx rfl (hb hby at_97) rfl rfl h)
        obtain ⟨cq12, kq12, q12a, q12b, q12c⟩ := isOf hZ e10 (EE 2 (by omega))
        obtain ⟨_, _, ⟨T12, L12, kk12, n12⟩, -, X12, ⟨Lc12, hQ12, l12, y12, z12⟩, st12⟩ := X10.virtualBack hx (y := (⟨"com/example/oncelog/oncelog/log/TransactionState", "settled", "()Z"⟩ : MethodName)) (z := (⟨"com/example/oncelog/oncelog/log/TransactionState", "settled", "()Z"⟩ : MethodName)) hown (mvT hZ (hw _ (List.mem_of_getElem? (i := 4) rfl))) (mvT hZ (hw _ (List.mem_of_getElem? (i := 5) rfl))) (notFace_of_selects (args := #[]) (mvT hZ (hw _ (List.mem_of_getElem? (i := 7) rfl)))) (mvT hZ (hw _ (List.mem_of_getElem? (i := 7) rfl))) (mvT hZ (hw _ (List.mem_of_getElem? (i := 6) rfl))) (by decide) (backOf (W := 0) (rm1 l Z a0 hw [] (a 2) a h0 n0 S0 S4 S5) hZ (hw _ (List.mem_of_getElem? (i := 8) rfl)) (hw _ (List.mem_of_getElem? (i := 2) rfl)) (by decide) (by decide)) q12a q12c (g := (mkF m 98 #[.val (.int q), .val (.int kk), .val (.ref (a 2)), .val (.int (0 : Int32))] [(.ref (a 2))])) rfl (by rw [hml]; rfl) (Steps.refl _) (argsL := []) (rest := []) (lenOf own_pd0 rfl) rfl (by show 2 * 0 + _ ≤ _; exact Nat.le_of_eq rfl) (hb hby at_98) (fun _ _ => ⟨rfl, e10, (by decide : 0 + 0 ≤ _), (by decide : 0 + 0 ≤ _)⟩)
        dsimp only [Pt.U, Pt.locs, Pt.cells, Pt.slots] at X12 l12 y12 z12 st12 hQ12
        subst l12 y12 z12
        obtain ⟨rfl, N12q, eq11⟩ := hQ12
        have N12 := Fr.app N0 N12q
        replace k : own_K p.tables e below (s₁.setTop (entryFrame m #[(.int q)] maxLocals)) (T12.setTop (mkF m 101 #[.val (.int q), .val (.int kk), .val (.ref (a 2)), .val (.int (0 : Int32))] [(.int (own_f (a 2) a))])) := fun t h => k t (st12.trans h)
        replace k : own_K p.tables e below (s₁.setTop (entryFrame m #[(.int q)] maxLocals)) (T12.setTop (mkF m 102 #[.val (.int q), .val (.int kk), .val (.ref (a 2)), .val (.int (0 : Int32))] [(.int (0 : Int32)), (.int (own_f (a 2) a))])) := fun t h => k t (XS.iloadN X12.here hx rfl (hb hby at_101) rfl h)
        replace k : own_K p.tables e below (s₁.setTop (entryFrame m #[(.int q)] maxLocals)) (T12.setTop (mkF m 105 #[.val (.int q), .val (.int kk), .val (.ref (a 2)), .val (.int (0 : Int32))] [])) := fun t h => k t (XS.icmpNo X12.here hx rfl (hb hby at_102) rfl (teq (own_f0 DD (n := 2) (by omega) (by omega))).2 h)
        replace k : own_K p.tables e below (s₁.setTop (entryFrame m #[(.int q)] maxLocals)) (T12.setTop (mkF m 106 #[.val (.int q), .val (.int kk), .val (.ref (a 2)), .val (.int (0 : Int32))] [(.int (1 : Int32))])) := fun t h => k t (XS.iconst X12.here hx rfl (hb hby at_105) h)
        replace k : own_K p.tables e below (s₁.setTop (entryFrame m #[(.int q)] maxLocals)) (T12.setTop (mkF m 110 #[.val (.int q), .val (.int kk), .val (.ref (a 2)), .val (.int (0 : Int32))] [(.int (1 : Int32))])) := fun t h => k t (XS.goto X12.here hx rfl (pc0 := 106) (pc' := 110) rfl (hb hby at_106) (by decide) (by decide) h)
        obtain ⟨fs, hr, hrun, hended, hW, hsame⟩ := X12.leave (v := some (.int (1 : Int32))) (fun h => by rw [Bd.returns] at h; cases h)
        refine ⟨_, _, k _ (retOut X12 hx Bd.returns rfl (Or.inl ⟨rfl, by simp [ret], _, rfl⟩) (hb hby at_110) hr), hrun, hended, _, _, rfl, ?_, ⟨_, rfl⟩, hW, hsame.mono (by decide) (by decide)⟩
        show Q0 Z q a h0 n0 _ T12.heap _
        rw [eq11]
        exact ⟨rfl, N12⟩
      · replace k : own_K p.tables e below (s₁.setTop (entryFrame m #[(.int q)] maxLocals)) (s₁.setTop (mkF m 49 #[.val (.int q), .val (.int kk), .unset, .unset] [])) := fun t h => k t (XS.icmpYes X0.here hx rfl (pc0 := 37) (pc' := 49) rfl (hb hby at_37) rfl (feq cc9).2 (by decide) (by decide) h)
        replace k : own_K p.tables e below (s₁.setTop (entryFrame m #[(.int q)] maxLocals)) (s₁.setTop (mkF m 50 #[.val (.int q), .val (.int kk), .unset, .unset] [(.int kk)])) := fun t h => k t (XS.iloadN X0.here hx rfl (hb hby at_49) rfl h)
        replace k : own_K p.tables e below (s₁.setTop (entryFrame m #[(.int q)] maxLocals)) (s₁.setTop (mkF m 51 #[.val (.int q), .val (.int kk), .unset, .unset] [(.int (3 : Int32)), (.int kk)])) := fun t h => k t (XS.iconst X0.here hx rfl (hb hby at_50) h)
        by_cases cc13 : kk = (3 : Int32)
        · replace k : own_K p.tables e below (s₁.setTop (entryFrame m #[(.int q)] maxLocals)) (s₁.setTop (mkF m 54 #[.val (.int q), .val (.int kk), .unset, .unset] [])) := fun t h => k t (XS.icmpNo X0.here hx rfl (hb hby at_51) rfl (teq cc13).2 h)
          obtain ⟨T14, X14, e14, st14⟩ := getS2 X0 hx hZ hown (host := "") (Or.inl (hw _ (List.mem_of_getElem? (i := 10) rfl))) Via.refl e0 S3 (g := (mkF m 54 #[.val (.int q), .val (.int kk), .unset, .unset] [])) rfl (hb hby at_54)
          replace k : own_K p.tables e below (s₁.setTop (entryFrame m #[(.int q)] maxLocals)) (T14.setTop (mkF m 57 #[.val (.int q), .val (.int kk), .unset, .unset] [(.ref (a 3))])) := fun t h => k t (st14 _ h)
          replace k : own_K p.tables e below (s₁.setTop (entryFrame m #[(.int q)] maxLocals)) (T14.setTop (mkF m 58 #[.val (.int q), .val (.int kk), .val (.ref (a 3)), .unset] [])) := fun t h => k t (XS.astoreN X14.here hx rfl (hb hby at_57) rfl rfl (l' := #[.val (.int q), .val (.int kk), .val (.ref (a 3)), .unset]) rfl h)
          replace k : own_K p.tables e below (s₁.setTop (entryFrame m #[(.int q)] maxLocals)) (T14.setTop (mkF m 59 #[.val (.int q), .val (.int kk), .val (.ref (a 3)), .unset] [(.int (0 : Int32))])) := fun t h => k t (XS.iconst X14.here hx rfl (hb hby at_58) h)
          replace k : own_K p.tables e below (s₁.setTop (entryFrame m #[(.int q)] maxLocals)) (T14.setTop (mkF m 60 #[.val (.int q), .val (.int kk), .val (.ref (a 3)), .val (.int (0 : Int32))] [])) := fun t h => k t (XS.istoreN X14.here hx rfl (hb hby at_59) rfl (l' := #[.val (.int q), .val (.int kk), .val (.ref (a 3)), .val (.int (0 : Int32))]) rfl h)
          replace k : own_K p.tables e below (s₁.setTop (entryFrame m #[(.int q)] maxLocals)) (T14.setTop (mkF m 97 #[.val (.int q), .val (.int kk), .val (.ref (a 3)), .val (.int (0 : Int32))] [])) := fun t h => k t (XS.goto X14.here hx rfl (pc0 := 60) (pc' := 97) rfl (hb hby at_60) (by decide) (by decide) h)
          replace k : own_K p.tables e below (s₁.setTop (entryFrame m #[(.int q)] maxLocals)) (T14.setTop (mkF m 98 #[.val (.int q), .val (.int kk), .val (.ref (a 3)), .val (.int (0 : Int32))] [(.ref (a 3))])) := fun t h => k t (XS.aloadN X14.here hx rfl (hb hby at_97) rfl rfl h)
          obtain ⟨cq16, kq16, q16a, q16b, q16c⟩ := isOf hZ e14 (EE 3 (by omega))
          obtain ⟨_, _, ⟨T16, L16, kk16, n16⟩, -, X16, ⟨Lc16, hQ16, l16, y16, z16⟩, st16⟩ := X14.virtualBack hx (y := (⟨"com/example/oncelog/oncelog/log/TransactionState", "settled", "()Z"⟩ : MethodName)) (z := (⟨"com/example/oncelog/oncelog/log/TransactionState", "settled", "()Z"⟩ : MethodName)) hown (mvT hZ (hw _ (List.mem_of_getElem? (i := 4) rfl))) (mvT hZ (hw _ (List.mem_of_getElem? (i := 5) rfl))) (notFace_of_selects (args := #[]) (mvT hZ (hw _ (List.mem_of_getElem? (i := 7) rfl)))) (mvT hZ (hw _ (List.mem_of_getElem? (i := 7) rfl))) (mvT hZ (hw _ (List.mem_of_getElem? (i := 6) rfl))) (by decide) (backOf (W := 0) (rm1 l Z a0 hw [] (a 3) a h0 n0 S0 S4 S5) hZ (hw _ (List.mem_of_getElem? (i := 8) rfl)) (hw _ (List.mem_of_getElem? (i := 2) rfl)) (by decide) (by decide)) q16a q16c (g := (mkF m 98 #[.val (.int q), .val (.int kk), .val (.ref (a 3)), .val (.int (0 : Int32))] [(.ref (a 3))])) rfl (by rw [hml]; rfl) (Steps.refl _) (argsL := []) (rest := []) (lenOf own_pd0 rfl) rfl (by show 2 * 0 + _ ≤ _; exact Nat.le_of_eq rfl) (hb hby at_98) (fun _ _ => ⟨rfl, e14, (by decide : 0 + 0 ≤ _), (by decide : 0 + 0 ≤ _)⟩)
          dsimp only [Pt.U, Pt.locs, Pt.cells, Pt.slots] at X16 l16 y16 z16 st16 hQ16
          subst l16 y16 z16
          obtain ⟨rfl, N16q, eq15⟩ := hQ16
          have N16 := Fr.app N0 N16q
          replace k : own_K p.tables e below (s₁.setTop (entryFrame m #[(.int q)] maxLocals)) (T16.setTop (mkF m 101 #[.val (.int q), .val (.int kk), .val (.ref (a 3)), .val (.int (0 : Int32))] [(.int (own_f (a 3) a))])) := fun t h => k t (st16.trans h)
          replace k : own_K p.tables e below (s₁.setTop (entryFrame m #[(.int q)] maxLocals)) (T16.setTop (mkF m 102 #[.val (.int q), .val (.int kk), .val (.ref (a 3)), .val (.int (0 : Int32))] [(.int (0 : Int32)), (.int (own_f (a 3) a))])) := fun t h => k t (XS.iloadN X16.here hx rfl (hb hby at_101) rfl h)
          replace k : own_K p.tables e below (s₁.setTop (entryFrame m #[(.int q)] maxLocals)) (T16.setTop (mkF m 105 #[.val (.int q), .val (.int kk), .val (.ref (a 3)), .val (.int (0 : Int32))] [])) := fun t h => k t (XS.icmpNo X16.here hx rfl (hb hby at_102) rfl (teq (own_f0 DD (n := 3) (by omega) (by omega))).2 h)
          replace k : own_K p.tables e below (s₁.setTop (entryFrame m #[(.int q)] maxLocals)) (T16.setTop (mkF m 106 #[.val (.int q), .val (.int kk), .val (.ref (a 3)), .val (.int (0 : Int32))] [(.int (1 : Int32))])) := fun t h => k t (XS.iconst X16.here hx rfl (hb hby at_105) h)
          replace k : own_K p.tables e below (s₁.setTop (entryFrame m #[(.int q)] maxLocals)) (T16.setTop (mkF m 110 #[.val (.int q), .val (.int kk), .val (.ref (a 3)), .val (.int (0 : Int32))] [(.int (1 : Int32))])) := fun t h => k t (XS.goto X16.here hx rfl (pc0 := 106) (pc' := 110) rfl (hb hby at_106) (by decide) (by decide) h)
          obtain ⟨fs, hr, hrun, hended, hW, hsame⟩ := X16.leave (v := some (.int (1 : Int32))) (fun h => by rw [Bd.returns] at h; cases h)
          refine ⟨_, _, k _ (retOut X16 hx Bd.returns rfl (Or.inl ⟨rfl, by simp [ret], _, rfl⟩) (hb hby at_110) hr), hrun, hended, _, _, rfl, ?_, ⟨_, rfl⟩, hW, hsame.mono (by decide) (by decide)⟩
          show Q0 Z q a h0 n0 _ T16.heap _
          rw [eq15]
          exact ⟨rfl, N16⟩
        · replace k : own_K p.tables e below (s₁.setTop (entryFrame m #[(.int q)] maxLocals)) (s₁.setTop (mkF m 63 #[.val (.int q), .val (.int kk), .unset, .unset] [])) := fun t h => k t (XS.icmpYes X0.here hx rfl (pc0 := 51) (pc' := 63) rfl (hb hby at_51) rfl (feq cc13).2 (by decide) (by decide) h)
          replace k : own_K p.tables e below (s₁.setTop (entryFrame m #[(.int q)] maxLocals)) (s₁.setTop (mkF m 64 #[.val (.int q), .val (.int kk), .unset, .unset] [(.int kk)])) := fun t h => k t (XS.iloadN X0.here hx rfl (hb hby at_63) rfl h)
          replace k : own_K p.tables e below (s₁.setTop (entryFrame m #[(.int q)] maxLocals)) (s₁.setTop (mkF m 65 #[.val (.int q), .val (.int kk), .unset, .unset] [(.int (4 : Int32)), (.int kk)])) := fun t h => k t (XS.iconst X0.here hx rfl (hb hby at_64) h)
          by_cases cc17 : kk = (4 : Int32)
          · replace k : own_K p.tables e below (s₁.setTop (entryFrame m #[(.int q)] maxLocals)) (s₁.setTop (mkF m 68 #[.val (.int q), .val (.int kk), .unset, .unset] [])) := fun t h => k t (XS.icmpNo X0.here hx rfl (hb hby at_65) rfl (teq cc17).2 h)
            obtain ⟨T18, X18, e18, st18⟩ := getS2 X0 hx hZ hown (host := "") (Or.inl (hw _ (List.mem_of_getElem? (i := 19) rfl))) Via.refl e0 S4 (g := (mkF m 68 #[.val (.int q), .val (.int kk), .unset, .unset] [])) rfl (hb hby at_68)
            replace k : own_K p.tables e below (s₁.setTop (entryFrame m #[(.int q)] maxLocals)) (T18.setTop (mkF m 71 #[.val (.int q), .val (.int kk), .unset, .unset] [(.ref (a 4))])) := fun t h => k t (st18 _ h)
            replace k : own_K p.tables e below (s₁.setTop (entryFrame m #[(.int q)] maxLocals)) (T18.setTop (mkF m 72 #[.val (.int q), .val (.int kk), .val (.ref (a 4)), .unset] [])) := fun t h => k t (XS.astoreN X18.here hx rfl (hb hby at_71) rfl rfl (l' := #[.val (.int q), .val (.int kk), .val (.ref (a 4)), .unset]) rfl h)
            replace k : own_K p.tables e below (s₁.setTop (entryFrame m #[(.int q)] maxLocals)) (T18.setTop (mkF m 73 #[.val (.int q), .val (.int kk), .val (.ref (a 4)), .unset] [(.int (1 : Int32))])) := fun t h => k t (XS.iconst X18.here hx rfl (hb hby at_72) h)
            replace k : own_K p.tables e below (s₁.setTop (entryFrame m #[(.int q)] maxLocals)) (T18.setTop (mkF m 74 #[.val (.int q), .val (.int kk), .val (.ref (a 4)), .val (.int (1 : Int32))] [])) := fun t h => k t (XS.istoreN X18.here hx rfl (hb hby at_73) rfl (l' := #[.val (.int q), .val (.int kk), .val (.ref (a 4)), .val (.int (1 : Int32))]) rfl h)
            replace k : own_K p.tables e below (s₁.setTop (entryFrame m #[(.int q)] maxLocals)) (T18.setTop (mkF m 97 #[.val (.int q), .val (.int kk), .val (.ref (a 4)), .val (.int (1 : Int32))] [])) := fun t h => k t (XS.goto X18.here hx rfl (pc0 := 74) (pc' := 97) rfl (hb hby at_74) (by decide) (by decide) h)
            replace k : own_K p.tables e below (s₁.setTop (entryFrame m #[(.int q)] maxLocals)) (T18.setTop (mkF m 98 #[.val (.int q), .val (.int kk), .val (.ref (a 4)), .val (.int (1 : Int32))] [(.ref (a 4))])) := fun t h => k t (XS.aloadN X18.here hx rfl (hb hby at_97) rfl rfl h)
            obtain ⟨cq20, kq20, q20a, q20b, q20c⟩ := isOf hZ e18 (EE 4 (by omega))
            obtain ⟨_, _, ⟨T20, L20, kk20, n20⟩, -, X20, ⟨Lc20, hQ20, l20, y20, z20⟩, st20⟩ := X18.virtualBack hx (y := (⟨"com/example/oncelog/oncelog/log/TransactionState", "settled", "()Z"⟩ : MethodName)) (z := (⟨"com/example/oncelog/oncelog/log/TransactionState", "settled", "()Z"⟩ : MethodName)) hown (mvT hZ (hw _ (List.mem_of_getElem? (i := 4) rfl))) (mvT hZ (hw _ (List.mem_of_getElem? (i := 5) rfl))) (notFace_of_selects (args := #[]) (mvT hZ (hw _ (List.mem_of_getElem? (i := 7) rfl)))) (mvT hZ (hw _ (List.mem_of_getElem? (i := 7) rfl))) (mvT hZ (hw _ (List.mem_of_getElem? (i := 6) rfl))) (by decide) (backOf (W := 0) (rm1 l Z a0 hw [] (a 4) a h0 n0 S0 S4 S5) hZ (hw _ (List.mem_of_getElem? (i := 8) rfl)) (hw _ (List.mem_of_getElem? (i := 2) rfl)) (by decide) (by decide)) q20a q20c (g := (mkF m 98 #[.val (.int q), .val (.int kk), .val (.ref (a 4)), .val (.int (1 : Int32))] [(.ref (a 4))])) rfl (by rw [hml]; rfl) (Steps.refl _) (argsL := []) (rest := []) (lenOf own_pd0 rfl) rfl (by show 2 * 0 + _ ≤ _; exact Nat.le_of_eq rfl) (hb hby at_98) (fun _ _ => ⟨rfl, e18, (by decide : 0 + 0 ≤ _), (by decide : 0 + 0 ≤ _)⟩)
            dsimp only [Pt.U, Pt.locs, Pt.cells, Pt.slots] at X20 l20 y20 z20 st20 hQ20
            subst l20 y20 z20
            obtain ⟨rfl, N20q, eq19⟩ := hQ20
            have N20 := Fr.app N0 N20q
            replace k : own_K p.tables e below (s₁.setTop (entryFrame m #[(.int q)] maxLocals)) (T20.setTop (mkF m 101 #[.val (.int q), .val (.int kk), .val (.ref (a 4)), .val (.int (1 : Int32))] [(.int (own_f (a 4) a))])) := fun t h => k t (st20.trans h)
            replace k : own_K p.tables e below (s₁.setTop (entryFrame m #[(.int q)] maxLocals)) (T20.setTop (mkF m 102 #[.val (.int q), .val (.int kk), .val (.ref (a 4)), .val (.int (1 : Int32))] [(.int (1 : Int32)), (.int (own_f (a 4) a))])) := fun t h => k t (XS.iloadN X20.here hx rfl (hb hby at_101) rfl h)
            replace k : own_K p.tables e below (s₁.setTop (entryFrame m #[(.int q)] maxLocals)) (T20.setTop (mkF m 105 #[.val (.int q), .val (.int kk), .val (.ref (a 4)), .val (.int (1 : Int32))] [])) := fun t h => k t (XS.icmpNo X20.here hx rfl (hb hby at_102) rfl (teq (own_f1 (n := 4) (by omega))).2 h)
            replace k : own_K p.tables e below (s₁.setTop (entryFrame m #[(.int q)] maxLocals)) (T20.setTop (mkF m 106 #[.val (.int q), .val (.int kk), .val (.ref (a 4)), .val (.int (1 : Int32))] [(.int (1 : Int32))])) := fun t h => k t (XS.iconst X20.here hx rfl (hb hby at_105) h)
            replace k : own_K p.tables e below (s₁.setTop (entryFrame m #[(.int q)] maxLocals)) (T20.setTop (mkF m 110 #[.val (.int q), .val (.int kk), .val (.ref (a 4)), .val (.int (1 : Int32))] [(.int (1 : Int32))])) := fun t h => k t (XS.goto X20.here hx rfl (pc0 := 106) (pc' := 110) rfl (hb hby at_106) (by decide) (by decide) h)
            obtain ⟨fs, hr, hrun, hended, hW, hsame⟩ := X20.leave (v := some (.int (1 : Int32))) (fun h => by rw [Bd.returns] at h; cases h)
            refine ⟨_, _, k _ (retOut X20 hx Bd.returns rfl (Or.inl ⟨rfl, by simp [ret], _, rfl⟩) (hb hby at_110) hr), hrun, hended, _, _, rfl, ?_, ⟨_, rfl⟩, hW, hsame.mono (by decide) (by decide)⟩
            show Q0 Z q a h0 n0 _ T20.heap _
            rw [eq19]
            exact ⟨rfl, N20⟩
          · replace k : own_K p.tables e below (s₁.setTop (entryFrame m #[(.int q)] maxLocals)) (s₁.setTop (mkF m 77 #[.val (.int q), .val (.int kk), .unset, .unset] [])) := fun t h => k t (XS.icmpYes X0.here hx rfl (pc0 := 65) (pc' := 77) rfl (hb hby at_65) rfl (feq cc17).2 (by decide) (by decide) h)
            replace k : own_K p.tables e below (s₁.setTop (entryFrame m #[(.int q)] maxLocals)) (s₁.setTop (mkF m 78 #[.val (.int q), .val (.int kk), .unset, .unset] [(.int kk)])) := fun t h => k t (XS.iloadN X0.here hx rfl (hb hby at_77) rfl h)
            replace k : own_K p.tables e below (s₁.setTop (entryFrame m #[(.int q)] maxLocals)) (s₁.setTop (mkF m 79 #[.val (.int q), .val (.int kk), .unset, .unset] [(.int (5 : Int32)), (.int kk)])) := fun t h => k t (XS.iconst X0.here hx rfl (hb hby at_78) h)
            by_cases cc21 : kk = (5 : Int32)
            · replace k : own_K p.tables e below (s₁.setTop (entryFrame m #[(.int q)] maxLocals)) (s₁.setTop (mkF m 82 #[.val (.int q), .val (.int kk), .unset, .unset] [])) := fun t h => k t (XS.icmpNo X0.here hx rfl (hb hby at_79) rfl (teq cc21).2 h)
              obtain ⟨T22, X22, e22, st22⟩ := getS2 X0 hx hZ hown (host := "") (Or.inl (hw _ (List.mem_of_getElem? (i := 16) rfl))) Via.refl e0 S5 (g := (mkF m 82 #[.val (.int q), .val (.int kk), .unset, .unset] [])) rfl (hb hby at_82)
              replace k : own_K p.tables e below (s₁.setTop (entryFrame m #[(.int q)] maxLocals)) (T22.setTop (mkF m 85 #[.val (.int q), .val (.int kk), .unset, .unset] [(.ref (a 5))])) := fun t h => k t (st22 _ h)
              replace k : own_K p.tables e below (s₁.setTop (entryFrame m #[(.int q)] maxLocals)) (T22.setTop (mkF m 86 #[.val (.int q), .val (.int kk), .val (.ref (a 5)), .unset] [])) := fun t h => k t (XS.astoreN X22.here hx rfl (hb hby at_85) rfl rfl (l' := #[.val (.int q), .val (.int kk), .val (.ref (a 5)), .unset]) rfl h)
              replace k : own_K p.tables e below (s₁.setTop (entryFrame m #[(.int q)] maxLocals)) (T22.setTop (mkF m 87 #[.val (.int q), .val (.int kk), .val (.ref (a 5)), .unset] [(.int (1 : Int32))])) := fun t h => k t (XS.iconst X22.here hx rfl (hb hby at_86) h)
              replace k : own_K p.tables e below (s₁.setTop (entryFrame m #[(.int q)] maxLocals)) (T22.setTop (mkF m 88 #[.val (.int q), .val (.int kk), .val (.ref (a 5)), .val (.int (1 : Int32))] [])) := fun t h => k t (XS.istoreN X22.here hx rfl (hb hby at_87) rfl (l' := #[.val (.int q), .val (.int kk), .val (.ref (a 5)), .val (.int (1 : Int32))]) rfl h)
              replace k : own_K p.tables e below (s₁.setTop (entryFrame m #[(.int q)] maxLocals)) (T22.setTop (mkF m 97 #[.val (.int q), .val (.int kk), .val (.ref (a 5)), .val (.int (1 : Int32))] [])) := fun t h => k t (XS.goto X22.here hx rfl (pc0 := 88) (pc' := 97) rfl (hb hby at_88) (by decide) (by decide) h)
              replace k : own_K p.tables e below (s₁.setTop (entryFrame m #[(.int q)] maxLocals)) (T22.setTop (mkF m 98 #[.val (.int q), .val (.int kk), .val (.ref (a 5)), .val (.int (1 : Int32))] [(.ref (a 5))])) := fun t h => k t (XS.aloadN X22.here hx rfl (hb hby at_97) rfl rfl h)
              obtain ⟨cq24, kq24, q24a, q24b, q24c⟩ := isOf hZ e22 (EE 5 (by omega))
              obtain ⟨_, _, ⟨T24, L24, kk24, n24⟩, -, X24, ⟨Lc24, hQ24, l24, y24, z24⟩, st24⟩ := X22.virtualBack hx (y := (⟨"com/example/oncelog/oncelog/log/TransactionState", "settled", "()Z"⟩ : MethodName)) (z := (⟨"com/example/oncelog/oncelog/log/TransactionState", "settled", "()Z"⟩ : MethodName)) hown (mvT hZ (hw _ (List.mem_of_getElem? (i := 4) rfl))) (mvT hZ (hw _ (List.mem_of_getElem? (i := 5) rfl))) (notFace_of_selects (args := #[]) (mvT hZ (hw _ (List.mem_of_getElem? (i := 7) rfl)))) (mvT hZ (hw _ (List.mem_of_getElem? (i := 7) rfl))) (mvT hZ (hw _ (List.mem_of_getElem? (i := 6) rfl))) (by decide) (backOf (W := 0) (rm1 l Z a0 hw [] (a 5) a h0 n0 S0 S4 S5) hZ (hw _ (List.mem_of_getElem? (i := 8) rfl)) (hw _ (List.mem_of_getElem? (i := 2) rfl)) (by decide) (by decide)) q24a q24c (g := (mkF m 98 #[.val (.int q), .val (.int kk), .val (.ref (a 5)), .val (.int (1 : Int32))] [(.ref (a 5))])) rfl (by rw [hml]; rfl) (Steps.refl _) (argsL := []) (rest := []) (lenOf own_pd0 rfl) rfl (by show 2 * 0 + _ ≤ _; exact Nat.le_of_eq rfl) (hb hby at_98) (fun _ _ => ⟨rfl, e22, (by decide : 0 + 0 ≤ _), (by decide : 0 + 0 ≤ _)⟩)
              dsimp only [Pt.U, Pt.locs, Pt.cells, Pt.slots] at X24 l24 y24 z24 st24 hQ24
              subst l24 y24 z24
              obtain ⟨rfl, N24q, eq23⟩ := hQ24
              have N24 := Fr.app N0 N24q
              replace k : own_K p.tables e below (s₁.setTop (entryFrame m #[(.int q)] maxLocals)) (T24.setTop (mkF m 101 #[.val (.int q), .val (.int kk), .val (.ref (a 5)), .val (.int (1 : Int32))] [(.int (own_f (a 5) a))])) := fun t h => k t (st24.trans h)
              replace k : own_K p.tables e below (s₁.setTop (entryFrame m #[(.int q)] maxLocals)) (T24.setTop (mkF m 102 #[.val (.int q), .val (.int kk), .val (.ref (a 5)), .val (.int (1 : Int32))] [(.int (1 : Int32)), (.int (own_f (a 5) a))])) := fun t h => k t (XS.iloadN X24.here hx rfl (hb hby at_101) rfl h)
              replace k : own_K p.tables e below (s₁.setTop (entryFrame m #[(.int q)] maxLocals)) (T24.setTop (mkF m 105 #[.val (.int q), .val (.int kk), .val (.ref (a 5)), .val (.int (1 : Int32))] [])) := fun t h => k t (XS.icmpNo X24.here hx rfl (hb hby at_102) rfl (teq (own_f1 (n := 5) (by omega))).2 h)
              replace k : own_K p.tables e below (s₁.setTop (entryFrame m #[(.int q)] maxLocals)) (T24.setTop (mkF m 106 #[.val (.int q), .val (.int kk), .val (.ref (a 5)), .val (.int (1 : Int32))] [(.int (1 : Int32))])) := fun t h => k t (XS.iconst X24.here hx rfl (hb hby at_105) h)
              replace k : own_K p.tables e below (s₁.setTop (entryFrame m #[(.int q)] maxLocals)) (T24.setTop (mkF m 110 #[.val (.int q), .val (.int kk), .val (.ref (a 5)), .val (.int (1 : Int32))] [(.int (1 : Int32))])) := fun t h => k t (XS.goto X24.here hx rfl (pc0 := 106) (pc' := 110) rfl (hb hby at_106) (by decide) (by decide) h)
              obtain ⟨fs, hr, hrun, hended, hW, hsame⟩ := X24.leave (v := some (.int (1 : Int32))) (fun h => by rw [Bd.returns] at h; cases h)
              refine ⟨_, _, k _ (retOut X24 hx Bd.returns rfl (Or.inl ⟨rfl, by simp [ret], _, rfl⟩) (hb hby at_110) hr), hrun, hended, _, _, rfl, ?_, ⟨_, rfl⟩, hW, hsame.mono (by decide) (by decide)⟩
              show Q0 Z q a h0 n0 _ T24.heap _
              rw [eq23]
              exact ⟨rfl, N24⟩
            · replace k : own_K p.tables e below (s₁.setTop (entryFrame m #[(.int q)] maxLocals)) (s₁.setTop (mkF m 91 #[.val (.int q), .val (.int kk), .unset, .unset] [])) := fun t h => k t (XS.icmpYes X0.here hx rfl (pc0 := 79) (pc' := 91) rfl (hb hby at_79) rfl (feq cc21).2 (by decide) (by decide) h)
              obtain ⟨T25, X25, e25, st25⟩ := getS2 X0 hx hZ hown (host := "") (Or.inl (hw _ (List.mem_of_getElem? (i := 17) rfl))) Via.refl e0 S6 (g := (mkF m 91 #[.val (.int q), .val (.int kk), .unset, .unset] [])) rfl (hb hby at_91)
              replace k : own_K p.tables e below (s₁.setTop (entryFrame m #[(.int q)] maxLocals)) (T25.setTop (mkF m 94 #[.val (.int q), .val (.int kk), .unset, .unset] [(.ref (a 6))])) := fun t h => k t (st25 _ h)
              replace k : own_K p.tables e below (s₁.setTop (entryFrame m #[(.int q)] maxLocals)) (T25.setTop (mkF m 95 #[.val (.int q), .val (.int kk), .val (.ref (a 6)), .unset] [])) := fun t h => k t (XS.astoreN X25.here hx rfl (hb hby at_94) rfl rfl (l' := #[.val (.int q), .val (.int kk), .val (.ref (a 6)), .unset]) rfl h)
              replace k : own_K p.tables e below (s₁.setTop (entryFrame m #[(.int q)] maxLocals)) (T25.setTop (mkF m 96 #[.val (.int q), .val (.int kk), .val (.ref (a 6)), .unset] [(.int (0 : Int32))])) := fun t h => k t (XS.iconst X25.here hx rfl (hb hby at_95) h)
              replace k : own_K p.tables e below (s₁.setTop (entryFrame m #[(.int q)] maxLocals)) (T25.setTop (mkF m 97 #[.val (.int q), .val (.int kk), .val (.ref (a 6)), .val (.int (0 : Int32))] [])) := fun t h => k t (XS.istoreN X25.here hx rfl (hb hby at_96) rfl (l' := #[.val (.int q), .val (.int kk), .val (.ref (a 6)), .val (.int (0 : Int32))]) rfl h)
              replace k : own_K p.tables e below (s₁.setTop (entryFrame m #[(.int q)] maxLocals)) (T25.setTop (mkF m 98 #[.val (.int q), .val (.int kk), .val (.ref (a 6)), .val (.int (0 : Int32))] [(.ref (a 6))])) := fun t h => k t (XS.aloadN X25.here hx rfl (hb hby at_97) rfl rfl h)
              obtain ⟨cq27, kq27, q27a, q27b, q27c⟩ := isOf hZ e25 (EE 6 (by omega))
              obtain ⟨_, _, ⟨T27, L27, kk27, n27⟩, -, X27, ⟨Lc27, hQ27, l27, y27, z27⟩, st27⟩ := X25.virtualBack hx (y := (⟨"com/example/oncelog/oncelog/log/TransactionState", "settled", "()Z"⟩ : MethodName)) (z := (⟨"com/example/oncelog/oncelog/log/TransactionState", "settled", "()Z"⟩ : MethodName)) hown (mvT hZ (hw _ (List.mem_of_getElem? (i := 4) rfl))) (mvT hZ (hw _ (List.mem_of_getElem? (i := 5) rfl))) (notFace_of_selects (args := #[]) (mvT hZ (hw _ (List.mem_of_getElem? (i := 7) rfl)))) (mvT hZ (hw _ (List.mem_of_getElem? (i := 7) rfl))) (mvT hZ (hw _ (List.mem_of_getElem? (i := 6) rfl))) (by decide) (backOf (W := 0) (rm1 l Z a0 hw [] (a 6) a h0 n0 S0 S4 S5) hZ (hw _ (List.mem_of_getElem? (i := 8) rfl)) (hw _ (List.mem_of_getElem? (i := 2) rfl)) (by decide) (by decide)) q27a q27c (g := (mkF m 98 #[.val (.int q), .val (.int kk), .val (.ref (a 6)), .val (.int (0 : Int32))] [(.ref (a 6))])) rfl (by rw [hml]; rfl) (Steps.refl _) (argsL := []) (rest := []) (lenOf own_pd0 rfl) rfl (by show 2 * 0 + _ ≤ _; exact Nat.le_of_eq rfl) (hb hby at_98) (fun _ _ => ⟨rfl, e25, (by decide : 0 + 0 ≤ _), (by decide : 0 + 0 ≤ _)⟩)
              dsimp only [Pt.U, Pt.locs, Pt.cells, Pt.slots] at X27 l27 y27 z27 st27 hQ27
              subst l27 y27 z27
              obtain ⟨rfl, N27q, eq26⟩ := hQ27
              have N27 := Fr.app N0 N27q
              replace k : own_K p.tables e below (s₁.setTop (entryFrame m #[(.int q)] maxLocals)) (T27.setTop (mkF m 101 #[.val (.int q), .val (.int kk), .val (.ref (a 6)), .val (.int (0 : Int32))] [(.int (own_f (a 6) a))])) := fun t h => k t (st27.trans h)
              replace k : own_K p.tables e below (s₁.setTop (entryFrame m #[(.int q)] maxLocals)) (T27.setTop (mkF m 102 #[.val (.int q), .val (.int kk), .val (.ref (a 6)), .val (.int (0 : Int32))] [(.int (0 : Int32)), (.int (own_f (a 6) a))])) := fun t h => k t (XS.iloadN X27.here hx rfl (hb hby at_101) rfl h)
              replace k : own_K p.tables e below (s₁.setTop (entryFrame m #[(.int q)] maxLocals)) (T27.setTop (mkF m 105 #[.val (.int q), .val (.int kk), .val (.ref (a 6)), .val (.int (0 : Int32))] [])) := fun t h => k t (XS.icmpNo X27.here hx rfl (hb hby at_102) rfl (teq (own_f0 DD (n := 6) (by omega) (by omega))).2 h)
              replace k : own_K p.tables e below (s₁.setTop (entryFrame m #[(.int q)] maxLocals)) (T27.setTop (mkF m 106 #[.val (.int q), .val (.int kk), .val (.ref (a 6)), .val (.int (0 : Int32))] [(.int (1 : Int32))])) := fun t h => k t (XS.iconst X27.here hx rfl (hb hby at_105) h)
              replace k : own_K p.tables e below (s₁.setTop (entryFrame m #[(.int q)] maxLocals)) (T27.setTop (mkF m 110 #[.val (.int q), .val (.int kk), .val (.ref (a 6)), .val (.int (0 : Int32))] [(.int (1 : Int32))])) := fun t h => k t (XS.goto X27.here hx rfl (pc0 := 106) (pc' := 110) rfl (hb hby at_106) (by decide) (by decide) h)
              obtain ⟨fs, hr, hrun, hended, hW, hsame⟩ := X27.leave (v := some (.int (1 : Int32))) (fun h => by rw [Bd.returns] at h; cases h)
              refine ⟨_, _, k _ (retOut X27 hx Bd.returns rfl (Or.inl ⟨rfl, by simp [ret], _, rfl⟩) (hb hby at_110) hr), hrun, hended, _, _, rfl, ?_, ⟨_, rfl⟩, hW, hsame.mono (by decide) (by decide)⟩
              show Q0 Z q a h0 n0 _ T27.heap _
              rw [eq26]
              exact ⟨rfl, N27⟩
set_option maxRecDepth 65536 in
set_option maxHeartbeats 40000000 in
theorem comes_1 {Post : Tables → Env → Array Value → State → Outcome → State → Prop} (hpost : ∀ tb e args s v u, (limb_1_1.after args s (.returned v) u = true ∧ limb_1_2.after args s (.returned v) u = true ∧ True) → FrameEnd s (.returned v) u (Jvm.fieldLocs frame_1_writes args s ++ Jvm.arrayLocs frame_1_arrays args s ++ Jvm.staticLocs frame_1_statics s) 0 0 → Post tb e args s (.returned v) u) :
    ArmFor flags0 classFile x code maxLocals ret World_1 tables_1 room_1 Calls_1 rest_1 Pre_1 Post := by
  intro l hfl _ _ p e ha hc hk s m args below hf hA hF happ hP
  obtain ⟨hcalls, hrest, hpre⟩ := hP
  obtain ⟨-, -, -, hnamed, -, -, -, hat⟩ := (Spec.applies_iff hf).mp happ
  obtain ⟨hg, hn⟩ := and_e (Cond.before_iff.mp (show (Jvm.Cond.and given_1 narrow_1).before args s = true from hpre))
  obtain ⟨hcount, hg⟩ := and_e hg
  obtain ⟨w0, rfl⟩ : ∃ w0 : Value, args = #[w0] := by
    have hs : args.size = 1 := by simpa [Cond.value, given_1] using hcount
    obtain ⟨L⟩ := args
    match L, hs with
    | [w0], _ => exact ⟨w0, rfl⟩
  have hw := fun d (hd : d ∈ tables_1) => atoms_spec (ws := Jvm.Cond.code x code maxLocals ret :: tables_1) hat d (List.mem_cons_of_mem _ hd)
  have hfit : Fit s := fun {y c} hc i hi => by
    obtain ⟨ha, rfl⟩ := Array.getElem?_eq_some_iff.mp hc
    have q := List.all_eq_true.mp ((Array.all_eq_true_iff_forall_mem.mp hF) _ (Array.getElem_mem ha)) i (List.mem_range.mpr hi)
    simpa [Array.getElem?_eq_getElem hi] using q
  obtain ⟨i0, hi0⟩ := is_v hg
  obtain rfl : w0 = (.int i0) := Option.some.inj hi0
  obtain ⟨r0, hn⟩ := and_e hn
  obtain ⟨r1, hn⟩ := and_e hn
  obtain ⟨r2, hn⟩ := and_e hn
  obtain ⟨r3, hn⟩ := and_e hn
  obtain ⟨r4, hn⟩ := and_e hn
  obtain ⟨r5, hn⟩ := and_e hn
  obtain ⟨r6, hn⟩ := and_e hn
  obtain ⟨r7, hn⟩ := and_e hn
  obtain ⟨r8, hn⟩ := and_e hn
  obtain ⟨r9, hn⟩ := and_e hn
  obtain ⟨r10, hn⟩ := and_e hn
  obtain ⟨r11, hn⟩ := and_e hn
  obtain ⟨r12, hn⟩ := and_e hn
  have r13 := hn
  obtain ⟨x0, S0, E0, ev0⟩ := own_stat r0 (hw _ (List.mem_of_getElem? (i := 2) rfl)) (hw _ (List.mem_of_getElem? (i := 3) rfl))
  obtain ⟨x3, S3, E3, ev3⟩ := own_stat r1 (hw _ (List.mem_of_getElem? (i := 2) rfl)) (hw _ (List.mem_of_getElem? (i := 11) rfl))
  obtain ⟨x4, S4, E4, ev4⟩ := own_stat r4 (hw _ (List.mem_of_getElem? (i := 2) rfl)) (hw _ (List.mem_of_getElem? (i := 13) rfl))
  obtain ⟨x5, S5, E5, ev5⟩ := own_stat r6 (hw _ (List.mem_of_getElem? (i := 2) rfl)) (hw _ (List.mem_of_getElem? (i := 15) rfl))
  obtain ⟨x6, S6, E6, ev6⟩ := own_stat r8 (hw _ (List.mem_of_getElem? (i := 2) rfl)) (hw _ (List.mem_of_getElem? (i := 18) rfl))
  obtain ⟨x2, S2, E2, ev2⟩ := own_stat r10 (hw _ (List.mem_of_getElem? (i := 2) rfl)) (hw _ (List.mem_of_getElem? (i := 21) rfl))
  obtain ⟨x1, S1, E1, ev1⟩ := own_stat r12 (hw _ (List.mem_of_getElem? (i := 2) rfl)) (hw _ (List.mem_of_getElem? (i := 23) rfl))
  have F_ordinal3 := own_fldI ev3 r2
  have F_ordinal0 := own_fldI ev0 r3
  have F_ordinal4 := own_fldI ev4 r5
  have F_ordinal5 := own_fldI ev5 r7
  have F_ordinal6 := own_fldI ev6 r9
  have F_ordinal2 := own_fldI ev2 r11
  have F_ordinal1 := own_fldI ev1 r13
  obtain ⟨a, ha0⟩ : ∃ a : Nat → Addr, a = fun n => [x0, x1, x2, x3, x4, x5, x6].getD n 0 := ⟨_, rfl⟩
  have hx0 : x0 = a 0 := by rw [ha0]; rfl
  have hx1 : x1 = a 1 := by rw [ha0]; rfl
  have hx2 : x2 = a 2 := by rw [ha0]; rfl
  have hx3 : x3 = a 3 := by rw [ha0]; rfl
  have hx4 : x4 = a 4 := by rw [ha0]; rfl
  have hx5 : x5 = a 5 := by rw [ha0]; rfl
  have hx6 : x6 = a 6 := by rw [ha0]; rfl
  clear ha0
  subst hx0
  subst hx1
  subst hx2
  subst hx3
  subst hx4
  subst hx5
  subst hx6
  have EE : ∀ n, n < 7 → Exa s s.heap (a n) "com/example/oncelog/oncelog/log/TransactionState" := fun n hn => by
    rcases own_lt7 hn with rfl | rfl | rfl | rfl | rfl | rfl | rfl
    · exact E0
    · exact E1
    · exact E2
    · exact E3
    · exact E4
    · exact E5
    · exact E6
  have OO : ∀ n, n < 7 → Fld s s.heap (a n) "java/lang/Enum" "ordinal" "I" (.int (Int32.ofNat n)) := fun n hn => by
    rcases own_lt7 hn with rfl | rfl | rfl | rfl | rfl | rfl | rfl
    · exact F_ordinal0
    · exact F_ordinal1
    · exact F_ordinal2
    · exact F_ordinal3
    · exact F_ordinal4
    · exact F_ordinal5
    · exact F_ordinal6
  have DD : ∀ n m, n < 7 → m < 7 → a n = a m → n = m := fun n m hn hm e => own_inj (by omega) (by omega) (OO n hn) (e ▸ OO m hm)
  obtain ⟨n, o, h1, h2, h3, _, L, rfl, ⟨rfl, N⟩, hq⟩ := rm0 l s _ hw tables_1 i0 a s.heap s.heap.size S0 S1 S2 S3 S4 S5 S6 EE DD p e ha hc hk s m _ below hf ((Spec.applies_iff_loose hf).mp happ).1 ⟨rfl, State.Warmed39.refl s, rfl⟩ trivial
  refine ⟨n, _, h1, h2, h3, hpost _ _ _ _ _ _ ⟨Cond.after_iff.mpr rfl, Cond.after_iff.mpr (eq_i res_at (Term.int_eval (1)) rfl), trivial⟩ ⟨hq.1, hq.2.1, (hq.2.2.sift fun y hy => Or.inr (N y hy)).mono (by decide) (by decide)⟩⟩
theorem main_1_1 : Claimed_1_1 := comes_1 fun _ _ _ _ _ _ h hF => ⟨h.1, hF⟩
theorem main_1_2 : Claimed_1_2 := comes_1 fun _ _ _ _ _ _ h hF => ⟨h.2.1, hF⟩
end Jvm.Pilot.@@N@@
namespace Jvm.Pilot.@@N@@
open Jvm Jvm.ClassFile Sem Op Lib Jvm.Free Jvm.Stand Jvm.Pilot.@@N@@.Jvm.D
/-! MADE BY PROGRAM (witnessworld.py) out of the Statement's table words and the real class files: 12 classes; the members and pool entries that the words name. The judged class is class 1, her method 1. -/
namespace start1
open Jvm.ClassFile
def u (s : String) : CpInfo := .utf8 (stringToUtf16 s)
/-- a pool by its gaps: so many unusable entries, then the entry; so many at the end -/
def gap : Nat → List CpInfo → List CpInfo
  | 0, r => r
  | n + 1, r => .unusable :: gap n r
def poolList (es : List (Nat × CpInfo)) (last : Nat) : List CpInfo := es.foldr (fun e r => gap e.1 (e.2 :: r)) (gap last [])
def pool (es : List (Nat × CpInfo)) (last : Nat) : Array CpInfo := ⟨poolList es last⟩
def fileOf (pool : Array CpInfo) (this : Nat) (attrs : Array Attribute := #[]) (ms : Array MethodInfo := #[]) (fl : Nat := 33) (sup : Nat := 0) (ifs : Array Nat := #[]) (fds : Array FieldInfo := #[]) : ClassFile where
  minorVersion := 0
  majorVersion := 65
  constantPool := pool
  accessFlags := fl
  thisClass := this
  superClass := sup
  interfaces := ifs
  fields := fds
  methods := ms
  attributes := attrs
def plain (name : String) (sup : Option ClassId) : Class where
  name := name
  kind := .ordinary
  loader := none
  accessFlags := 33
  super := sup
  interfaces := #[]
  cf := none
  fields := #[]
  methods := #[]
  instanceTypes := #[]
  staticTypes := #[]
  resolved := #[]
  callSites := []
  init := .initialized
  statics := none
  mirror := none

def pool0 : Array CpInfo := pool [(5, u "<init>"), (0, u "()V"), (1, .class_ 10), (1, u "java/lang/Object")] 113

def k0m0 : Method := { name := "<init>", desc := "()V", sig := { parameters := [], returnType := none }, accessFlags := 1, code := none }
/-- java/lang/Object -/
def k0 : Class := { plain "java/lang/Object" none with
  accessFlags := 33
  interfaces := #[]
  cf := some (fileOf pool0 8 #[] #[{ accessFlags := 1, nameIndex := 5, descriptorIndex := 6, attributes := #[] }] 33 0 #[] #[])
  fields := #[]
  methods := #[k0m0]
  instanceTypes := #[]
  staticTypes := #[]
  resolved := Array.replicate 124 none
  statics := none }

def pool1 : Array CpInfo := pool [(2, .class_ 4), (1, u "java/lang/Object"), (0, u "<init>"), (0, u "()V"), (0, .integer 2147483647), (0, .fieldref 9 10), (0, .class_ 11), (0, .nameAndType 12 13), (0, u "com/example/oncelog/oncelog/log/TransactionState"), (0, u "EMPTY"), (0, u "Lcom/example/oncelog/oncelog/log/TransactionState;"), (0, .fieldref 9 15), (0, .nameAndType 16 13), (0, u "ONGOING"), (0, .fieldref 9 18), (0, .nameAndType 19 13), (0, u "PREPARE_COMMIT"), (0, .fieldref 9 21), (0, .nameAndType 22 13), (0, u "PREPARE_ABORT"), (0, .fieldref 9 24), (0, .nameAndType 25 13), (0, u "COMPLETE_COMMIT"), (0, .fieldref 9 27), (0, .nameAndType 28 13), (0, u "COMPLETE_ABORT"), (0, .fieldref 9 30), (0, .nameAndType 31 13), (0, u "PREPARE_EPOCH_FENCE"), (0, .methodref 9 33), (0, .nameAndType 34 35), (0, u "settled"), (0, u "()Z"), (0, .class_ 37), (0, u "com/example/oncelog/oncelog/log/TransactionStateSettledPinLaw"), (2, u "law"), (0, u "(I)Z")] 3

def k1m0 : Method := { name := "<init>", desc := "()V", sig := { parameters := [], returnType := none }, accessFlags := 1, code := none }
def k1c1 : Code := { maxStack := 2, maxLocals := 4, code := code, exceptionTable := #[], attributes := #[] }
def k1m1 : Method := { name := "law", desc := "(I)Z", sig := { parameters := [.int], returnType := some .boolean }, accessFlags := 9, code := some k1c1 }
/-- com/example/oncelog/oncelog/log/TransactionStateSettledPinLaw -/
def k1 : Class := { plain "com/example/oncelog/oncelog/log/TransactionStateSettledPinLaw" (some 0) with
  accessFlags := 49
  interfaces := #[]
  cf := some (fileOf pool1 36 #[] #[{ accessFlags := 1, nameIndex := 5, descriptorIndex := 6, attributes := #[] }, { accessFlags := 9, nameIndex := 40, descriptorIndex := 41, attributes := #[] }] 49 2 #[] #[])
  fields := #[]
  methods := #[k1m0, k1m1]
  instanceTypes := #[]
  staticTypes := #[]
  resolved := Array.replicate 45 none
  statics := none }

def pool2 : Array CpInfo := pool [(1, .class_ 2), (0, u "java/lang/constant/Constable"), (0, .class_ 4), (0, u "java/lang/Object")] 6

/-- java/lang/constant/Constable -/
def k2 : Class := { plain "java/lang/constant/Constable" (some 0) with
  accessFlags := 1537
  interfaces := #[]
  cf := some (fileOf pool2 1 #[] #[] 1537 3 #[] #[])
  fields := #[]
  methods := #[]
  instanceTypes := #[]
  staticTypes := #[]
  resolved := Array.replicate 11 none
  statics := none }

def pool3 : Array CpInfo := pool [(1, .class_ 2), (0, u "java/lang/Comparable"), (0, .class_ 4), (0, u "java/lang/Object")] 7

/-- java/lang/Comparable -/
def k3 : Class := { plain "java/lang/Comparable" (some 0) with
  accessFlags := 1537
  interfaces := #[]
  cf := some (fileOf pool3 1 #[] #[] 1537 3 #[] #[])
  fields := #[]
  methods := #[]
  instanceTypes := #[]
  staticTypes := #[]
  resolved := Array.replicate 12 none
  statics := none }

def pool4 : Array CpInfo := pool [(1, .class_ 2), (0, u "java/io/Serializable"), (0, .class_ 4), (0, u "java/lang/Object")] 2

/-- java/io/Serializable -/
def k4 : Class := { plain "java/io/Serializable" (some 0) with
  accessFlags := 1537
  interfaces := #[]
  cf := some (fileOf pool4 1 #[] #[] 1537 3 #[] #[])
  fields := #[]
  methods := #[]
  instanceTypes := #[]
  staticTypes := #[]
  resolved := Array.replicate 7 none
  statics := none }

def pool5 : Array CpInfo := pool [(2, .class_ 4), (1, u "java/lang/Enum"), (0, u "name"), (0, u "Ljava/lang/String;"), (2, u "ordinal"), (0, u "I"), (1, .class_ 14), (1, u "java/lang/Object"), (4, u "hash"), (86, .class_ 108), (1, u "java/lang/Enum$EnumDesc"), (2, .class_ 112), (0, u "java/lang/constant/Constable"), (0, .class_ 114), (0, u "java/lang/Comparable"), (0, .class_ 116), (0, u "java/io/Serializable")] 87

/-- java/lang/Enum -/
def k5 : Class := { plain "java/lang/Enum" (some 0) with
  accessFlags := 1057
  interfaces := #[2, 3, 4]
  cf := some (fileOf pool5 2 #[.nestMembers #[106]] #[] 1057 12 #[111, 113, 115] #[{ accessFlags := 18, nameIndex := 5, descriptorIndex := 6, attributes := #[] }, { accessFlags := 18, nameIndex := 9, descriptorIndex := 10, attributes := #[] }, { accessFlags := 2, nameIndex := 19, descriptorIndex := 10, attributes := #[] }])
  fields := #[{ name := "name", type := (.object "java/lang/String"), accessFlags := 18, slot := 0, constantValue := 0 }, { name := "ordinal", type := .int, accessFlags := 18, slot := 1, constantValue := 0 }, { name := "hash", type := .int, accessFlags := 2, slot := 2, constantValue := 0 }]
  methods := #[]
  instanceTypes := #[(.object "java/lang/String"), .int, .int]
  staticTypes := #[]
  resolved := Array.replicate 204 none
  statics := none }

def pool6 : Array CpInfo := pool [(1, .class_ 2), (0, u "com/example/oncelog/oncelog/log/TransactionState"), (0, .fieldref 1 4), (0, .nameAndType 5 6), (0, u "EMPTY"), (0, u "Lcom/example/oncelog/oncelog/log/TransactionState;"), (2, u "ONGOING"), (2, u "PREPARE_COMMIT"), (2, u "PREPARE_ABORT"), (0, .fieldref 1 17), (0, .nameAndType 18 6), (0, u "COMPLETE_COMMIT"), (0, .fieldref 1 20), (0, .nameAndType 21 6), (0, u "COMPLETE_ABORT"), (2, u "PREPARE_EPOCH_FENCE"), (2, u "$VALUES"), (0, u "[Lcom/example/oncelog/oncelog/log/TransactionState;"), (6, .class_ 37), (1, u "java/lang/Enum"), (8, u "code"), (0, u "B"), (33, u "settled"), (0, u "()Z")] 10

def k6c0 : Code := { maxStack := 2, maxLocals := 1, code := prog_172_method_4_code, exceptionTable := #[], attributes := #[] }
def k6m0 : Method := { name := "settled", desc := "()Z", sig := { parameters := [], returnType := some .boolean }, accessFlags := 1, code := some k6c0 }
/-- com/example/oncelog/oncelog/log/TransactionState -/
def k6 : Class := { plain "com/example/oncelog/oncelog/log/TransactionState" (some 5) with
  accessFlags := 16433
  interfaces := #[]
  cf := some (fileOf pool6 1 #[] #[{ accessFlags := 1, nameIndex := 81, descriptorIndex := 82, attributes := #[] }] 16433 35 #[] #[{ accessFlags := 16409, nameIndex := 5, descriptorIndex := 6, attributes := #[] }, { accessFlags := 16409, nameIndex := 9, descriptorIndex := 6, attributes := #[] }, { accessFlags := 16409, nameIndex := 12, descriptorIndex := 6, attributes := #[] }, { accessFlags := 16409, nameIndex := 15, descriptorIndex := 6, attributes := #[] }, { accessFlags := 16409, nameIndex := 18, descriptorIndex := 6, attributes := #[] }, { accessFlags := 16409, nameIndex := 21, descriptorIndex := 6, attributes := #[] }, { accessFlags := 16409, nameIndex := 24, descriptorIndex := 6, attributes := #[] }, { accessFlags := 18, nameIndex := 46, descriptorIndex := 47, attributes := #[] }, { accessFlags := 4122, nameIndex := 27, descriptorIndex := 28, attributes := #[] }])
  fields := #[{ name := "EMPTY", type := (.object "com/example/oncelog/oncelog/log/TransactionState"), accessFlags := 16409, slot := 0, constantValue := 0 }, { name := "ONGOING", type := (.object "com/example/oncelog/oncelog/log/TransactionState"), accessFlags := 16409, slot := 1, constantValue := 0 }, { name := "PREPARE_COMMIT", type := (.object "com/example/oncelog/oncelog/log/TransactionState"), accessFlags := 16409, slot := 2, constantValue := 0 }, { name := "PREPARE_ABORT", type := (.object "com/example/oncelog/oncelog/log/TransactionState"), accessFlags := 16409, slot := 3, constantValue := 0 }, { name := "COMPLETE_COMMIT", type := (.object "com/example/oncelog/oncelog/log/TransactionState"), accessFlags := 16409, slot := 4, constantValue := 0 }, { name := "COMPLETE_ABORT", type := (.object "com/example/oncelog/oncelog/log/TransactionState"), accessFlags := 16409, slot := 5, constantValue := 0 }, { name := "PREPARE_EPOCH_FENCE", type := (.object "com/example/oncelog/oncelog/log/TransactionState"), accessFlags := 16409, slot := 6, constantValue := 0 }, { name := "code", type := .byte, accessFlags := 18, slot := 3, constantValue := 0 }, { name := "$VALUES", type := (.array (.object "com/example/oncelog/oncelog/log/TransactionState")), accessFlags := 4122, slot := 7, constantValue := 0 }]
  methods := #[k6m0]
  instanceTypes := #[(.object "java/lang/String"), .int, .int, .byte]
  staticTypes := #[(.object "com/example/oncelog/oncelog/log/TransactionState"), (.object "com/example/oncelog/oncelog/log/TransactionState"), (.object "com/example/oncelog/oncelog/log/TransactionState"), (.object "com/example/oncelog/oncelog/log/TransactionState"), (.object "com/example/oncelog/oncelog/log/TransactionState"), (.object "com/example/oncelog/oncelog/log/TransactionState"), (.object "com/example/oncelog/oncelog/log/TransactionState"), (.array (.object "com/example/oncelog/oncelog/log/TransactionState"))]
  resolved := Array.replicate 93 none
  statics := some 0 }

def pool7 : Array CpInfo := pool [(1, u "java/lang/Cloneable"), (0, .class_ 1), (0, u "java/lang/Object"), (0, .class_ 3)] 3

/-- java/lang/Cloneable -/
def k7 : Class := { plain "java/lang/Cloneable" (some 0) with
  accessFlags := 1537
  interfaces := #[]
  cf := some (fileOf pool7 2 #[] #[] 1537 4 #[] #[])
  fields := #[]
  methods := #[]
  instanceTypes := #[]
  staticTypes := #[]
  resolved := Array.replicate 8 none
  statics := none }

/-- the primitive byte -/
def k8 : Class := { plain "byte" none with kind := .primitive 'B', accessFlags := 0x411 }
/-- [B -/
def k9 : Class := { plain "[B" (some 0) with kind := .array 8 .byte, interfaces := #[7, 4], accessFlags := 1041 }

/-- the primitive int -/
def k10 : Class := { plain "int" none with kind := .primitive 'I', accessFlags := 0x411 }
/-- [I -/
def k11 : Class := { plain "[I" (some 0) with kind := .array 10 .int, interfaces := #[7, 4], accessFlags := 1041 }

def heap : Heap := #[{ cls := 6, slots := #[.ref 1, .ref 7, .ref 6, .ref 2, .ref 3, .ref 4, .ref 5, .null], vm := .statics 6 },
  { cls := 6, slots := #[.null, .int 0, .int 0, .int 0], vm := .none },
  { cls := 6, slots := #[.null, .int 3, .int 0, .int 0], vm := .none },
  { cls := 6, slots := #[.null, .int 4, .int 0, .int 0], vm := .none },
  { cls := 6, slots := #[.null, .int 5, .int 0, .int 0], vm := .none },
  { cls := 6, slots := #[.null, .int 6, .int 0, .int 0], vm := .none },
  { cls := 6, slots := #[.null, .int 2, .int 0, .int 0], vm := .none },
  { cls := 6, slots := #[.null, .int 1, .int 0, .int 0], vm := .none }]
def classes : Array Class := #[k0, k1, k2, k3, k4, k5, k6, k7, k8, k9, k10, k11]
def interned : List (Array UInt16 × Addr) := []
def slotsUsed : Nat := 36
def theMethod : MethodId := ⟨1, 1⟩
def args0 : Array Value := #[.int 5]
def aboutOver (below : List Frame) : State where
  vm := { classes := classes, interned := interned.toArray }
  heap := heap
  slotsUsed := slotsUsed
  threads := #[{ frames := .invoking theMethod args0 :: below }]
def below0 : List Frame := [.native { method := ⟨0, 0⟩, args := #[] }]
def about1 : State := aboutOver below0
def p0 : Program := .bare "" "" ""
def e0 : Env := launch0.env 0 0 0
theorem w_frames : about1.frames = Frame.invoking theMethod args0 :: below0 := rfl
set_option maxRecDepth 65536 in
theorem w_args : argsFit about1.vm theMethod args0 = true := by decide +kernel
set_option maxRecDepth 65536 in
theorem w_heap : heapFits about1 = true := by decide +kernel
set_option maxRecDepth 65536 in
theorem w_runnable : about1.curStatus? = some .runnable := by decide +kernel
set_option maxRecDepth 65536 in
theorem w_alone : about1.alone = true := by decide +kernel
set_option maxRecDepth 65536 in
theorem w_named : about1.methodNamed? x = some theMethod := by decide +kernel
set_option maxRecDepth 65536 in
theorem w_hears : about1.hears theMethod below0 = true := by decide +kernel
set_option maxRecDepth 65536 in
theorem w_ripe : about1.ripe theMethod args0 below0 = true := by decide +kernel
theorem w_running : about1.status = .running := rfl
set_option maxRecDepth 65536 in
theorem w_room : about1.hasRoom e0.platform room_1 = true :=
  launch0.hasRoom_least _ room_1 (by decide +kernel) (by decide +kernel) (by decide +kernel) (by decide +kernel) (by decide +kernel) (by decide +kernel)
theorem allAtoms_all (ts : List Jvm.Cond) (a : Array Jvm.Value) (st : Jvm.State) : (allAtoms ts).before a st = ts.all (fun c => c.before a st) := by
  induction ts with
  | nil => rfl
  | cons c t ih =>
    show (Jvm.Cond.and c (allAtoms t)).before a st = _
    rw [Jvm.Cond.before_and, ih, List.all_cons]
def words1 : List Jvm.Cond := Jvm.Cond.code x code maxLocals ret :: tables_1
/-- a 'code' word, met by the world's own term for the bytes: nothing is compared byte by byte -/
theorem code_word {y : MethodName} {bytes : ByteArray} {mx : Nat} {rt : Option FieldType} {a : Array Value} {s : State} {m : MethodId} {meth : Method} {c : Code} (h1 : s.methodNamed? y = some m) (h2 : s.vm.method? m = some meth) (h3 : meth.code = some c) (h4 : c.code = bytes)
    (h5 : (c.maxLocals == mx && c.exceptionTable.isEmpty && decide (c.maxStack ≤ mostOperands) && decide (meth.sig.returnType = rt) && !meth.locks && decide (parseMethodDescriptor y.desc = some meth.sig)) = true) : (Jvm.Cond.code y bytes mx rt).before a s = true := by
  simp only [Bool.and_eq_true, beq_iff_eq, Bool.not_eq_true', decide_eq_true_eq] at h5
  obtain ⟨⟨⟨⟨⟨g1, g2⟩, g3⟩, g4⟩, g5⟩, g6⟩ := h5
  simp [Cond.before, Cond.holds, Cond.value, h1, h2, h3, h4, g1, g2, g3, g4, g5, g6]
def isCode : Jvm.Cond → Bool
  | .code _ _ _ _ => true
  | _ => false
theorem all_split {L : List Jvm.Cond} {P : Jvm.Cond → Bool} (h1 : L.all (fun c => isCode c || P c) = true) (h2 : ∀ c ∈ L.filter isCode, P c = true) : L.all P = true := by
  refine List.all_eq_true.mpr fun c hc => ?_
  have h := List.all_eq_true.mp h1 c hc
  rcases Bool.eq_false_or_eq_true (isCode c) with hi | hi
  · exact h2 c (List.mem_filter.mpr ⟨hc, hi⟩)
  · simpa [hi] using h
set_option maxRecDepth 65536 in
theorem w_c0 : (Jvm.Cond.code x code maxLocals ret).before args0 about1 = true := code_word (m := ⟨1, 1⟩) (meth := k1m1) (c := k1c1) (by decide +kernel) rfl rfl rfl (by decide +kernel)
set_option maxRecDepth 65536 in
theorem w_c1 : (Jvm.Cond.code ({ cls := "com/example/oncelog/oncelog/log/TransactionState", name := "settled", desc := "()Z" } : Jvm.MethodName) prog_172_method_4_code (1 : Nat) (Option.some Jvm.ClassFile.FieldType.boolean)).before args0 about1 = true := code_word (m := ⟨6, 0⟩) (meth := k6m0) (c := k6c0) (by decide +kernel) rfl rfl rfl (by decide +kernel)
def codes1 : List Jvm.Cond := [Jvm.Cond.code x code maxLocals ret, Jvm.Cond.code ({ cls := "com/example/oncelog/oncelog/log/TransactionState", name := "settled", desc := "()Z" } : Jvm.MethodName) prog_172_method_4_code (1 : Nat) (Option.some Jvm.ClassFile.FieldType.boolean)]
set_option maxRecDepth 65536 in
theorem codes_eq : words1.filter isCode = codes1 := rfl
theorem w_codes : ∀ c ∈ words1.filter isCode, c.before args0 about1 = true := by
  rw [codes_eq]
  intro c hc
  simp only [codes1, List.mem_cons, List.not_mem_nil, or_false] at hc
  rcases hc with rfl | rfl
  · exact w_c0
  · exact w_c1
set_option maxRecDepth 65536 in
theorem w_t1 : (words1.take 24).all (fun c => isCode c || c.before args0 about1) = true := by decide +kernel
set_option maxRecDepth 65536 in
theorem w_t2 : (words1.drop 24).all (fun c => isCode c || c.before args0 about1) = true := by decide +kernel
theorem w_tables : (allAtoms (Jvm.Cond.code x code maxLocals ret :: tables_1)).before args0 about1 = true := by
  rw [allAtoms_all]
  show words1.all (fun c => c.before args0 about1) = true
  refine all_split ?_ w_codes
  rw [← List.take_append_drop 24 words1, List.all_append, w_t1, w_t2]
  rfl
set_option maxRecDepth 65536 in
theorem w_case : (Jvm.Cond.and given_1 narrow_1).before args0 about1 = true := by decide +kernel
theorem w_applies : (headSpec (Jvm.Cond.code x code maxLocals ret :: tables_1) room_1).applies x e0.platform about1 = true :=
  (Spec.applies_iff w_frames).mpr ⟨w_running, w_runnable, w_alone, w_named, w_hears, w_ripe, w_room, w_tables⟩
theorem atStart : AtStart classFile x code maxLocals ret World_1 tables_1 room_1 Calls_1 rest_1 Pre_1 launch0 p0 e0 about1 theMethod args0 below0 :=
  ⟨lists_1, trivial, launch0.admits_env _ _ _, launch0.least_env, fairChoices_fair.cas, fairChoices_fair.clock, w_frames, w_args, w_heap, w_applies, trivial, trivial, w_case⟩
end start1
theorem witness_1 : WitnessClaimed_1 := ⟨start1.p0, start1.e0, start1.about1, start1.theMethod, start1.args0, start1.below0, start1.atStart⟩
end Jvm.Pilot.@@N@@
