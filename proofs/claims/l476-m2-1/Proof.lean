import JvmDerived
import JvmDerived.Pilot.@@N@@Statement
import JvmDerived.Pilot.@@N@@Code
set_option linter.unusedVariables false
set_option linter.unusedSimpArgs false
namespace Jvm.Pilot.@@N@@
open Jvm Jvm.ClassFile Sem Op Lib Jvm.Free Jvm.Stand Jvm.LawKit Jvm.RoadKit Bundle Jvm.Pilot.@@N@@.Jvm.D
/-- what is reached from S1 is reached from S0 -/
abbrev own_K (tb : Tables) (e : Env) (below : List Frame) (S0 S1 : State) : Prop := ∀ t, Steps tb e below S1 t → Steps tb e below S0 t
section Own
variable {p : Program} {l : Launch} {e : Env} {R : Room} {s : State} {m : MethodId} {args : Array Value} {below : List Frame} {meth : Method} {c : Code} {T : State} {locs : List Loc} {cells slots : Nat} {Z : State} {h h' : Heap}
theorem own_lremM {g : JFrame} {target : State} (X : Stand p l e R s m args below meth c T locs cells slots) (hx : p.tables.exec = Jvm.exec) (hg : g.method = m) {x y : Int64} {rest : List Value} (hd : decode c.code g.pc = .ok (.lrem, 1)) (hs : g.stack = .long y :: .long x :: rest) (hy : y ≠ 0)
    (hr : Steps p.tables e below (T.setTop { g with pc := g.pc + 1, stack := .long (x % y) :: rest }) target) : Steps p.tables e below (T.setTop g) target := by
  have q : x - x / y * y = x % y := lrem_mod x y
  exact XS.lrem X.here hx hg hd hs hy (by rw [q]; exact hr)
/-- a static field rides over a write to cells that hold no statics -/
theorem own_staKeep {C n d : String} {w : Value} {ws : List Addr} (F : Sta Z h C n d w) (K : Keep h h' ws) (q : ∀ x ∈ ws, ∀ cell : Cell, h[x]? = some cell → cell.vm.isStatics = false) : Sta Z h' C n d w := by
  obtain ⟨cf, i, k, f, st, cell, h1, h2, h3, h4, h5, h6, h7⟩ := F
  refine ⟨cf, i, k, f, st, cell, h1, h2, h3, h4, K.2.1 st cell h5 (fun hm => ?_), h6, h7⟩
  rw [q st hm cell h5] at h6; cases h6
theorem own_exaNo {a : Addr} {C : String} (E : Exa Z h a C) : ∀ cell : Cell, h[a]? = some cell → cell.vm.isStatics = false := fun cell q => by
  obtain ⟨c1, _, h1, -, -, h4, -⟩ := E
  cases h1.symm.trans q; exact h4
theorem own_selPriv {y : MethodName} {n : Nat} (wi : (Jvm.Cond.instantiable y.cls n).before args s = true) (wp : s.PrivateAt y) (hinst : (Jvm.Cond.instanceMethod y).before args s = true) (hy : y.cls ≠ "java/lang/invoke/MethodHandle" ∧ y.cls ≠ "java/lang/invoke/VarHandle") : (Jvm.Cond.selects y.cls y y).before args s = true := by
  obtain ⟨c, k, h1, h2, -, h4, -⟩ := Cond.instantiable_spec wi
  exact selects_self_of_private h1 h2 (Bool.or_eq_false_iff.mp h4).1 wp hinst hy
/-- a static that holds an object exactly of a class, out of the case's words -/
theorem own_stat {C n d D : String} (hx : (Jvm.Cond.exactly (.static C n d) D).value args Z none Z [] = some true) (w1 : (Jvm.Cond.initialized C).before args Z = true) (w2 : (Jvm.Cond.laysStatic C n d).before args Z = true) :
    ∃ a, Sta Z Z.heap C n d (.ref a) ∧ Exa Z Z.heap a D ∧ (Term.static C n d).eval args Z none [] Z = some (.ref a) := by
  obtain ⟨a, ev⟩ := exa_v hx
  exact ⟨a, Sta.start ev (Or.inr ⟨w1, w2⟩), Exa.start ev hx, ev⟩
theorem own_fldI {t : Term} {a : Addr} {O n d : String} {k : Int32} (ev : t.eval args Z none [] Z = some (.ref a)) (hq : (Jvm.Cond.eq (.field t O n d) (.int k)).value args Z none Z [] = some true) : Fld Z Z.heap a O n d (.int k) := by
  have q := Cond.eq_int (Cond.before_iff.mpr hq) rfl
  rw [fld_at ev] at q
  exact Fld.start q
theorem own_fldJ {t : Term} {a : Addr} {O n d : String} {k : Int64} (ev : t.eval args Z none [] Z = some (.ref a)) (hq : (Jvm.Cond.eq (.field t O n d) (.long k)).value args Z none Z [] = some true) : Fld Z Z.heap a O n d (.long k) := by
  have q := Cond.eq_long (Cond.before_iff.mpr hq) rfl
  rw [fld_at ev] at q
  exact Fld.start q
end Own
theorem own_lt23 {n : Nat} (h : n < 23) : n = 0 ∨ n = 1 ∨ n = 2 ∨ n = 3 ∨ n = 4 ∨ n = 5 ∨ n = 6 ∨ n = 7 ∨ n = 8 ∨ n = 9 ∨ n = 10 ∨ n = 11 ∨ n = 12 ∨ n = 13 ∨ n = 14 ∨ n = 15 ∨ n = 16 ∨ n = 17 ∨ n = 18 ∨ n = 19 ∨ n = 20 ∨ n = 21 ∨ n = 22 := by omega
theorem own_inj {Z : State} {h : Heap} {x : Addr} {n m : Nat} (hn : n < 1000) (hm : m < 1000) (F : Fld Z h x "java/lang/Enum" "ordinal" "I" (.int (Int32.ofNat n))) (G : Fld Z h x "java/lang/Enum" "ordinal" "I" (.int (Int32.ofNat m))) : n = m := by
  refine Decidable.byContradiction fun q => Fld.ne F G (fun e => q ?_) rfl
  have e1 : Int32.ofNat n = Int32.ofNat m := Value.int.inj e
  have e2 := congrArg Int32.toInt e1
  rw [Int32.toInt_ofNat_small (by omega), Int32.toInt_ofNat_small (by omega)] at e2
  omega
theorem own_get (a : Nat → Addr) {n : Nat} (h : n < 23) : ([.ref (a 0), .ref (a 1), .ref (a 2), .ref (a 3), .ref (a 4), .ref (a 5), .ref (a 6), .ref (a 7), .ref (a 8), .ref (a 9), .ref (a 10), .ref (a 11), .ref (a 12), .ref (a 13), .ref (a 14), .ref (a 15), .ref (a 16), .ref (a 17), .ref (a 18), .ref (a 19), .ref (a 20), .ref (a 21), .ref (a 22)] : List Value).getD n .null = .ref (a n) := by
  rcases own_lt23 h with rfl | rfl | rfl | rfl | rfl | rfl | rfl | rfl | rfl | rfl | rfl | rfl | rfl | rfl | rfl | rfl | rfl | rfl | rfl | rfl | rfl | rfl | rfl <;> rfl
theorem own_rng (q : Int32) : ¬ ((q &&& (2147483647 : Int32)) % (23 : Int32)) < (0 : Int32) ∧ ((q &&& (2147483647 : Int32)) % (23 : Int32)) < (23 : Int32) := by
  have h1 := c_mask q 2147483647 31 (by decide) (by decide)
  have h2 := c_irem (q &&& 2147483647) 23 23 (by decide)
  have t0 : (0 : Int32).toInt = 0 := by decide
  have t1 : (23 : Int32).toInt = 23 := by decide
  rw [Int32.lt_iff_toInt_lt, Int32.lt_iff_toInt_lt]
  omega
def own_f (r : Addr) (a : Nat → Addr) : Int32 := if r = a 6 ∨ r = a 7 then 1 else 0
theorem own_f1 {a : Nat → Addr} {n : Nat} (h : n = 6 ∨ n = 7) : own_f (a n) a = 1 := by
  unfold own_f
  rw [if_pos]
  rcases h with rfl | rfl <;> simp
theorem own_f0 {a : Nat → Addr} (DD : ∀ n m, n < 23 → m < 23 → a n = a m → n = m) {n : Nat} (hn : n < 23) (h : ¬ (n = 6 ∨ n = 7)) : own_f (a n) a = 0 := by
  unfold own_f
  rw [if_neg]
  rintro (q | q)
  · have := DD _ _ hn (by omega) q
    omega
  · have := DD _ _ hn (by omega) q
    omega
theorem own_pn0 : plainName "com/example/vizsla/vizsla/core/DerivedQuery$Operator" = true := by first | (simp [plainName, overriddenIn]; done) | decide +kernel
theorem own_d1_0 : decode prog_32_method_5_code 0 = .ok (.aload_n 0, 1) := by decide +kernel
theorem own_d1_1 : decode prog_32_method_5_code 1 = .ok (.getstatic 22, 3) := by decide +kernel
theorem own_d1_4 : decode prog_32_method_5_code 4 = .ok (.if_acmp .eq 10, 3) := by decide +kernel
theorem own_d1_7 : decode prog_32_method_5_code 7 = .ok (.aload_n 0, 1) := by decide +kernel
theorem own_d1_8 : decode prog_32_method_5_code 8 = .ok (.getstatic 25, 3) := by decide +kernel
theorem own_d1_11 : decode prog_32_method_5_code 11 = .ok (.if_acmp .ne 7, 3) := by decide +kernel
theorem own_d1_14 : decode prog_32_method_5_code 14 = .ok (.iconst 1, 1) := by decide +kernel
theorem own_d1_15 : decode prog_32_method_5_code 15 = .ok (.goto 4, 3) := by decide +kernel
theorem own_d1_18 : decode prog_32_method_5_code 18 = .ok (.iconst 0, 1) := by decide +kernel
theorem own_d1_19 : decode prog_32_method_5_code 19 = .ok (.ireturn, 1) := by decide +kernel
theorem own_ef1 (m : MethodId) (y0 : Addr) : entryFrame m #[(.ref y0)] 1 = mkF m 0 #[.val (.ref y0)] [] := by first | (simp [entryFrame, mkF, argsToLocals, Value.category]; done) | rfl
def Q1 (Z : State) (r : Addr) (a : Nat → Addr) (h0 : Heap) (n0 : Nat) (v : Option Value) (h : Heap) (L : List Loc) : Prop := v = some (.int (own_f r a)) ∧ Fr n0 L ∧ h = h0
set_option maxRecDepth 65536 in
set_option maxHeartbeats 40000000 in
theorem rm1 (l : Launch) (Z : State) (a0 : Array Value) (hw : ∀ d ∈ tables_1, d.before a0 Z = true) (ws : List Jvm.Cond) (r : Addr) (a : Nat → Addr) (h0 : Heap) (n0 : Nat) (S6 : Sta Z h0 "com/example/vizsla/vizsla/core/DerivedQuery$Operator" "IN" "Lcom/example/vizsla/vizsla/core/DerivedQuery$Operator;" (.ref (a 6))) (S7 : Sta Z h0 "com/example/vizsla/vizsla/core/DerivedQuery$Operator" "NOT_IN" "Lcom/example/vizsla/vizsla/core/DerivedQuery$Operator;" (.ref (a 7))) :
    MetFree l (⟨"com/example/vizsla/vizsla/core/DerivedQuery$Operator", "takesElements", "()Z"⟩ : MethodName) (head1 (Jvm.Cond.code (⟨"com/example/vizsla/vizsla/core/DerivedQuery$Operator", "takesElements", "()Z"⟩ : MethodName) prog_32_method_5_code 1 (some .boolean) :: ws) ({ frames := 0, cells := 0, slots := 0, locals := 0 } : Room)) (fun aaz U => aaz = #[(.ref r)] ∧ Z.Warmed39 U.vm ∧ U.heap = h0) (fun _ _ _ _ _ => True) (fun _ U o U' => ∃ v L, o = .returned v ∧ Q1 Z r a h0 n0 v U'.heap L ∧ FrameEnd U o U' L ({ frames := 0, cells := 0, slots := 0, locals := 0 } : Room).cells ({ frames := 0, cells := 0, slots := 0, locals := 0 } : Room).slots) := by
  refine MetFree.of_bodySF (plainFor_of_name own_pn0) hisR ?_
  intro p e s m args below meth cde s₁ Bd hml0 hP hK
  obtain ⟨rfl, hZ, hh⟩ := hP
  have hx := Bd.exec
  have hby := Bd.bytes
  have hml : cde.maxLocals = 1 := hml0
  have hown : s.vm.findClass "com/example/vizsla/vizsla/core/DerivedQuery$Operator" = some m.cls := findClass_of_methodNamed Bd.named
  have hnm := (name_of_methodNamed Bd.named Bd.method).1
  have X0 : Stand p l e ({ frames := 0, cells := 0, slots := 0, locals := 0 } : Room) s m #[(.ref r)] below meth cde s₁ [] 0 0 := Stand.of_body Bd
  have e0 : s₁.heap = h0 := by rw [← hh, Bd.state]; rfl
  have N0 := Fr.nil n0
  have k : own_K p.tables e below (s₁.setTop (entryFrame m #[(.ref r)] 1)) (s₁.setTop (mkF m 0 #[.val (.ref r)] [])) := fun t h => castTop (own_ef1 m r) h
  replace k : own_K p.tables e below (s₁.setTop (entryFrame m #[(.ref r)] 1)) (s₁.setTop (mkF m 1 #[.val (.ref r)] [(.ref r)])) := fun t h => k t (XS.aloadN X0.here hx rfl (hb hby own_d1_0) rfl rfl h)
  obtain ⟨T1, X1, e1, st1⟩ := getS2 X0 hx hZ hown (host := "") (Or.inl (hw _ (List.mem_of_getElem? (i := 56) rfl))) Via.refl e0 S6 (g := (mkF m 1 #[.val (.ref r)] [(.ref r)])) rfl (hb hby own_d1_1)
  replace k : own_K p.tables e below (s₁.setTop (entryFrame m #[(.ref r)] 1)) (T1.setTop (mkF m 4 #[.val (.ref r)] [(.ref (a 6)), (.ref r)])) := fun t h => k t (st1 _ h)
  by_cases cc2 : r = (a 6)
  · replace k : own_K p.tables e below (s₁.setTop (entryFrame m #[(.ref r)] 1)) (T1.setTop (mkF m 14 #[.val (.ref r)] [])) := fun t h => k t (Jvm.RoadKit.acmp (g := (mkF m 4 #[.val (.ref r)] [(.ref (a 6)), (.ref r)])) X1 hx rfl rfl rfl (pc0 := 4) (pc' := 14) (same := true) rfl (hb hby own_d1_4) rfl (decide_eq_true (congrArg Value.ref cc2)) (by decide) (by decide) h)
    replace k : own_K p.tables e below (s₁.setTop (entryFrame m #[(.ref r)] 1)) (T1.setTop (mkF m 15 #[.val (.ref r)] [(.int (1 : Int32))])) := fun t h => k t (XS.iconst X1.here hx rfl (hb hby own_d1_14) h)
    replace k : own_K p.tables e below (s₁.setTop (entryFrame m #[(.ref r)] 1)) (T1.setTop (mkF m 19 #[.val (.ref r)] [(.int (1 : Int32))])) := fun t h => k t (XS.goto X1.here hx rfl (pc0 := 15) (pc' := 19) rfl (hb hby own_d1_15) (by decide) (by decide) h)
    obtain ⟨fs, hr, hrun, hended, hW, hsame⟩ := X1.leave (v := some (.int (1 : Int32))) (fun h => by rw [Bd.returns] at h; cases h) Bd.notSynchronized
    refine ⟨_, _, k _ (retOut X1 hx Bd.returns rfl (Or.inl ⟨rfl, by simp, _, rfl⟩) (hb hby own_d1_19) hr), hrun, hended, _, _, rfl, ?_, ⟨_, rfl⟩, hW, hsame.mono (by decide) (by decide)⟩
    show Q1 Z r a h0 n0 _ T1.heap _
    rw [e1]
    exact ⟨(by simp [own_f, cc2]), N0, rfl⟩
  · replace k : own_K p.tables e below (s₁.setTop (entryFrame m #[(.ref r)] 1)) (T1.setTop (mkF m 7 #[.val (.ref r)] [])) := fun t h => k t (Jvm.RoadKit.acmp (g := (mkF m 4 #[.val (.ref r)] [(.ref (a 6)), (.ref r)])) X1 hx rfl rfl rfl (pc0 := 4) (pc' := 7) (same := false) rfl (hb hby own_d1_4) rfl (decide_eq_false fun q => cc2 (Value.ref.inj q)) (by decide) (by decide) h)
    replace k : own_K p.tables e below (s₁.setTop (entryFrame m #[(.ref r)] 1)) (T1.setTop (mkF m 8 #[.val (.ref r)] [(.ref r)])) := fun t h => k t (XS.aloadN X1.here hx rfl (hb hby own_d1_7) rfl rfl h)
    obtain ⟨T3, X3, e3, st3⟩ := getS2 X1 hx hZ hown (host := "") (Or.inl (hw _ (List.mem_of_getElem? (i := 57) rfl))) Via.refl e1 S7 (g := (mkF m 8 #[.val (.ref r)] [(.ref r)])) rfl (hb hby own_d1_8)
    replace k : own_K p.tables e below (s₁.setTop (entryFrame m #[(.ref r)] 1)) (T3.setTop (mkF m 11 #[.val (.ref r)] [(.ref (a 7)), (.ref r)])) := fun t h => k t (st3 _ h)
    by_cases cc4 : r = (a 7)
    · replace k : own_K p.tables e below (s₁.setTop (entryFrame m #[(.ref r)] 1)) (T3.setTop (mkF m 14 #[.val (.ref r)] [])) := fun t h => k t (Jvm.RoadKit.acmp (g := (mkF m 11 #[.val (.ref r)] [(.ref (a 7)), (.ref r)])) X3 hx rfl rfl rfl (pc0 := 11) (pc' := 14) (same := true) rfl (hb hby own_d1_11) rfl (decide_eq_true (congrArg Value.ref cc4)) (by decide) (by decide) h)
      replace k : own_K p.tables e below (s₁.setTop (entryFrame m #[(.ref r)] 1)) (T3.setTop (mkF m 15 #[.val (.ref r)] [(.int (1 : Int32))])) := fun t h => k t (XS.iconst X3.here hx rfl (hb hby own_d1_14) h)
      replace k : own_K p.tables e below (s₁.setTop (entryFrame m #[(.ref r)] 1)) (T3.setTop (mkF m 19 #[.val (.ref r)] [(.int (1 : Int32))])) := fun t h => k t (XS.goto X3.here hx rfl (pc0 := 15) (pc' := 19) rfl (hb hby own_d1_15) (by decide) (by decide) h)
      obtain ⟨fs, hr, hrun, hended, hW, hsame⟩ := X3.leave (v := some (.int (1 : Int32))) (fun h => by rw [Bd.returns] at h; cases h) Bd.notSynchronized
      refine ⟨_, _, k _ (retOut X3 hx Bd.returns rfl (Or.inl ⟨rfl, by simp, _, rfl⟩) (hb hby own_d1_19) hr), hrun, hended, _, _, rfl, ?_, ⟨_, rfl⟩, hW, hsame.mono (by decide) (by decide)⟩
      show Q1 Z r a h0 n0 _ T3.heap _
      rw [e3]
      exact ⟨(by simp [own_f, cc2, cc4]), N0, rfl⟩
    · replace k : own_K p.tables e below (s₁.setTop (entryFrame m #[(.ref r)] 1)) (T3.setTop (mkF m 18 #[.val (.ref r)] [])) := fun t h => k t (Jvm.RoadKit.acmp (g := (mkF m 11 #[.val (.ref r)] [(.ref (a 7)), (.ref r)])) X3 hx rfl rfl rfl (pc0 := 11) (pc' := 18) (same := false) rfl (hb hby own_d1_11) rfl (decide_eq_false fun q => cc4 (Value.ref.inj q)) (by decide) (by decide) h)
      replace k : own_K p.tables e below (s₁.setTop (entryFrame m #[(.ref r)] 1)) (T3.setTop (mkF m 19 #[.val (.ref r)] [(.int (0 : Int32))])) := fun t h => k t (XS.iconst X3.here hx rfl (hb hby own_d1_18) h)
      obtain ⟨fs, hr, hrun, hended, hW, hsame⟩ := X3.leave (v := some (.int (0 : Int32))) (fun h => by rw [Bd.returns] at h; cases h) Bd.notSynchronized
      refine ⟨_, _, k _ (retOut X3 hx Bd.returns rfl (Or.inl ⟨rfl, by simp, _, rfl⟩) (hb hby own_d1_19) hr), hrun, hended, _, _, rfl, ?_, ⟨_, rfl⟩, hW, hsame.mono (by decide) (by decide)⟩
      show Q1 Z r a h0 n0 _ T3.heap _
      rw [e3]
      exact ⟨(by simp [own_f, cc2, cc4]), N0, rfl⟩
theorem own_d2_0 : decode prog_32_method_4_code 0 = .ok (.aload_n 0, 1) := by decide +kernel
theorem own_d2_1 : decode prog_32_method_4_code 1 = .ok (.getfield 92, 3) := by decide +kernel
theorem own_d2_4 : decode prog_32_method_4_code 4 = .ok (.ireturn, 1) := by decide +kernel
theorem own_ef2 (m : MethodId) (y0 : Addr) : entryFrame m #[(.ref y0)] 1 = mkF m 0 #[.val (.ref y0)] [] := by first | (simp [entryFrame, mkF, argsToLocals, Value.category]; done) | rfl
def Q2 (Z : State) (r : Addr) (z : Int32) (h0 : Heap) (n0 : Nat) (v : Option Value) (h : Heap) (L : List Loc) : Prop := v = some (.int z) ∧ Fr n0 L ∧ h = h0
set_option maxRecDepth 65536 in
set_option maxHeartbeats 40000000 in
theorem rm2 (l : Launch) (Z : State) (a0 : Array Value) (hw : ∀ d ∈ tables_1, d.before a0 Z = true) (ws : List Jvm.Cond) (r : Addr) (z : Int32) (h0 : Heap) (n0 : Nat) (F1 : Fld Z h0 r "com/example/vizsla/vizsla/core/DerivedQuery$Operator" "arity" "I" (.int z)) :
    MetFree l (⟨"com/example/vizsla/vizsla/core/DerivedQuery$Operator", "getArity", "()I"⟩ : MethodName) (head1 (Jvm.Cond.code (⟨"com/example/vizsla/vizsla/core/DerivedQuery$Operator", "getArity", "()I"⟩ : MethodName) prog_32_method_4_code 1 (some .int) :: ws) ({ frames := 0, cells := 0, slots := 0, locals := 0 } : Room)) (fun aaz U => aaz = #[(.ref r)] ∧ Z.Warmed39 U.vm ∧ U.heap = h0) (fun _ _ _ _ _ => True) (fun _ U o U' => ∃ v L, o = .returned v ∧ Q2 Z r z h0 n0 v U'.heap L ∧ FrameEnd U o U' L ({ frames := 0, cells := 0, slots := 0, locals := 0 } : Room).cells ({ frames := 0, cells := 0, slots := 0, locals := 0 } : Room).slots) := by
  refine MetFree.of_bodySF (plainFor_of_name own_pn0) hisR ?_
  intro p e s m args below meth cde s₁ Bd hml0 hP hK
  obtain ⟨rfl, hZ, hh⟩ := hP
  have hx := Bd.exec
  have hby := Bd.bytes
  have hml : cde.maxLocals = 1 := hml0
  have hown : s.vm.findClass "com/example/vizsla/vizsla/core/DerivedQuery$Operator" = some m.cls := findClass_of_methodNamed Bd.named
  have hnm := (name_of_methodNamed Bd.named Bd.method).1
  have X0 : Stand p l e ({ frames := 0, cells := 0, slots := 0, locals := 0 } : Room) s m #[(.ref r)] below meth cde s₁ [] 0 0 := Stand.of_body Bd
  have e0 : s₁.heap = h0 := by rw [← hh, Bd.state]; rfl
  have N0 := Fr.nil n0
  have k : own_K p.tables e below (s₁.setTop (entryFrame m #[(.ref r)] 1)) (s₁.setTop (mkF m 0 #[.val (.ref r)] [])) := fun t h => castTop (own_ef2 m r) h
  replace k : own_K p.tables e below (s₁.setTop (entryFrame m #[(.ref r)] 1)) (s₁.setTop (mkF m 1 #[.val (.ref r)] [(.ref r)])) := fun t h => k t (XS.aloadN X0.here hx rfl (hb hby own_d2_0) rfl rfl h)
  obtain ⟨T1, X1, e1, st1⟩ := getF X0 hx hZ hown (host := "") (Or.inl (hw _ (List.mem_of_getElem? (i := 63) rfl))) Via.refl e0 F1 (g := (mkF m 1 #[.val (.ref r)] [(.ref r)])) rfl rfl (hb hby own_d2_1)
  replace k : own_K p.tables e below (s₁.setTop (entryFrame m #[(.ref r)] 1)) (T1.setTop (mkF m 4 #[.val (.ref r)] [(.int z)])) := fun t h => k t (st1 _ h)
  obtain ⟨fs, hr, hrun, hended, hW, hsame⟩ := X1.leave (v := some (.int z)) (fun h => by rw [Bd.returns] at h; cases h) Bd.notSynchronized
  refine ⟨_, _, k _ (retOut X1 hx Bd.returns rfl (Or.inl ⟨rfl, by simp, _, rfl⟩) (hb hby own_d2_4) hr), hrun, hended, _, _, rfl, ?_, ⟨_, rfl⟩, hW, hsame.mono (by decide) (by decide)⟩
  show Q2 Z r z h0 n0 _ T1.heap _
  rw [e1]
  exact ⟨rfl, N0, rfl⟩
theorem own_pn1 : plainName "com/example/vizsla/vizsla/core/OperatorTakesElementsPinLaw" = true := by first | (simp [plainName, overriddenIn]; done) | decide +kernel
theorem own_pd0 : parseMethodDescriptor "()Z" = some ⟨[], some .boolean⟩ := by decide +kernel
theorem own_pd1 : parseMethodDescriptor "()I" = some ⟨[], some .int⟩ := by decide +kernel
theorem own_ef0 (m : MethodId) (y0 : Int32) : entryFrame m #[(.int y0)] maxLocals = mkF m 0 #[.val (.int y0), .unset, .unset, .unset, .unset, .unset] [] := by first | (simp [entryFrame, mkF, argsToLocals, Value.category, maxLocals]; done) | rfl
def Q0 (Z : State) (q : Int32) (a : Nat → Addr) (h0 : Heap) (n0 : Nat) (v : Option Value) (h : Heap) (L : List Loc) : Prop := v = some (.int 1) ∧ Fr n0 L
set_option maxRecDepth 65536 in
set_option maxHeartbeats 40000000 in
theorem rm0 (l : Launch) (Z : State) (a0 : Array Value) (hw : ∀ d ∈ tables_1, d.before a0 Z = true) (ws : List Jvm.Cond) (q : Int32) (a : Nat → Addr) (h0 : Heap) (n0 : Nat) (Z0 : n0 ≤ h0.size) (S0 : Sta Z h0 "com/example/vizsla/vizsla/core/DerivedQuery$Operator" "EQUALS" "Lcom/example/vizsla/vizsla/core/DerivedQuery$Operator;" (.ref (a 0))) (S1 : Sta Z h0 "com/example/vizsla/vizsla/core/DerivedQuery$Operator" "NOT" "Lcom/example/vizsla/vizsla/core/DerivedQuery$Operator;" (.ref (a 1))) (S2 : Sta Z h0 "com/example/vizsla/vizsla/core/DerivedQuery$Operator" "IS_NULL" "Lcom/example/vizsla/vizsla/core/DerivedQuery$Operator;" (.ref (a 2))) (S3 : Sta Z h0 "com/example/vizsla/vizsla/core/DerivedQuery$Operator" "IS_NOT_NULL" "Lcom/example/vizsla/vizsla/core/DerivedQuery$Operator;" (.ref (a 3))) (S4 : Sta Z h0 "com/example/vizsla/vizsla/core/DerivedQuery$Operator" "IS_EMPTY" "Lcom/example/vizsla/vizsla/core/DerivedQuery$Operator;" (.ref (a 4))) (S5 : Sta Z h0 "com/example/vizsla/vizsla/core/DerivedQuery$Operator" "IS_NOT_EMPTY" "Lcom/example/vizsla/vizsla/core/DerivedQuery$Operator;" (.ref (a 5))) (S6 : Sta Z h0 "com/example/vizsla/vizsla/core/DerivedQuery$Operator" "IN" "Lcom/example/vizsla/vizsla/core/DerivedQuery$Operator;" (.ref (a 6))) (S7 : Sta Z h0 "com/example/vizsla/vizsla/core/DerivedQuery$Operator" "NOT_IN" "Lcom/example/vizsla/vizsla/core/DerivedQuery$Operator;" (.ref (a 7))) (S8 : Sta Z h0 "com/example/vizsla/vizsla/core/DerivedQuery$Operator" "TRUE" "Lcom/example/vizsla/vizsla/core/DerivedQuery$Operator;" (.ref (a 8))) (S9 : Sta Z h0 "com/example/vizsla/vizsla/core/DerivedQuery$Operator" "FALSE" "Lcom/example/vizsla/vizsla/core/DerivedQuery$Operator;" (.ref (a 9))) (S10 : Sta Z h0 "com/example/vizsla/vizsla/core/DerivedQuery$Operator" "BETWEEN" "Lcom/example/vizsla/vizsla/core/DerivedQuery$Operator;" (.ref (a 10))) (S11 : Sta Z h0 "com/example/vizsla/vizsla/core/DerivedQuery$Operator" "LESS_THAN" "Lcom/example/vizsla/vizsla/core/DerivedQuery$Operator;" (.ref (a 11))) (S12 : Sta Z h0 "com/example/vizsla/vizsla/core/DerivedQuery$Operator" "LESS_THAN_EQUAL" "Lcom/example/vizsla/vizsla/core/DerivedQuery$Operator;" (.ref (a 12))) (S13 : Sta Z h0 "com/example/vizsla/vizsla/core/DerivedQuery$Operator" "GREATER_THAN" "Lcom/example/vizsla/vizsla/core/DerivedQuery$Operator;" (.ref (a 13))) (S14 : Sta Z h0 "com/example/vizsla/vizsla/core/DerivedQuery$Operator" "GREATER_THAN_EQUAL" "Lcom/example/vizsla/vizsla/core/DerivedQuery$Operator;" (.ref (a 14))) (S15 : Sta Z h0 "com/example/vizsla/vizsla/core/DerivedQuery$Operator" "AFTER" "Lcom/example/vizsla/vizsla/core/DerivedQuery$Operator;" (.ref (a 15))) (S16 : Sta Z h0 "com/example/vizsla/vizsla/core/DerivedQuery$Operator" "BEFORE" "Lcom/example/vizsla/vizsla/core/DerivedQuery$Operator;" (.ref (a 16))) (S17 : Sta Z h0 "com/example/vizsla/vizsla/core/DerivedQuery$Operator" "LIKE" "Lcom/example/vizsla/vizsla/core/DerivedQuery$Operator;" (.ref (a 17))) (S18 : Sta Z h0 "com/example/vizsla/vizsla/core/DerivedQuery$Operator" "NOT_LIKE" "Lcom/example/vizsla/vizsla/core/DerivedQuery$Operator;" (.ref (a 18))) (S19 : Sta Z h0 "com/example/vizsla/vizsla/core/DerivedQuery$Operator" "STARTING_WITH" "Lcom/example/vizsla/vizsla/core/DerivedQuery$Operator;" (.ref (a 19))) (S20 : Sta Z h0 "com/example/vizsla/vizsla/core/DerivedQuery$Operator" "ENDING_WITH" "Lcom/example/vizsla/vizsla/core/DerivedQuery$Operator;" (.ref (a 20))) (S21 : Sta Z h0 "com/example/vizsla/vizsla/core/DerivedQuery$Operator" "CONTAINING" "Lcom/example/vizsla/vizsla/core/DerivedQuery$Operator;" (.ref (a 21))) (S22 : Sta Z h0 "com/example/vizsla/vizsla/core/DerivedQuery$Operator" "NOT_CONTAINING" "Lcom/example/vizsla/vizsla/core/DerivedQuery$Operator;" (.ref (a 22))) (EE : ∀ n, n < 23 → Exa Z h0 (a n) "com/example/vizsla/vizsla/core/DerivedQuery$Operator") (DD : ∀ n m, n < 23 → m < 23 → a n = a m → n = m) (FA : ∀ n, (n = 6 ∨ n = 7) → Fld Z h0 (a n) "com/example/vizsla/vizsla/core/DerivedQuery$Operator" "arity" "I" (.int (1 : Int32))) :
    MetFree l x (head1 (Jvm.Cond.code x code maxLocals ret :: ws) room_1) (fun aaz U => aaz = #[(.int q)] ∧ Z.Warmed39 U.vm ∧ U.heap = h0) (fun _ _ _ _ _ => True) (fun _ U o U' => ∃ v L, o = .returned v ∧ Q0 Z q a h0 n0 v U'.heap L ∧ FrameEnd U o U' L room_1.cells room_1.slots) := by
  refine MetFree.of_bodySF (plainFor_of_name own_pn1) hisR ?_
  intro p e s m args below meth cde s₁ Bd hml0 hP hK
  obtain ⟨rfl, hZ, hh⟩ := hP
  have hx := Bd.exec
  have hby := Bd.bytes
  have hml : cde.maxLocals = 6 := hml0
  have hown : s.vm.findClass "com/example/vizsla/vizsla/core/OperatorTakesElementsPinLaw" = some m.cls := findClass_of_methodNamed Bd.named
  have hnm := (name_of_methodNamed Bd.named Bd.method).1
  have X0 : Stand p l e room_1 s m #[(.int q)] below meth cde s₁ [] 0 0 := Stand.of_body Bd
  have e0 : s₁.heap = h0 := by rw [← hh, Bd.state]; rfl
  have N0 := Fr.nil n0
  have k : own_K p.tables e below (s₁.setTop (entryFrame m #[(.int q)] maxLocals)) (s₁.setTop (mkF m 0 #[.val (.int q), .unset, .unset, .unset, .unset, .unset] [])) := fun t h => castTop (own_ef0 m q) h
  replace k : own_K p.tables e below (s₁.setTop (entryFrame m #[(.int q)] maxLocals)) (s₁.setTop (mkF m 2 #[.val (.int q), .unset, .unset, .unset, .unset, .unset] [(.int (23 : Int32))])) := fun t h => k t (XS.bipush X0.here hx rfl (hb hby at_0) h)
  obtain ⟨T1, h1, k1, X1, e1, E1, A1, O1, st1⟩ := newR X0 hx hZ hown (hw _ (List.mem_of_getElem? (i := 0) rfl)) (hw _ (List.mem_of_getElem? (i := 1) rfl)) e0 (g := (mkF m 2 #[.val (.int q), .unset, .unset, .unset, .unset, .unset] [(.int (23 : Int32))])) rfl (hb hby at_2) rfl (by decide) (cap := 23) (by decide) (by decide) (by decide) (by decide)
  obtain ⟨b1, g1⟩ : ∃ z, z = h0.size := ⟨_, rfl⟩
  rw [← g1] at A1 st1
  have ge_b1 : n0 ≤ b1 := Nat.le_trans Z0 (Nat.le_of_eq g1.symm)
  have V1 : Arv Z h1 b1 k1 (.object "com/example/vizsla/vizsla/core/DerivedQuery$Operator") (23 : Int32) [.null, .null, .null, .null, .null, .null, .null, .null, .null, .null, .null, .null, .null, .null, .null, .null, .null, .null, .null, .null, .null, .null, .null] .null := (Arv.new A1 (by decide)).pad (pad_rep [] _ 23)
  have nsA : ∀ cell : Cell, h1[b1]? = some cell → cell.vm.isStatics = false := fun cell q => by cases A1.1.symm.trans q; exact A1.plain
  have KA : Keep h1 h1 [b1] := Keep.refl _ _
  replace k : own_K p.tables e below (s₁.setTop (entryFrame m #[(.int q)] maxLocals)) (T1.setTop (mkF m 5 #[.val (.int q), .unset, .unset, .unset, .unset, .unset] [(.ref b1)])) := fun t h => k t (st1 _ h)
  replace S0 := S0.ext E1
  replace S1 := S1.ext E1
  replace S2 := S2.ext E1
  replace S3 := S3.ext E1
  replace S4 := S4.ext E1
  replace S5 := S5.ext E1
  replace S6 := S6.ext E1
  replace S7 := S7.ext E1
  replace S8 := S8.ext E1
  replace S9 := S9.ext E1
  replace S10 := S10.ext E1
  replace S11 := S11.ext E1
  replace S12 := S12.ext E1
  replace S13 := S13.ext E1
  replace S14 := S14.ext E1
  replace S15 := S15.ext E1
  replace S16 := S16.ext E1
  replace S17 := S17.ext E1
  replace S18 := S18.ext E1
  replace S19 := S19.ext E1
  replace S20 := S20.ext E1
  replace S21 := S21.ext E1
  replace S22 := S22.ext E1
  have EE1 : ∀ n, n < 23 → Exa Z h1 (a n) "com/example/vizsla/vizsla/core/DerivedQuery$Operator" := fun n hn => (EE n hn).ext E1
  have nb : ∀ n, n < 23 → a n ≠ b1 := fun n hn q => absurd (EE n hn).lt (by rw [q, g1]; exact Nat.lt_irrefl _)
  have FA1 : ∀ n, (n = 6 ∨ n = 7) → Fld Z h1 (a n) "com/example/vizsla/vizsla/core/DerivedQuery$Operator" "arity" "I" (.int (1 : Int32)) := fun n hn => (FA n hn).ext E1
  replace k : own_K p.tables e below (s₁.setTop (entryFrame m #[(.int q)] maxLocals)) (T1.setTop (mkF m 6 #[.val (.int q), .unset, .unset, .unset, .unset, .unset] [(.ref b1), (.ref b1)])) := fun t h => k t (XS.dup X1.here hx rfl (hb hby at_5) rfl rfl h)
  replace k : own_K p.tables e below (s₁.setTop (entryFrame m #[(.int q)] maxLocals)) (T1.setTop (mkF m 7 #[.val (.int q), .unset, .unset, .unset, .unset, .unset] [(.int (0 : Int32)), (.ref b1), (.ref b1)])) := fun t h => k t (XS.iconst X1.here hx rfl (hb hby at_6) h)
  obtain ⟨T2, X2, e2, st2⟩ := getS2 X1 hx hZ hown (host := "") (Or.inl (hw _ (List.mem_of_getElem? (i := 2) rfl))) Via.refl e1 (own_staKeep S0 KA (allS nsA all0)) (g := (mkF m 7 #[.val (.int q), .unset, .unset, .unset, .unset, .unset] [(.int (0 : Int32)), (.ref b1), (.ref b1)])) rfl (hb hby at_7)
  replace k : own_K p.tables e below (s₁.setTop (entryFrame m #[(.int q)] maxLocals)) (T2.setTop (mkF m 10 #[.val (.int q), .unset, .unset, .unset, .unset, .unset] [(.ref (a 0)), (.int (0 : Int32)), (.ref b1), (.ref b1)])) := fun t h => k t (st2 _ h)
  obtain ⟨cl3, Ar3, qa3, Sa3, Na3, Ha3, Ga3⟩ := V1
  have hin3 : ¬ ((0 : Int32) < 0 ∨ cl3.slots.size ≤ ((0 : Int32)).toNatClampNeg) := inb_of Sa3 ⟨by decide, by decide⟩
  obtain ⟨T3, h3, X3, e3, W3, st3⟩ := stR X2 hx hZ e2 Ar3 (j := (0 : Int32)) hin3 rfl (Sto.ofV Ar3 qa3 O1 (Ins.self ((EE1 0 (by omega)).keep KA))) (g := (mkF m 10 #[.val (.int q), .unset, .unset, .unset, .unset, .unset] [(.ref (a 0)), (.int (0 : Int32)), (.ref b1), (.ref b1)])) rfl rfl (hb hby at_10)
  have N3 := Fr.snoc X3 N0 ge_b1
  have V3 : Arv Z h3 b1 k1 (.object "com/example/vizsla/vizsla/core/DerivedQuery$Operator") (23 : Int32) [(.ref (a 0)), .null, .null, .null, .null, .null, .null, .null, .null, .null, .null, .null, .null, .null, .null, .null, .null, .null, .null, .null, .null, .null, .null] .null := Arv.set Ar3 qa3 Sa3 Na3 Ha3 Ga3 rfl W3 0 rfl (Nat.le_of_ble_eq_true rfl)
  replace KA := KA.wr W3 (Or.inl (List.mem_of_getElem? (i := 0) rfl))
  clear Ar3 qa3 Sa3 Na3 Ha3 Ga3 hin3
  replace k : own_K p.tables e below (s₁.setTop (entryFrame m #[(.int q)] maxLocals)) (T3.setTop (mkF m 11 #[.val (.int q), .unset, .unset, .unset, .unset, .unset] [(.ref b1)])) := fun t h => k t (st3 _ h)
  replace k : own_K p.tables e below (s₁.setTop (entryFrame m #[(.int q)] maxLocals)) (T3.setTop (mkF m 12 #[.val (.int q), .unset, .unset, .unset, .unset, .unset] [(.ref b1), (.ref b1)])) := fun t h => k t (XS.dup X3.here hx rfl (hb hby at_11) rfl rfl h)
  replace k : own_K p.tables e below (s₁.setTop (entryFrame m #[(.int q)] maxLocals)) (T3.setTop (mkF m 13 #[.val (.int q), .unset, .unset, .unset, .unset, .unset] [(.int (1 : Int32)), (.ref b1), (.ref b1)])) := fun t h => k t (XS.iconst X3.here hx rfl (hb hby at_12) h)
  obtain ⟨T4, X4, e4, st4⟩ := getS2 X3 hx hZ hown (host := "") (Or.inl (hw _ (List.mem_of_getElem? (i := 6) rfl))) Via.refl e3 (own_staKeep S1 KA (allS nsA all0)) (g := (mkF m 13 #[.val (.int q), .unset, .unset, .unset, .unset, .unset] [(.int (1 : Int32)), (.ref b1), (.ref b1)])) rfl (hb hby at_13)
  replace k : own_K p.tables e below (s₁.setTop (entryFrame m #[(.int q)] maxLocals)) (T4.setTop (mkF m 16 #[.val (.int q), .unset, .unset, .unset, .unset, .unset] [(.ref (a 1)), (.int (1 : Int32)), (.ref b1), (.ref b1)])) := fun t h => k t (st4 _ h)
  obtain ⟨cl5, Ar5, qa5, Sa5, Na5, Ha5, Ga5⟩ := V3
  have hin5 : ¬ ((1 : Int32) < 0 ∨ cl5.slots.size ≤ ((1 : Int32)).toNatClampNeg) := inb_of Sa5 ⟨by decide, by decide⟩
  obtain ⟨T5, h5, X5, e5, W5, st5⟩ := stR X4 hx hZ e4 Ar5 (j := (1 : Int32)) hin5 rfl (Sto.ofV Ar5 qa5 O1 (Ins.self ((EE1 1 (by omega)).keep KA))) (g := (mkF m 16 #[.val (.int q), .unset, .unset, .unset, .unset, .unset] [(.ref (a 1)), (.int (1 : Int32)), (.ref b1), (.ref b1)])) rfl rfl (hb hby at_16)
  have N5 := Fr.snoc X5 N3 ge_b1
  have V5 : Arv Z h5 b1 k1 (.object "com/example/vizsla/vizsla/core/DerivedQuery$Operator") (23 : Int32) [(.ref (a 0)), (.ref (a 1)), .null, .null, .null, .null, .null, .null, .null, .null, .null, .null, .null, .null, .null, .null, .null, .null, .null, .null, .null, .null, .null] .null := Arv.set Ar5 qa5 Sa5 Na5 Ha5 Ga5 rfl W5 1 rfl (Nat.le_of_ble_eq_true rfl)
  replace KA := KA.wr W5 (Or.inl (List.mem_of_getElem? (i := 0) rfl))
  clear Ar5 qa5 Sa5 Na5 Ha5 Ga5 hin5
  replace k : own_K p.tables e below (s₁.setTop (entryFrame m #[(.int q)] maxLocals)) (T5.setTop (mkF m 17 #[.val (.int q), .unset, .unset, .unset, .unset, .unset] [(.ref b1)])) := fun t h => k t (st5 _ h)
  replace k : own_K p.tables e below (s₁.setTop (entryFrame m #[(.int q)] maxLocals)) (T5.setTop (mkF m 18 #[.val (.int q), .unset, .unset, .unset, .unset, .unset] [(.ref b1), (.ref b1)])) := fun t h => k t (XS.dup X5.here hx rfl (hb hby at_17) rfl rfl h)
  replace k : own_K p.tables e below (s₁.setTop (entryFrame m #[(.int q)] maxLocals)) (T5.setTop (mkF m 19 #[.val (.int q), .unset, .unset, .unset, .unset, .unset] [(.int (2 : Int32)), (.ref b1), (.ref b1)])) := fun t h => k t (XS.iconst X5.here hx rfl (hb hby at_18) h)
  obtain ⟨T6, X6, e6, st6⟩ := getS2 X5 hx hZ hown (host := "") (Or.inl (hw _ (List.mem_of_getElem? (i := 8) rfl))) Via.refl e5 (own_staKeep S2 KA (allS nsA all0)) (g := (mkF m 19 #[.val (.int q), .unset, .unset, .unset, .unset, .unset] [(.int (2 : Int32)), (.ref b1), (.ref b1)])) rfl (hb hby at_19)
  replace k : own_K p.tables e below (s₁.setTop (entryFrame m #[(.int q)] maxLocals)) (T6.setTop (mkF m 22 #[.val (.int q), .unset, .unset, .unset, .unset, .unset] [(.ref (a 2)), (.int (2 : Int32)), (.ref b1), (.ref b1)])) := fun t h => k t (st6 _ h)
  obtain ⟨cl7, Ar7, qa7, Sa7, Na7, Ha7, Ga7⟩ := V5
  have hin7 : ¬ ((2 : Int32) < 0 ∨ cl7.slots.size ≤ ((2 : Int32)).toNatClampNeg) := inb_of Sa7 ⟨by decide, by decide⟩
  obtain ⟨T7, h7, X7, e7, W7, st7⟩ := stR X6 hx hZ e6 Ar7 (j := (2 : Int32)) hin7 rfl (Sto.ofV Ar7 qa7 O1 (Ins.self ((EE1 2 (by omega)).keep KA))) (g := (mkF m 22 #[.val (.int q), .unset, .unset, .unset, .unset, .unset] [(.ref (a 2)), (.int (2 : Int32)), (.ref b1), (.ref b1)])) rfl rfl (hb hby at_22)
  have N7 := Fr.snoc X7 N5 ge_b1
  have V7 : Arv Z h7 b1 k1 (.object "com/example/vizsla/vizsla/core/DerivedQuery$Operator") (23 : Int32) [(.ref (a 0)), (.ref (a 1)), (.ref (a 2)), .null, .null, .null, .null, .null, .null, .null, .null, .null, .null, .null, .null, .null, .null, .null, .null, .null, .null, .null, .null] .null := Arv.set Ar7 qa7 Sa7 Na7 Ha7 Ga7 rfl W7 2 rfl (Nat.le_of_ble_eq_true rfl)
  replace KA := KA.wr W7 (Or.inl (List.mem_of_getElem? (i := 0) rfl))
  clear Ar7 qa7 Sa7 Na7 Ha7 Ga7 hin7
  replace k : own_K p.tables e below (s₁.setTop (entryFrame m #[(.int q)] maxLocals)) (T7.setTop (mkF m 23 #[.val (.int q), .unset, .unset, .unset, .unset, .unset] [(.ref b1)])) := fun t h => k t (st7 _ h)
  replace k : own_K p.tables e below (s₁.setTop (entryFrame m #[(.int q)] maxLocals)) (T7.setTop (mkF m 24 #[.val (.int q), .unset, .unset, .unset, .unset, .unset] [(.ref b1), (.ref b1)])) := fun t h => k t (XS.dup X7.here hx rfl (hb hby at_23) rfl rfl h)
  replace k : own_K p.tables e below (s₁.setTop (entryFrame m #[(.int q)] maxLocals)) (T7.setTop (mkF m 25 #[.val (.int q), .unset, .unset, .unset, .unset, .unset] [(.int (3 : Int32)), (.ref b1), (.ref b1)])) := fun t h => k t (XS.iconst X7.here hx rfl (hb hby at_24) h)
  obtain ⟨T8, X8, e8, st8⟩ := getS2 X7 hx hZ hown (host := "") (Or.inl (hw _ (List.mem_of_getElem? (i := 10) rfl))) Via.refl e7 (own_staKeep S3 KA (allS nsA all0)) (g := (mkF m 25 #[.val (.int q), .unset, .unset, .unset, .unset, .unset] [(.int (3 : Int32)), (.ref b1), (.ref b1)])) rfl (hb hby at_25)
  replace k : own_K p.tables e below (s₁.setTop (entryFrame m #[(.int q)] maxLocals)) (T8.setTop (mkF m 28 #[.val (.int q), .unset, .unset, .unset, .unset, .unset] [(.ref (a 3)), (.int (3 : Int32)), (.ref b1), (.ref b1)])) := fun t h => k t (st8 _ h)
  obtain ⟨cl9, Ar9, qa9, Sa9, Na9, Ha9, Ga9⟩ := V7
  have hin9 : ¬ ((3 : Int32) < 0 ∨ cl9.slots.size ≤ ((3 : Int32)).toNatClampNeg) := inb_of Sa9 ⟨by decide, by decide⟩
  obtain ⟨T9, h9, X9, e9, W9, st9⟩ := stR X8 hx hZ e8 Ar9 (j := (3 : Int32)) hin9 rfl (Sto.ofV Ar9 qa9 O1 (Ins.self ((EE1 3 (by omega)).keep KA))) (g := (mkF m 28 #[.val (.int q), .unset, .unset, .unset, .unset, .unset] [(.ref (a 3)), (.int (3 : Int32)), (.ref b1), (.ref b1)])) rfl rfl (hb hby at_28)
  have N9 := Fr.snoc X9 N7 ge_b1
  have V9 : Arv Z h9 b1 k1 (.object "com/example/vizsla/vizsla/core/DerivedQuery$Operator") (23 : Int32) [(.ref (a 0)), (.ref (a 1)), (.ref (a 2)), (.ref (a 3)), .null, .null, .null, .null, .null, .null, .null, .null, .null, .null, .null, .null, .null, .null, .null, .null, .null, .null, .null] .null := Arv.set Ar9 qa9 Sa9 Na9 Ha9 Ga9 rfl W9 3 rfl (Nat.le_of_ble_eq_true rfl)
  replace KA := KA.wr W9 (Or.inl (List.mem_of_getElem? (i := 0) rfl))
  clear Ar9 qa9 Sa9 Na9 Ha9 Ga9 hin9
  replace k : own_K p.tables e below (s₁.setTop (entryFrame m #[(.int q)] maxLocals)) (T9.setTop (mkF m 29 #[.val (.int q), .unset, .unset, .unset, .unset, .unset] [(.ref b1)])) := fun t h => k t (st9 _ h)
  replace k : own_K p.tables e below (s₁.setTop (entryFrame m #[(.int q)] maxLocals)) (T9.setTop (mkF m 30 #[.val (.int q), .unset, .unset, .unset, .unset, .unset] [(.ref b1), (.ref b1)])) := fun t h => k t (XS.dup X9.here hx rfl (hb hby at_29) rfl rfl h)
  replace k : own_K p.tables e below (s₁.setTop (entryFrame m #[(.int q)] maxLocals)) (T9.setTop (mkF m 31 #[.val (.int q), .unset, .unset, .unset, .unset, .unset] [(.int (4 : Int32)), (.ref b1), (.ref b1)])) := fun t h => k t (XS.iconst X9.here hx rfl (hb hby at_30) h)
  obtain ⟨T10, X10, e10, st10⟩ := getS2 X9 hx hZ hown (host := "") (Or.inl (hw _ (List.mem_of_getElem? (i := 12) rfl))) Via.refl e9 (own_staKeep S4 KA (allS nsA all0)) (g := (mkF m 31 #[.val (.int q), .unset, .unset, .unset, .unset, .unset] [(.int (4 : Int32)), (.ref b1), (.ref b1)])) rfl (hb hby at_31)
  replace k : own_K p.tables e below (s₁.setTop (entryFrame m #[(.int q)] maxLocals)) (T10.setTop (mkF m 34 #[.val (.int q), .unset, .unset, .unset, .unset, .unset] [(.ref (a 4)), (.int (4 : Int32)), (.ref b1), (.ref b1)])) := fun t h => k t (st10 _ h)
  obtain ⟨cl11, Ar11, qa11, Sa11, Na11, Ha11, Ga11⟩ := V9
  have hin11 : ¬ ((4 : Int32) < 0 ∨ cl11.slots.size ≤ ((4 : Int32)).toNatClampNeg) := inb_of Sa11 ⟨by decide, by decide⟩
  obtain ⟨T11, h11, X11, e11, W11, st11⟩ := stR X10 hx hZ e10 Ar11 (j := (4 : Int32)) hin11 rfl (Sto.ofV Ar11 qa11 O1 (Ins.self ((EE1 4 (by omega)).keep KA))) (g := (mkF m 34 #[.val (.int q), .unset, .unset, .unset, .unset, .unset] [(.ref (a 4)), (.int (4 : Int32)), (.ref b1), (.ref b1)])) rfl rfl (hb hby at_34)
  have N11 := Fr.snoc X11 N9 ge_b1
  have V11 : Arv Z h11 b1 k1 (.object "com/example/vizsla/vizsla/core/DerivedQuery$Operator") (23 : Int32) [(.ref (a 0)), (.ref (a 1)), (.ref (a 2)), (.ref (a 3)), (.ref (a 4)), .null, .null, .null, .null, .null, .null, .null, .null, .null, .null, .null, .null, .null, .null, .null, .null, .null, .null] .null := Arv.set Ar11 qa11 Sa11 Na11 Ha11 Ga11 rfl W11 4 rfl (Nat.le_of_ble_eq_true rfl)
  replace KA := KA.wr W11 (Or.inl (List.mem_of_getElem? (i := 0) rfl))
  clear Ar11 qa11 Sa11 Na11 Ha11 Ga11 hin11
  replace k : own_K p.tables e below (s₁.setTop (entryFrame m #[(.int q)] maxLocals)) (T11.setTop (mkF m 35 #[.val (.int q), .unset, .unset, .unset, .unset, .unset] [(.ref b1)])) := fun t h => k t (st11 _ h)
  replace k : own_K p.tables e below (s₁.setTop (entryFrame m #[(.int q)] maxLocals)) (T11.setTop (mkF m 36 #[.val (.int q), .unset, .unset, .unset, .unset, .unset] [(.ref b1), (.ref b1)])) := fun t h => k t (XS.dup X11.here hx rfl (hb hby at_35) rfl rfl h)
  replace k : own_K p.tables e below (s₁.setTop (entryFrame m #[(.int q)] maxLocals)) (T11.setTop (mkF m 37 #[.val (.int q), .unset, .unset, .unset, .unset, .unset] [(.int (5 : Int32)), (.ref b1), (.ref b1)])) := fun t h => k t (XS.iconst X11.here hx rfl (hb hby at_36) h)
  obtain ⟨T12, X12, e12, st12⟩ := getS2 X11 hx hZ hown (host := "") (Or.inl (hw _ (List.mem_of_getElem? (i := 14) rfl))) Via.refl e11 (own_staKeep S5 KA (allS nsA all0)) (g := (mkF m 37 #[.val (.int q), .unset, .unset, .unset, .unset, .unset] [(.int (5 : Int32)), (.ref b1), (.ref b1)])) rfl (hb hby at_37)
  replace k : own_K p.tables e below (s₁.setTop (entryFrame m #[(.int q)] maxLocals)) (T12.setTop (mkF m 40 #[.val (.int q), .unset, .unset, .unset, .unset, .unset] [(.ref (a 5)), (.int (5 : Int32)), (.ref b1), (.ref b1)])) := fun t h => k t (st12 _ h)
  obtain ⟨cl13, Ar13, qa13, Sa13, Na13, Ha13, Ga13⟩ := V11
  have hin13 : ¬ ((5 : Int32) < 0 ∨ cl13.slots.size ≤ ((5 : Int32)).toNatClampNeg) := inb_of Sa13 ⟨by decide, by decide⟩
  obtain ⟨T13, h13, X13, e13, W13, st13⟩ := stR X12 hx hZ e12 Ar13 (j := (5 : Int32)) hin13 rfl (Sto.ofV Ar13 qa13 O1 (Ins.self ((EE1 5 (by omega)).keep KA))) (g := (mkF m 40 #[.val (.int q), .unset, .unset, .unset, .unset, .unset] [(.ref (a 5)), (.int (5 : Int32)), (.ref b1), (.ref b1)])) rfl rfl (hb hby at_40)
  have N13 := Fr.snoc X13 N11 ge_b1
  have V13 : Arv Z h13 b1 k1 (.object "com/example/vizsla/vizsla/core/DerivedQuery$Operator") (23 : Int32) [(.ref (a 0)), (.ref (a 1)), (.ref (a 2)), (.ref (a 3)), (.ref (a 4)), (.ref (a 5)), .null, .null, .null, .null, .null, .null, .null, .null, .null, .null, .null, .null, .null, .null, .null, .null, .null] .null := Arv.set Ar13 qa13 Sa13 Na13 Ha13 Ga13 rfl W13 5 rfl (Nat.le_of_ble_eq_true rfl)
  replace KA := KA.wr W13 (Or.inl (List.mem_of_getElem? (i := 0) rfl))
  clear Ar13 qa13 Sa13 Na13 Ha13 Ga13 hin13
  replace k : own_K p.tables e below (s₁.setTop (entryFrame m #[(.int q)] maxLocals)) (T13.setTop (mkF m 41 #[.val (.int q), .unset, .unset, .unset, .unset, .unset] [(.ref b1)])) := fun t h => k t (st13 _ h)
  replace k : own_K p.tables e below (s₁.setTop (entryFrame m #[(.int q)] maxLocals)) (T13.setTop (mkF m 42 #[.val (.int q), .unset, .unset, .unset, .unset, .unset] [(.ref b1), (.ref b1)])) := fun t h => k t (XS.dup X13.here hx rfl (hb hby at_41) rfl rfl h)
  replace k : own_K p.tables e below (s₁.setTop (entryFrame m #[(.int q)] maxLocals)) (T13.setTop (mkF m 44 #[.val (.int q), .unset, .unset, .unset, .unset, .unset] [(.int (6 : Int32)), (.ref b1), (.ref b1)])) := fun t h => k t (XS.bipush X13.here hx rfl (hb hby at_42) h)
  obtain ⟨T14, X14, e14, st14⟩ := getS2 X13 hx hZ hown (host := "") (Or.inl (hw _ (List.mem_of_getElem? (i := 16) rfl))) Via.refl e13 (own_staKeep S6 KA (allS nsA all0)) (g := (mkF m 44 #[.val (.int q), .unset, .unset, .unset, .unset, .unset] [(.int (6 : Int32)), (.ref b1), (.ref b1)])) rfl (hb hby at_44)
  replace k : own_K p.tables e below (s₁.setTop (entryFrame m #[(.int q)] maxLocals)) (T14.setTop (mkF m 47 #[.val (.int q), .unset, .unset, .unset, .unset, .unset] [(.ref (a 6)), (.int (6 : Int32)), (.ref b1), (.ref b1)])) := fun t h => k t (st14 _ h)
  obtain ⟨cl15, Ar15, qa15, Sa15, Na15, Ha15, Ga15⟩ := V13
  have hin15 : ¬ ((6 : Int32) < 0 ∨ cl15.slots.size ≤ ((6 : Int32)).toNatClampNeg) := inb_of Sa15 ⟨by decide, by decide⟩
  obtain ⟨T15, h15, X15, e15, W15, st15⟩ := stR X14 hx hZ e14 Ar15 (j := (6 : Int32)) hin15 rfl (Sto.ofV Ar15 qa15 O1 (Ins.self ((EE1 6 (by omega)).keep KA))) (g := (mkF m 47 #[.val (.int q), .unset, .unset, .unset, .unset, .unset] [(.ref (a 6)), (.int (6 : Int32)), (.ref b1), (.ref b1)])) rfl rfl (hb hby at_47)
  have N15 := Fr.snoc X15 N13 ge_b1
  have V15 : Arv Z h15 b1 k1 (.object "com/example/vizsla/vizsla/core/DerivedQuery$Operator") (23 : Int32) [(.ref (a 0)), (.ref (a 1)), (.ref (a 2)), (.ref (a 3)), (.ref (a 4)), (.ref (a 5)), (.ref (a 6)), .null, .null, .null, .null, .null, .null, .null, .null, .null, .null, .null, .null, .null, .null, .null, .null] .null := Arv.set Ar15 qa15 Sa15 Na15 Ha15 Ga15 rfl W15 6 rfl (Nat.le_of_ble_eq_true rfl)
  replace KA := KA.wr W15 (Or.inl (List.mem_of_getElem? (i := 0) rfl))
  clear Ar15 qa15 Sa15 Na15 Ha15 Ga15 hin15
  replace k : own_K p.tables e below (s₁.setTop (entryFrame m #[(.int q)] maxLocals)) (T15.setTop (mkF m 48 #[.val (.int q), .unset, .unset, .unset, .unset, .unset] [(.ref b1)])) := fun t h => k t (st15 _ h)
  replace k : own_K p.tables e below (s₁.setTop (entryFrame m #[(.int q)] maxLocals)) (T15.setTop (mkF m 49 #[.val (.int q), .unset, .unset, .unset, .unset, .unset] [(.ref b1), (.ref b1)])) := fun t h => k t (XS.dup X15.here hx rfl (hb hby at_48) rfl rfl h)
  replace k : own_K p.tables e below (s₁.setTop (entryFrame m #[(.int q)] maxLocals)) (T15.setTop (mkF m 51 #[.val (.int q), .unset, .unset, .unset, .unset, .unset] [(.int (7 : Int32)), (.ref b1), (.ref b1)])) := fun t h => k t (XS.bipush X15.here hx rfl (hb hby at_49) h)
  obtain ⟨T16, X16, e16, st16⟩ := getS2 X15 hx hZ hown (host := "") (Or.inl (hw _ (List.mem_of_getElem? (i := 18) rfl))) Via.refl e15 (own_staKeep S7 KA (allS nsA all0)) (g := (mkF m 51 #[.val (.int q), .unset, .unset, .unset, .unset, .unset] [(.int (7 : Int32)), (.ref b1), (.ref b1)])) rfl (hb hby at_51)
  replace k : own_K p.tables e below (s₁.setTop (entryFrame m #[(.int q)] maxLocals)) (T16.setTop (mkF m 54 #[.val (.int q), .unset, .unset, .unset, .unset, .unset] [(.ref (a 7)), (.int (7 : Int32)), (.ref b1), (.ref b1)])) := fun t h => k t (st16 _ h)
  obtain ⟨cl17, Ar17, qa17, Sa17, Na17, Ha17, Ga17⟩ := V15
  have hin17 : ¬ ((7 : Int32) < 0 ∨ cl17.slots.size ≤ ((7 : Int32)).toNatClampNeg) := inb_of Sa17 ⟨by decide, by decide⟩
  obtain ⟨T17, h17, X17, e17, W17, st17⟩ := stR X16 hx hZ e16 Ar17 (j := (7 : Int32)) hin17 rfl (Sto.ofV Ar17 qa17 O1 (Ins.self ((EE1 7 (by omega)).keep KA))) (g := (mkF m 54 #[.val (.int q), .unset, .unset, .unset, .unset, .unset] [(.ref (a 7)), (.int (7 : Int32)), (.ref b1), (.ref b1)])) rfl rfl (hb hby at_54)
  have N17 := Fr.snoc X17 N15 ge_b1
  have V17 : Arv Z h17 b1 k1 (.object "com/example/vizsla/vizsla/core/DerivedQuery$Operator") (23 : Int32) [(.ref (a 0)), (.ref (a 1)), (.ref (a 2)), (.ref (a 3)), (.ref (a 4)), (.ref (a 5)), (.ref (a 6)), (.ref (a 7)), .null, .null, .null, .null, .null, .null, .null, .null, .null, .null, .null, .null, .null, .null, .null] .null := Arv.set Ar17 qa17 Sa17 Na17 Ha17 Ga17 rfl W17 7 rfl (Nat.le_of_ble_eq_true rfl)
  replace KA := KA.wr W17 (Or.inl (List.mem_of_getElem? (i := 0) rfl))
  clear Ar17 qa17 Sa17 Na17 Ha17 Ga17 hin17
  replace k : own_K p.tables e below (s₁.setTop (entryFrame m #[(.int q)] maxLocals)) (T17.setTop (mkF m 55 #[.val (.int q), .unset, .unset, .unset, .unset, .unset] [(.ref b1)])) := fun t h => k t (st17 _ h)
  replace k : own_K p.tables e below (s₁.setTop (entryFrame m #[(.int q)] maxLocals)) (T17.setTop (mkF m 56 #[.val (.int q), .unset, .unset, .unset, .unset, .unset] [(.ref b1), (.ref b1)])) := fun t h => k t (XS.dup X17.here hx rfl (hb hby at_55) rfl rfl h)
  replace k : own_K p.tables e below (s₁.setTop (entryFrame m #[(.int q)] maxLocals)) (T17.setTop (mkF m 58 #[.val (.int q), .unset, .unset, .unset, .unset, .unset] [(.int (8 : Int32)), (.ref b1), (.ref b1)])) := fun t h => k t (XS.bipush X17.here hx rfl (hb hby at_56) h)
  obtain ⟨T18, X18, e18, st18⟩ := getS2 X17 hx hZ hown (host := "") (Or.inl (hw _ (List.mem_of_getElem? (i := 20) rfl))) Via.refl e17 (own_staKeep S8 KA (allS nsA all0)) (g := (mkF m 58 #[.val (.int q), .unset, .unset, .unset, .unset, .unset] [(.int (8 : Int32)), (.ref b1), (.ref b1)])) rfl (hb hby at_58)
  replace k : own_K p.tables e below (s₁.setTop (entryFrame m #[(.int q)] maxLocals)) (T18.setTop (mkF m 61 #[.val (.int q), .unset, .unset, .unset, .unset, .unset] [(.ref (a 8)), (.int (8 : Int32)), (.ref b1), (.ref b1)])) := fun t h => k t (st18 _ h)
  obtain ⟨cl19, Ar19, qa19, Sa19, Na19, Ha19, Ga19⟩ := V17
  have hin19 : ¬ ((8 : Int32) < 0 ∨ cl19.slots.size ≤ ((8 : Int32)).toNatClampNeg) := inb_of Sa19 ⟨by decide, by decide⟩
  obtain ⟨T19, h19, X19, e19, W19, st19⟩ := stR X18 hx hZ e18 Ar19 (j := (8 : Int32)) hin19 rfl (Sto.ofV Ar19 qa19 O1 (Ins.self ((EE1 8 (by omega)).keep KA))) (g := (mkF m 61 #[.val (.int q), .unset, .unset, .unset, .unset, .unset] [(.ref (a 8)), (.int (8 : Int32)), (.ref b1), (.ref b1)])) rfl rfl (hb hby at_61)
  have N19 := Fr.snoc X19 N17 ge_b1
  have V19 : Arv Z h19 b1 k1 (.object "com/example/vizsla/vizsla/core/DerivedQuery$Operator") (23 : Int32) [(.ref (a 0)), (.ref (a 1)), (.ref (a 2)), (.ref (a 3)), (.ref (a 4)), (.ref (a 5)), (.ref (a 6)), (.ref (a 7)), (.ref (a 8)), .null, .null, .null, .null, .null, .null, .null, .null, .null, .null, .null, .null, .null, .null] .null := Arv.set Ar19 qa19 Sa19 Na19 Ha19 Ga19 rfl W19 8 rfl (Nat.le_of_ble_eq_true rfl)
  replace KA := KA.wr W19 (Or.inl (List.mem_of_getElem? (i := 0) rfl))
  clear Ar19 qa19 Sa19 Na19 Ha19 Ga19 hin19
  replace k : own_K p.tables e below (s₁.setTop (entryFrame m #[(.int q)] maxLocals)) (T19.setTop (mkF m 62 #[.val (.int q), .unset, .unset, .unset, .unset, .unset] [(.ref b1)])) := fun t h => k t (st19 _ h)
  replace k : own_K p.tables e below (s₁.setTop (entryFrame m #[(.int q)] maxLocals)) (T19.setTop (mkF m 63 #[.val (.int q), .unset, .unset, .unset, .unset, .unset] [(.ref b1), (.ref b1)])) := fun t h => k t (XS.dup X19.here hx rfl (hb hby at_62) rfl rfl h)
  replace k : own_K p.tables e below (s₁.setTop (entryFrame m #[(.int q)] maxLocals)) (T19.setTop (mkF m 65 #[.val (.int q), .unset, .unset, .unset, .unset, .unset] [(.int (9 : Int32)), (.ref b1), (.ref b1)])) := fun t h => k t (XS.bipush X19.here hx rfl (hb hby at_63) h)
  obtain ⟨T20, X20, e20, st20⟩ := getS2 X19 hx hZ hown (host := "") (Or.inl (hw _ (List.mem_of_getElem? (i := 22) rfl))) Via.refl e19 (own_staKeep S9 KA (allS nsA all0)) (g := (mkF m 65 #[.val (.int q), .unset, .unset, .unset, .unset, .unset] [(.int (9 : Int32)), (.ref b1), (.ref b1)])) rfl (hb hby at_65)
  replace k : own_K p.tables e below (s₁.setTop (entryFrame m #[(.int q)] maxLocals)) (T20.setTop (mkF m 68 #[.val (.int q), .unset, .unset, .unset, .unset, .unset] [(.ref (a 9)), (.int (9 : Int32)), (.ref b1), (.ref b1)])) := fun t h => k t (st20 _ h)
  obtain ⟨cl21, Ar21, qa21, Sa21, Na21, Ha21, Ga21⟩ := V19
  have hin21 : ¬ ((9 : Int32) < 0 ∨ cl21.slots.size ≤ ((9 : Int32)).toNatClampNeg) := inb_of Sa21 ⟨by decide, by decide⟩
  obtain ⟨T21, h21, X21, e21, W21, st21⟩ := stR X20 hx hZ e20 Ar21 (j := (9 : Int32)) hin21 rfl (Sto.ofV Ar21 qa21 O1 (Ins.self ((EE1 9 (by omega)).keep KA))) (g := (mkF m 68 #[.val (.int q), .unset, .unset, .unset, .unset, .unset] [(.ref (a 9)), (.int (9 : Int32)), (.ref b1), (.ref b1)])) rfl rfl (hb hby at_68)
  have N21 := Fr.snoc X21 N19 ge_b1
  have V21 : Arv Z h21 b1 k1 (.object "com/example/vizsla/vizsla/core/DerivedQuery$Operator") (23 : Int32) [(.ref (a 0)), (.ref (a 1)), (.ref (a 2)), (.ref (a 3)), (.ref (a 4)), (.ref (a 5)), (.ref (a 6)), (.ref (a 7)), (.ref (a 8)), (.ref (a 9)), .null, .null, .null, .null, .null, .null, .null, .null, .null, .null, .null, .null, .null] .null := Arv.set Ar21 qa21 Sa21 Na21 Ha21 Ga21 rfl W21 9 rfl (Nat.le_of_ble_eq_true rfl)
  replace KA := KA.wr W21 (Or.inl (List.mem_of_getElem? (i := 0) rfl))
  clear Ar21 qa21 Sa21 Na21 Ha21 Ga21 hin21
  replace k : own_K p.tables e below (s₁.setTop (entryFrame m #[(.int q)] maxLocals)) (T21.setTop (mkF m 69 #[.val (.int q), .unset, .unset, .unset, .unset, .unset] [(.ref b1)])) := fun t h => k t (st21 _ h)
  replace k : own_K p.tables e below (s₁.setTop (entryFrame m #[(.int q)] maxLocals)) (T21.setTop (mkF m 70 #[.val (.int q), .unset, .unset, .unset, .unset, .unset] [(.ref b1), (.ref b1)])) := fun t h => k t (XS.dup X21.here hx rfl (hb hby at_69) rfl rfl h)
  replace k : own_K p.tables e below (s₁.setTop (entryFrame m #[(.int q)] maxLocals)) (T21.setTop (mkF m 72 #[.val (.int q), .unset, .unset, .unset, .unset, .unset] [(.int (10 : Int32)), (.ref b1), (.ref b1)])) := fun t h => k t (XS.bipush X21.here hx rfl (hb hby at_70) h)
  obtain ⟨T22, X22, e22, st22⟩ := getS2 X21 hx hZ hown (host := "") (Or.inl (hw _ (List.mem_of_getElem? (i := 24) rfl))) Via.refl e21 (own_staKeep S10 KA (allS nsA all0)) (g := (mkF m 72 #[.val (.int q), .unset, .unset, .unset, .unset, .unset] [(.int (10 : Int32)), (.ref b1), (.ref b1)])) rfl (hb hby at_72)
  replace k : own_K p.tables e below (s₁.setTop (entryFrame m #[(.int q)] maxLocals)) (T22.setTop (mkF m 75 #[.val (.int q), .unset, .unset, .unset, .unset, .unset] [(.ref (a 10)), (.int (10 : Int32)), (.ref b1), (.ref b1)])) := fun t h => k t (st22 _ h)
  obtain ⟨cl23, Ar23, qa23, Sa23, Na23, Ha23, Ga23⟩ := V21
  have hin23 : ¬ ((10 : Int32) < 0 ∨ cl23.slots.size ≤ ((10 : Int32)).toNatClampNeg) := inb_of Sa23 ⟨by decide, by decide⟩
  obtain ⟨T23, h23, X23, e23, W23, st23⟩ := stR X22 hx hZ e22 Ar23 (j := (10 : Int32)) hin23 rfl (Sto.ofV Ar23 qa23 O1 (Ins.self ((EE1 10 (by omega)).keep KA))) (g := (mkF m 75 #[.val (.int q), .unset, .unset, .unset, .unset, .unset] [(.ref (a 10)), (.int (10 : Int32)), (.ref b1), (.ref b1)])) rfl rfl (hb hby at_75)
  have N23 := Fr.snoc X23 N21 ge_b1
  have V23 : Arv Z h23 b1 k1 (.object "com/example/vizsla/vizsla/core/DerivedQuery$Operator") (23 : Int32) [(.ref (a 0)), (.ref (a 1)), (.ref (a 2)), (.ref (a 3)), (.ref (a 4)), (.ref (a 5)), (.ref (a 6)), (.ref (a 7)), (.ref (a 8)), (.ref (a 9)), (.ref (a 10)), .null, .null, .null, .null, .null, .null, .null, .null, .null, .null, .null, .null] .null := Arv.set Ar23 qa23 Sa23 Na23 Ha23 Ga23 rfl W23 10 rfl (Nat.le_of_ble_eq_true rfl)
  replace KA := KA.wr W23 (Or.inl (List.mem_of_getElem? (i := 0) rfl))
  clear Ar23 qa23 Sa23 Na23 Ha23 Ga23 hin23
  replace k : own_K p.tables e below (s₁.setTop (entryFrame m #[(.int q)] maxLocals)) (T23.setTop (mkF m 76 #[.val (.int q), .unset, .unset, .unset, .unset, .unset] [(.ref b1)])) := fun t h => k t (st23 _ h)
  replace k : own_K p.tables e below (s₁.setTop (entryFrame m #[(.int q)] maxLocals)) (T23.setTop (mkF m 77 #[.val (.int q), .unset, .unset, .unset, .unset, .unset] [(.ref b1), (.ref b1)])) := fun t h => k t (XS.dup X23.here hx rfl (hb hby at_76) rfl rfl h)
  replace k : own_K p.tables e below (s₁.setTop (entryFrame m #[(.int q)] maxLocals)) (T23.setTop (mkF m 79 #[.val (.int q), .unset, .unset, .unset, .unset, .unset] [(.int (11 : Int32)), (.ref b1), (.ref b1)])) := fun t h => k t (XS.bipush X23.here hx rfl (hb hby at_77) h)
  obtain ⟨T24, X24, e24, st24⟩ := getS2 X23 hx hZ hown (host := "") (Or.inl (hw _ (List.mem_of_getElem? (i := 26) rfl))) Via.refl e23 (own_staKeep S11 KA (allS nsA all0)) (g := (mkF m 79 #[.val (.int q), .unset, .unset, .unset, .unset, .unset] [(.int (11 : Int32)), (.ref b1), (.ref b1)])) rfl (hb hby at_79)
  replace k : own_K p.tables e below (s₁.setTop (entryFrame m #[(.int q)] maxLocals)) (T24.setTop (mkF m 82 #[.val (.int q), .unset, .unset, .unset, .unset, .unset] [(.ref (a 11)), (.int (11 : Int32)), (.ref b1), (.ref b1)])) := fun t h => k t (st24 _ h)
  obtain ⟨cl25, Ar25, qa25, Sa25, Na25, Ha25, Ga25⟩ := V23
  have hin25 : ¬ ((11 : Int32) < 0 ∨ cl25.slots.size ≤ ((11 : Int32)).toNatClampNeg) := inb_of Sa25 ⟨by decide, by decide⟩
  obtain ⟨T25, h25, X25, e25, W25, st25⟩ := stR X24 hx hZ e24 Ar25 (j := (11 : Int32)) hin25 rfl (Sto.ofV Ar25 qa25 O1 (Ins.self ((EE1 11 (by omega)).keep KA))) (g := (mkF m 82 #[.val (.int q), .unset, .unset, .unset, .unset, .unset] [(.ref (a 11)), (.int (11 : Int32)), (.ref b1), (.ref b1)])) rfl rfl (hb hby at_82)
  have N25 := Fr.snoc X25 N23 ge_b1
  have V25 : Arv Z h25 b1 k1 (.object "com/example/vizsla/vizsla/core/DerivedQuery$Operator") (23 : Int32) [(.ref (a 0)), (.ref (a 1)), (.ref (a 2)), (.ref (a 3)), (.ref (a 4)), (.ref (a 5)), (.ref (a 6)), (.ref (a 7)), (.ref (a 8)), (.ref (a 9)), (.ref (a 10)), (.ref (a 11)), .null, .null, .null, .null, .null, .null, .null, .null, .null, .null, .null] .null := Arv.set Ar25 qa25 Sa25 Na25 Ha25 Ga25 rfl W25 11 rfl (Nat.le_of_ble_eq_true rfl)
  replace KA := KA.wr W25 (Or.inl (List.mem_of_getElem? (i := 0) rfl))
  clear Ar25 qa25 Sa25 Na25 Ha25 Ga25 hin25
  replace k : own_K p.tables e below (s₁.setTop (entryFrame m #[(.int q)] maxLocals)) (T25.setTop (mkF m 83 #[.val (.int q), .unset, .unset, .unset, .unset, .unset] [(.ref b1)])) := fun t h => k t (st25 _ h)
  replace k : own_K p.tables e below (s₁.setTop (entryFrame m #[(.int q)] maxLocals)) (T25.setTop (mkF m 84 #[.val (.int q), .unset, .unset, .unset, .unset, .unset] [(.ref b1), (.ref b1)])) := fun t h => k t (XS.dup X25.here hx rfl (hb hby at_83) rfl rfl h)
  replace k : own_K p.tables e below (s₁.setTop (entryFrame m #[(.int q)] maxLocals)) (T25.setTop (mkF m 86 #[.val (.int q), .unset, .unset, .unset, .unset, .unset] [(.int (12 : Int32)), (.ref b1), (.ref b1)])) := fun t h => k t (XS.bipush X25.here hx rfl (hb hby at_84) h)
  obtain ⟨T26, X26, e26, st26⟩ := getS2 X25 hx hZ hown (host := "") (Or.inl (hw _ (List.mem_of_getElem? (i := 28) rfl))) Via.refl e25 (own_staKeep S12 KA (allS nsA all0)) (g := (mkF m 86 #[.val (.int q), .unset, .unset, .unset, .unset, .unset] [(.int (12 : Int32)), (.ref b1), (.ref b1)])) rfl (hb hby at_86)
  replace k : own_K p.tables e below (s₁.setTop (entryFrame m #[(.int q)] maxLocals)) (T26.setTop (mkF m 89 #[.val (.int q), .unset, .unset, .unset, .unset, .unset] [(.ref (a 12)), (.int (12 : Int32)), (.ref b1), (.ref b1)])) := fun t h => k t (st26 _ h)
  obtain ⟨cl27, Ar27, qa27, Sa27, Na27, Ha27, Ga27⟩ := V25
  have hin27 : ¬ ((12 : Int32) < 0 ∨ cl27.slots.size ≤ ((12 : Int32)).toNatClampNeg) := inb_of Sa27 ⟨by decide, by decide⟩
  obtain ⟨T27, h27, X27, e27, W27, st27⟩ := stR X26 hx hZ e26 Ar27 (j := (12 : Int32)) hin27 rfl (Sto.ofV Ar27 qa27 O1 (Ins.self ((EE1 12 (by omega)).keep KA))) (g := (mkF m 89 #[.val (.int q), .unset, .unset, .unset, .unset, .unset] [(.ref (a 12)), (.int (12 : Int32)), (.ref b1), (.ref b1)])) rfl rfl (hb hby at_89)
  have N27 := Fr.snoc X27 N25 ge_b1
  have V27 : Arv Z h27 b1 k1 (.object "com/example/vizsla/vizsla/core/DerivedQuery$Operator") (23 : Int32) [(.ref (a 0)), (.ref (a 1)), (.ref (a 2)), (.ref (a 3)), (.ref (a 4)), (.ref (a 5)), (.ref (a 6)), (.ref (a 7)), (.ref (a 8)), (.ref (a 9)), (.ref (a 10)), (.ref (a 11)), (.ref (a 12)), .null, .null, .null, .null, .null, .null, .null, .null, .null, .null] .null := Arv.set Ar27 qa27 Sa27 Na27 Ha27 Ga27 rfl W27 12 rfl (Nat.le_of_ble_eq_true rfl)
  replace KA := KA.wr W27 (Or.inl (List.mem_of_getElem? (i := 0) rfl))
  clear Ar27 qa27 Sa27 Na27 Ha27 Ga27 hin27
  replace k : own_K p.tables e below (s₁.setTop (entryFrame m #[(.int q)] maxLocals)) (T27.setTop (mkF m 90 #[.val (.int q), .unset, .unset, .unset, .unset, .unset] [(.ref b1)])) := fun t h => k t (st27 _ h)
  replace k : own_K p.tables e below (s₁.setTop (entryFrame m #[(.int q)] maxLocals)) (T27.setTop (mkF m 91 #[.val (.int q), .unset, .unset, .unset, .unset, .unset] [(.ref b1), (.ref b1)])) := fun t h => k t (XS.dup X27.here hx rfl (hb hby at_90) rfl rfl h)
  replace k : own_K p.tables e below (s₁.setTop (entryFrame m #[(.int q)] maxLocals)) (T27.setTop (mkF m 93 #[.val (.int q), .unset, .unset, .unset, .unset, .unset] [(.int (13 : Int32)), (.ref b1), (.ref b1)])) := fun t h => k t (XS.bipush X27.here hx rfl (hb hby at_91) h)
  obtain ⟨T28, X28, e28, st28⟩ := getS2 X27 hx hZ hown (host := "") (Or.inl (hw _ (List.mem_of_getElem? (i := 30) rfl))) Via.refl e27 (own_staKeep S13 KA (allS nsA all0)) (g := (mkF m 93 #[.val (.int q), .unset, .unset, .unset, .unset, .unset] [(.int (13 : Int32)), (.ref b1), (.ref b1)])) rfl (hb hby at_93)
  replace k : own_K p.tables e below (s₁.setTop (entryFrame m #[(.int q)] maxLocals)) (T28.setTop (mkF m 96 #[.val (.int q), .unset, .unset, .unset, .unset, .unset] [(.ref (a 13)), (.int (13 : Int32)), (.ref b1), (.ref b1)])) := fun t h => k t (st28 _ h)
  obtain ⟨cl29, Ar29, qa29, Sa29, Na29, Ha29, Ga29⟩ := V27
  have hin29 : ¬ ((13 : Int32) < 0 ∨ cl29.slots.size ≤ ((13 : Int32)).toNatClampNeg) := inb_of Sa29 ⟨by decide, by decide⟩
  obtain ⟨T29, h29, X29, e29, W29, st29⟩ := stR X28 hx hZ e28 Ar29 (j := (13 : Int32)) hin29 rfl (Sto.ofV Ar29 qa29 O1 (Ins.self ((EE1 13 (by omega)).keep KA))) (g := (mkF m 96 #[.val (.int q), .unset, .unset, .unset, .unset, .unset] [(.ref (a 13)), (.int (13 : Int32)), (.ref b1), (.ref b1)])) rfl rfl (hb hby at_96)
  have N29 := Fr.snoc X29 N27 ge_b1
  have V29 : Arv Z h29 b1 k1 (.object "com/example/vizsla/vizsla/core/DerivedQuery$Operator") (23 : Int32) [(.ref (a 0)), (.ref (a 1)), (.ref (a 2)), (.ref (a 3)), (.ref (a 4)), (.ref (a 5)), (.ref (a 6)), (.ref (a 7)), (.ref (a 8)), (.ref (a 9)), (.ref (a 10)), (.ref (a 11)), (.ref (a 12)), (.ref (a 13)), .null, .null, .null, .null, .null, .null, .null, .null, .null] .null := Arv.set Ar29 qa29 Sa29 Na29 Ha29 Ga29 rfl W29 13 rfl (Nat.le_of_ble_eq_true rfl)
  replace KA := KA.wr W29 (Or.inl (List.mem_of_getElem? (i := 0) rfl))
  clear Ar29 qa29 Sa29 Na29 Ha29 Ga29 hin29
  replace k : own_K p.tables e below (s₁.setTop (entryFrame m #[(.int q)] maxLocals)) (T29.setTop (mkF m 97 #[.val (.int q), .unset, .unset, .unset, .unset, .unset] [(.ref b1)])) := fun t h => k t (st29 _ h)
  replace k : own_K p.tables e below (s₁.setTop (entryFrame m #[(.int q)] maxLocals)) (T29.setTop (mkF m 98 #[.val (.int q), .unset, .unset, .unset, .unset, .unset] [(.ref b1), (.ref b1)])) := fun t h => k t (XS.dup X29.here hx rfl (hb hby at_97) rfl rfl h)
  replace k : own_K p.tables e below (s₁.setTop (entryFrame m #[(.int q)] maxLocals)) (T29.setTop (mkF m 100 #[.val (.int q), .unset, .unset, .unset, .unset, .unset] [(.int (14 : Int32)), (.ref b1), (.ref b1)])) := fun t h => k t (XS.bipush X29.here hx rfl (hb hby at_98) h)
  obtain ⟨T30, X30, e30, st30⟩ := getS2 X29 hx hZ hown (host := "") (Or.inl (hw _ (List.mem_of_getElem? (i := 32) rfl))) Via.refl e29 (own_staKeep S14 KA (allS nsA all0)) (g := (mkF m 100 #[.val (.int q), .unset, .unset, .unset, .unset, .unset] [(.int (14 : Int32)), (.ref b1), (.ref b1)])) rfl (hb hby at_100)
  replace k : own_K p.tables e below (s₁.setTop (entryFrame m #[(.int q)] maxLocals)) (T30.setTop (mkF m 103 #[.val (.int q), .unset, .unset, .unset, .unset, .unset] [(.ref (a 14)), (.int (14 : Int32)), (.ref b1), (.ref b1)])) := fun t h => k t (st30 _ h)
  obtain ⟨cl31, Ar31, qa31, Sa31, Na31, Ha31, Ga31⟩ := V29
  have hin31 : ¬ ((14 : Int32) < 0 ∨ cl31.slots.size ≤ ((14 : Int32)).toNatClampNeg) := inb_of Sa31 ⟨by decide, by decide⟩
  obtain ⟨T31, h31, X31, e31, W31, st31⟩ := stR X30 hx hZ e30 Ar31 (j := (14 : Int32)) hin31 rfl (Sto.ofV Ar31 qa31 O1 (Ins.self ((EE1 14 (by omega)).keep KA))) (g := (mkF m 103 #[.val (.int q), .unset, .unset, .unset, .unset, .unset] [(.ref (a 14)), (.int (14 : Int32)), (.ref b1), (.ref b1)])) rfl rfl (hb hby at_103)
  have N31 := Fr.snoc X31 N29 ge_b1
  have V31 : Arv Z h31 b1 k1 (.object "com/example/vizsla/vizsla/core/DerivedQuery$Operator") (23 : Int32) [(.ref (a 0)), (.ref (a 1)), (.ref (a 2)), (.ref (a 3)), (.ref (a 4)), (.ref (a 5)), (.ref (a 6)), (.ref (a 7)), (.ref (a 8)), (.ref (a 9)), (.ref (a 10)), (.ref (a 11)), (.ref (a 12)), (.ref (a 13)), (.ref (a 14)), .null, .null, .null, .null, .null, .null, .null, .null] .null := Arv.set Ar31 qa31 Sa31 Na31 Ha31 Ga31 rfl W31 14 rfl (Nat.le_of_ble_eq_true rfl)
  replace KA := KA.wr W31 (Or.inl (List.mem_of_getElem? (i := 0) rfl))
  clear Ar31 qa31 Sa31 Na31 Ha31 Ga31 hin31
  replace k : own_K p.tables e below (s₁.setTop (entryFrame m #[(.int q)] maxLocals)) (T31.setTop (mkF m 104 #[.val (.int q), .unset, .unset, .unset, .unset, .unset] [(.ref b1)])) := fun t h => k t (st31 _ h)
  replace k : own_K p.tables e below (s₁.setTop (entryFrame m #[(.int q)] maxLocals)) (T31.setTop (mkF m 105 #[.val (.int q), .unset, .unset, .unset, .unset, .unset] [(.ref b1), (.ref b1)])) := fun t h => k t (XS.dup X31.here hx rfl (hb hby at_104) rfl rfl h)
  replace k : own_K p.tables e below (s₁.setTop (entryFrame m #[(.int q)] maxLocals)) (T31.setTop (mkF m 107 #[.val (.int q), .unset, .unset, .unset, .unset, .unset] [(.int (15 : Int32)), (.ref b1), (.ref b1)])) := fun t h => k t (XS.bipush X31.here hx rfl (hb hby at_105) h)
  obtain ⟨T32, X32, e32, st32⟩ := getS2 X31 hx hZ hown (host := "") (Or.inl (hw _ (List.mem_of_getElem? (i := 34) rfl))) Via.refl e31 (own_staKeep S15 KA (allS nsA all0)) (g := (mkF m 107 #[.val (.int q), .unset, .unset, .unset, .unset, .unset] [(.int (15 : Int32)), (.ref b1), (.ref b1)])) rfl (hb hby at_107)
  replace k : own_K p.tables e below (s₁.setTop (entryFrame m #[(.int q)] maxLocals)) (T32.setTop (mkF m 110 #[.val (.int q), .unset, .unset, .unset, .unset, .unset] [(.ref (a 15)), (.int (15 : Int32)), (.ref b1), (.ref b1)])) := fun t h => k t (st32 _ h)
  obtain ⟨cl33, Ar33, qa33, Sa33, Na33, Ha33, Ga33⟩ := V31
  have hin33 : ¬ ((15 : Int32) < 0 ∨ cl33.slots.size ≤ ((15 : Int32)).toNatClampNeg) := inb_of Sa33 ⟨by decide, by decide⟩
  obtain ⟨T33, h33, X33, e33, W33, st33⟩ := stR X32 hx hZ e32 Ar33 (j := (15 : Int32)) hin33 rfl (Sto.ofV Ar33 qa33 O1 (Ins.self ((EE1 15 (by omega)).keep KA))) (g := (mkF m 110 #[.val (.int q), .unset, .unset, .unset, .unset, .unset] [(.ref (a 15)), (.int (15 : Int32)), (.ref b1), (.ref b1)])) rfl rfl (hb hby at_110)
  have N33 := Fr.snoc X33 N31 ge_b1
  have V33 : Arv Z h33 b1 k1 (.object "com/example/vizsla/vizsla/core/DerivedQuery$Operator") (23 : Int32) [(.ref (a 0)), (.ref (a 1)), (.ref (a 2)), (.ref (a 3)), (.ref (a 4)), (.ref (a 5)), (.ref (a 6)), (.ref (a 7)), (.ref (a 8)), (.ref (a 9)), (.ref (a 10)), (.ref (a 11)), (.ref (a 12)), (.ref (a 13)), (.ref (a 14)), (.ref (a 15)), .null, .null, .null, .null, .null, .null, .null] .null := Arv.set Ar33 qa33 Sa33 Na33 Ha33 Ga33 rfl W33 15 rfl (Nat.le_of_ble_eq_true rfl)
  replace KA := KA.wr W33 (Or.inl (List.mem_of_getElem? (i := 0) rfl))
  clear Ar33 qa33 Sa33 Na33 Ha33 Ga33 hin33
  replace k : own_K p.tables e below (s₁.setTop (entryFrame m #[(.int q)] maxLocals)) (T33.setTop (mkF m 111 #[.val (.int q), .unset, .unset, .unset, .unset, .unset] [(.ref b1)])) := fun t h => k t (st33 _ h)
  replace k : own_K p.tables e below (s₁.setTop (entryFrame m #[(.int q)] maxLocals)) (T33.setTop (mkF m 112 #[.val (.int q), .unset, .unset, .unset, .unset, .unset] [(.ref b1), (.ref b1)])) := fun t h => k t (XS.dup X33.here hx rfl (hb hby at_111) rfl rfl h)
  replace k : own_K p.tables e below (s₁.setTop (entryFrame m #[(.int q)] maxLocals)) (T33.setTop (mkF m 114 #[.val (.int q), .unset, .unset, .unset, .unset, .unset] [(.int (16 : Int32)), (.ref b1), (.ref b1)])) := fun t h => k t (XS.bipush X33.here hx rfl (hb hby at_112) h)
  obtain ⟨T34, X34, e34, st34⟩ := getS2 X33 hx hZ hown (host := "") (Or.inl (hw _ (List.mem_of_getElem? (i := 36) rfl))) Via.refl e33 (own_staKeep S16 KA (allS nsA all0)) (g := (mkF m 114 #[.val (.int q), .unset, .unset, .unset, .unset, .unset] [(.int (16 : Int32)), (.ref b1), (.ref b1)])) rfl (hb hby at_114)
  replace k : own_K p.tables e below (s₁.setTop (entryFrame m #[(.int q)] maxLocals)) (T34.setTop (mkF m 117 #[.val (.int q), .unset, .unset, .unset, .unset, .unset] [(.ref (a 16)), (.int (16 : Int32)), (.ref b1), (.ref b1)])) := fun t h => k t (st34 _ h)
  obtain ⟨cl35, Ar35, qa35, Sa35, Na35, Ha35, Ga35⟩ := V33
  have hin35 : ¬ ((16 : Int32) < 0 ∨ cl35.slots.size ≤ ((16 : Int32)).toNatClampNeg) := inb_of Sa35 ⟨by decide, by decide⟩
  obtain ⟨T35, h35, X35, e35, W35, st35⟩ := stR X34 hx hZ e34 Ar35 (j := (16 : Int32)) hin35 rfl (Sto.ofV Ar35 qa35 O1 (Ins.self ((EE1 16 (by omega)).keep KA))) (g := (mkF m 117 #[.val (.int q), .unset, .unset, .unset, .unset, .unset] [(.ref (a 16)), (.int (16 : Int32)), (.ref b1), (.ref b1)])) rfl rfl (hb hby at_117)
  have N35 := Fr.snoc X35 N33 ge_b1
  have V35 : Arv Z h35 b1 k1 (.object "com/example/vizsla/vizsla/core/DerivedQuery$Operator") (23 : Int32) [(.ref (a 0)), (.ref (a 1)), (.ref (a 2)), (.ref (a 3)), (.ref (a 4)), (.ref (a 5)), (.ref (a 6)), (.ref (a 7)), (.ref (a 8)), (.ref (a 9)), (.ref (a 10)), (.ref (a 11)), (.ref (a 12)), (.ref (a 13)), (.ref (a 14)), (.ref (a 15)), (.ref (a 16)), .null, .null, .null, .null, .null, .null] .null := Arv.set Ar35 qa35 Sa35 Na35 Ha35 Ga35 rfl W35 16 rfl (Nat.le_of_ble_eq_true rfl)
  replace KA := KA.wr W35 (Or.inl (List.mem_of_getElem? (i := 0) rfl))
  clear Ar35 qa35 Sa35 Na35 Ha35 Ga35 hin35
  replace k : own_K p.tables e below (s₁.setTop (entryFrame m #[(.int q)] maxLocals)) (T35.setTop (mkF m 118 #[.val (.int q), .unset, .unset, .unset, .unset, .unset] [(.ref b1)])) := fun t h => k t (st35 _ h)
  replace k : own_K p.tables e below (s₁.setTop (entryFrame m #[(.int q)] maxLocals)) (T35.setTop (mkF m 119 #[.val (.int q), .unset, .unset, .unset, .unset, .unset] [(.ref b1), (.ref b1)])) := fun t h => k t (XS.dup X35.here hx rfl (hb hby at_118) rfl rfl h)
  replace k : own_K p.tables e below (s₁.setTop (entryFrame m #[(.int q)] maxLocals)) (T35.setTop (mkF m 121 #[.val (.int q), .unset, .unset, .unset, .unset, .unset] [(.int (17 : Int32)), (.ref b1), (.ref b1)])) := fun t h => k t (XS.bipush X35.here hx rfl (hb hby at_119) h)
  obtain ⟨T36, X36, e36, st36⟩ := getS2 X35 hx hZ hown (host := "") (Or.inl (hw _ (List.mem_of_getElem? (i := 38) rfl))) Via.refl e35 (own_staKeep S17 KA (allS nsA all0)) (g := (mkF m 121 #[.val (.int q), .unset, .unset, .unset, .unset, .unset] [(.int (17 : Int32)), (.ref b1), (.ref b1)])) rfl (hb hby at_121)
  replace k : own_K p.tables e below (s₁.setTop (entryFrame m #[(.int q)] maxLocals)) (T36.setTop (mkF m 124 #[.val (.int q), .unset, .unset, .unset, .unset, .unset] [(.ref (a 17)), (.int (17 : Int32)), (.ref b1), (.ref b1)])) := fun t h => k t (st36 _ h)
  obtain ⟨cl37, Ar37, qa37, Sa37, Na37, Ha37, Ga37⟩ := V35
  have hin37 : ¬ ((17 : Int32) < 0 ∨ cl37.slots.size ≤ ((17 : Int32)).toNatClampNeg) := inb_of Sa37 ⟨by decide, by decide⟩
  obtain ⟨T37, h37, X37, e37, W37, st37⟩ := stR X36 hx hZ e36 Ar37 (j := (17 : Int32)) hin37 rfl (Sto.ofV Ar37 qa37 O1 (Ins.self ((EE1 17 (by omega)).keep KA))) (g := (mkF m 124 #[.val (.int q), .unset, .unset, .unset, .unset, .unset] [(.ref (a 17)), (.int (17 : Int32)), (.ref b1), (.ref b1)])) rfl rfl (hb hby at_124)
  have N37 := Fr.snoc X37 N35 ge_b1
  have V37 : Arv Z h37 b1 k1 (.object "com/example/vizsla/vizsla/core/DerivedQuery$Operator") (23 : Int32) [(.ref (a 0)), (.ref (a 1)), (.ref (a 2)), (.ref (a 3)), (.ref (a 4)), (.ref (a 5)), (.ref (a 6)), (.ref (a 7)), (.ref (a 8)), (.ref (a 9)), (.ref (a 10)), (.ref (a 11)), (.ref (a 12)), (.ref (a 13)), (.ref (a 14)), (.ref (a 15)), (.ref (a 16)), (.ref (a 17)), .null, .null, .null, .null, .null] .null := Arv.set Ar37 qa37 Sa37 Na37 Ha37 Ga37 rfl W37 17 rfl (Nat.le_of_ble_eq_true rfl)
  replace KA := KA.wr W37 (Or.inl (List.mem_of_getElem? (i := 0) rfl))
  clear Ar37 qa37 Sa37 Na37 Ha37 Ga37 hin37
  replace k : own_K p.tables e below (s₁.setTop (entryFrame m #[(.int q)] maxLocals)) (T37.setTop (mkF m 125 #[.val (.int q), .unset, .unset, .unset, .unset, .unset] [(.ref b1)])) := fun t h => k t (st37 _ h)
  replace k : own_K p.tables e below (s₁.setTop (entryFrame m #[(.int q)] maxLocals)) (T37.setTop (mkF m 126 #[.val (.int q), .unset, .unset, .unset, .unset, .unset] [(.ref b1), (.ref b1)])) := fun t h => k t (XS.dup X37.here hx rfl (hb hby at_125) rfl rfl h)
  replace k : own_K p.tables e below (s₁.setTop (entryFrame m #[(.int q)] maxLocals)) (T37.setTop (mkF m 128 #[.val (.int q), .unset, .unset, .unset, .unset, .unset] [(.int (18 : Int32)), (.ref b1), (.ref b1)])) := fun t h => k t (XS.bipush X37.here hx rfl (hb hby at_126) h)
  obtain ⟨T38, X38, e38, st38⟩ := getS2 X37 hx hZ hown (host := "") (Or.inl (hw _ (List.mem_of_getElem? (i := 40) rfl))) Via.refl e37 (own_staKeep S18 KA (allS nsA all0)) (g := (mkF m 128 #[.val (.int q), .unset, .unset, .unset, .unset, .unset] [(.int (18 : Int32)), (.ref b1), (.ref b1)])) rfl (hb hby at_128)
  replace k : own_K p.tables e below (s₁.setTop (entryFrame m #[(.int q)] maxLocals)) (T38.setTop (mkF m 131 #[.val (.int q), .unset, .unset, .unset, .unset, .unset] [(.ref (a 18)), (.int (18 : Int32)), (.ref b1), (.ref b1)])) := fun t h => k t (st38 _ h)
  obtain ⟨cl39, Ar39, qa39, Sa39, Na39, Ha39, Ga39⟩ := V37
  have hin39 : ¬ ((18 : Int32) < 0 ∨ cl39.slots.size ≤ ((18 : Int32)).toNatClampNeg) := inb_of Sa39 ⟨by decide, by decide⟩
  obtain ⟨T39, h39, X39, e39, W39, st39⟩ := stR X38 hx hZ e38 Ar39 (j := (18 : Int32)) hin39 rfl (Sto.ofV Ar39 qa39 O1 (Ins.self ((EE1 18 (by omega)).keep KA))) (g := (mkF m 131 #[.val (.int q), .unset, .unset, .unset, .unset, .unset] [(.ref (a 18)), (.int (18 : Int32)), (.ref b1), (.ref b1)])) rfl rfl (hb hby at_131)
  have N39 := Fr.snoc X39 N37 ge_b1
  have V39 : Arv Z h39 b1 k1 (.object "com/example/vizsla/vizsla/core/DerivedQuery$Operator") (23 : Int32) [(.ref (a 0)), (.ref (a 1)), (.ref (a 2)), (.ref (a 3)), (.ref (a 4)), (.ref (a 5)), (.ref (a 6)), (.ref (a 7)), (.ref (a 8)), (.ref (a 9)), (.ref (a 10)), (.ref (a 11)), (.ref (a 12)), (.ref (a 13)), (.ref (a 14)), (.ref (a 15)), (.ref (a 16)), (.ref (a 17)), (.ref (a 18)), .null, .null, .null, .null] .null := Arv.set Ar39 qa39 Sa39 Na39 Ha39 Ga39 rfl W39 18 rfl (Nat.le_of_ble_eq_true rfl)
  replace KA := KA.wr W39 (Or.inl (List.mem_of_getElem? (i := 0) rfl))
  clear Ar39 qa39 Sa39 Na39 Ha39 Ga39 hin39
  replace k : own_K p.tables e below (s₁.setTop (entryFrame m #[(.int q)] maxLocals)) (T39.setTop (mkF m 132 #[.val (.int q), .unset, .unset, .unset, .unset, .unset] [(.ref b1)])) := fun t h => k t (st39 _ h)
  replace k : own_K p.tables e below (s₁.setTop (entryFrame m #[(.int q)] maxLocals)) (T39.setTop (mkF m 133 #[.val (.int q), .unset, .unset, .unset, .unset, .unset] [(.ref b1), (.ref b1)])) := fun t h => k t (XS.dup X39.here hx rfl (hb hby at_132) rfl rfl h)
  replace k : own_K p.tables e below (s₁.setTop (entryFrame m #[(.int q)] maxLocals)) (T39.setTop (mkF m 135 #[.val (.int q), .unset, .unset, .unset, .unset, .unset] [(.int (19 : Int32)), (.ref b1), (.ref b1)])) := fun t h => k t (XS.bipush X39.here hx rfl (hb hby at_133) h)
  obtain ⟨T40, X40, e40, st40⟩ := getS2 X39 hx hZ hown (host := "") (Or.inl (hw _ (List.mem_of_getElem? (i := 42) rfl))) Via.refl e39 (own_staKeep S19 KA (allS nsA all0)) (g := (mkF m 135 #[.val (.int q), .unset, .unset, .unset, .unset, .unset] [(.int (19 : Int32)), (.ref b1), (.ref b1)])) rfl (hb hby at_135)
  replace k : own_K p.tables e below (s₁.setTop (entryFrame m #[(.int q)] maxLocals)) (T40.setTop (mkF m 138 #[.val (.int q), .unset, .unset, .unset, .unset, .unset] [(.ref (a 19)), (.int (19 : Int32)), (.ref b1), (.ref b1)])) := fun t h => k t (st40 _ h)
  obtain ⟨cl41, Ar41, qa41, Sa41, Na41, Ha41, Ga41⟩ := V39
  have hin41 : ¬ ((19 : Int32) < 0 ∨ cl41.slots.size ≤ ((19 : Int32)).toNatClampNeg) := inb_of Sa41 ⟨by decide, by decide⟩
  obtain ⟨T41, h41, X41, e41, W41, st41⟩ := stR X40 hx hZ e40 Ar41 (j := (19 : Int32)) hin41 rfl (Sto.ofV Ar41 qa41 O1 (Ins.self ((EE1 19 (by omega)).keep KA))) (g := (mkF m 138 #[.val (.int q), .unset, .unset, .unset, .unset, .unset] [(.ref (a 19)), (.int (19 : Int32)), (.ref b1), (.ref b1)])) rfl rfl (hb hby at_138)
  have N41 := Fr.snoc X41 N39 ge_b1
  have V41 : Arv Z h41 b1 k1 (.object "com/example/vizsla/vizsla/core/DerivedQuery$Operator") (23 : Int32) [(.ref (a 0)), (.ref (a 1)), (.ref (a 2)), (.ref (a 3)), (.ref (a 4)), (.ref (a 5)), (.ref (a 6)), (.ref (a 7)), (.ref (a 8)), (.ref (a 9)), (.ref (a 10)), (.ref (a 11)), (.ref (a 12)), (.ref (a 13)), (.ref (a 14)), (.ref (a 15)), (.ref (a 16)), (.ref (a 17)), (.ref (a 18)), (.ref (a 19)), .null, .null, .null] .null := Arv.set Ar41 qa41 Sa41 Na41 Ha41 Ga41 rfl W41 19 rfl (Nat.le_of_ble_eq_true rfl)
  replace KA := KA.wr W41 (Or.inl (List.mem_of_getElem? (i := 0) rfl))
  clear Ar41 qa41 Sa41 Na41 Ha41 Ga41 hin41
  replace k : own_K p.tables e below (s₁.setTop (entryFrame m #[(.int q)] maxLocals)) (T41.setTop (mkF m 139 #[.val (.int q), .unset, .unset, .unset, .unset, .unset] [(.ref b1)])) := fun t h => k t (st41 _ h)
  replace k : own_K p.tables e below (s₁.setTop (entryFrame m #[(.int q)] maxLocals)) (T41.setTop (mkF m 140 #[.val (.int q), .unset, .unset, .unset, .unset, .unset] [(.ref b1), (.ref b1)])) := fun t h => k t (XS.dup X41.here hx rfl (hb hby at_139) rfl rfl h)
  replace k : own_K p.tables e below (s₁.setTop (entryFrame m #[(.int q)] maxLocals)) (T41.setTop (mkF m 142 #[.val (.int q), .unset, .unset, .unset, .unset, .unset] [(.int (20 : Int32)), (.ref b1), (.ref b1)])) := fun t h => k t (XS.bipush X41.here hx rfl (hb hby at_140) h)
  obtain ⟨T42, X42, e42, st42⟩ := getS2 X41 hx hZ hown (host := "") (Or.inl (hw _ (List.mem_of_getElem? (i := 44) rfl))) Via.refl e41 (own_staKeep S20 KA (allS nsA all0)) (g := (mkF m 142 #[.val (.int q), .unset, .unset, .unset, .unset, .unset] [(.int (20 : Int32)), (.ref b1), (.ref b1)])) rfl (hb hby at_142)
  replace k : own_K p.tables e below (s₁.setTop (entryFrame m #[(.int q)] maxLocals)) (T42.setTop (mkF m 145 #[.val (.int q), .unset, .unset, .unset, .unset, .unset] [(.ref (a 20)), (.int (20 : Int32)), (.ref b1), (.ref b1)])) := fun t h => k t (st42 _ h)
  obtain ⟨cl43, Ar43, qa43, Sa43, Na43, Ha43, Ga43⟩ := V41
  have hin43 : ¬ ((20 : Int32) < 0 ∨ cl43.slots.size ≤ ((20 : Int32)).toNatClampNeg) := inb_of Sa43 ⟨by decide, by decide⟩
  obtain ⟨T43, h43, X43, e43, W43, st43⟩ := stR X42 hx hZ e42 Ar43 (j := (20 : Int32)) hin43 rfl (Sto.ofV Ar43 qa43 O1 (Ins.self ((EE1 20 (by omega)).keep KA))) (g := (mkF m 145 #[.val (.int q), .unset, .unset, .unset, .unset, .unset] [(.ref (a 20)), (.int (20 : Int32)), (.ref b1), (.ref b1)])) rfl rfl (hb hby at_145)
  have N43 := Fr.snoc X43 N41 ge_b1
  have V43 : Arv Z h43 b1 k1 (.object "com/example/vizsla/vizsla/core/DerivedQuery$Operator") (23 : Int32) [(.ref (a 0)), (.ref (a 1)), (.ref (a 2)), (.ref (a 3)), (.ref (a 4)), (.ref (a 5)), (.ref (a 6)), (.ref (a 7)), (.ref (a 8)), (.ref (a 9)), (.ref (a 10)), (.ref (a 11)), (.ref (a 12)), (.ref (a 13)), (.ref (a 14)), (.ref (a 15)), (.ref (a 16)), (.ref (a 17)), (.ref (a 18)), (.ref (a 19)), (.ref (a 20)), .null, .null] .null := Arv.set Ar43 qa43 Sa43 Na43 Ha43 Ga43 rfl W43 20 rfl (Nat.le_of_ble_eq_true rfl)
  replace KA := KA.wr W43 (Or.inl (List.mem_of_getElem? (i := 0) rfl))
  clear Ar43 qa43 Sa43 Na43 Ha43 Ga43 hin43
  replace k : own_K p.tables e below (s₁.setTop (entryFrame m #[(.int q)] maxLocals)) (T43.setTop (mkF m 146 #[.val (.int q), .unset, .unset, .unset, .unset, .unset] [(.ref b1)])) := fun t h => k t (st43 _ h)
  replace k : own_K p.tables e below (s₁.setTop (entryFrame m #[(.int q)] maxLocals)) (T43.setTop (mkF m 147 #[.val (.int q), .unset, .unset, .unset, .unset, .unset] [(.ref b1), (.ref b1)])) := fun t h => k t (XS.dup X43.here hx rfl (hb hby at_146) rfl rfl h)
  replace k : own_K p.tables e below (s₁.setTop (entryFrame m #[(.int q)] maxLocals)) (T43.setTop (mkF m 149 #[.val (.int q), .unset, .unset, .unset, .unset, .unset] [(.int (21 : Int32)), (.ref b1), (.ref b1)])) := fun t h => k t (XS.bipush X43.here hx rfl (hb hby at_147) h)
  obtain ⟨T44, X44, e44, st44⟩ := getS2 X43 hx hZ hown (host := "") (Or.inl (hw _ (List.mem_of_getElem? (i := 46) rfl))) Via.refl e43 (own_staKeep S21 KA (allS nsA all0)) (g := (mkF m 149 #[.val (.int q), .unset, .unset, .unset, .unset, .unset] [(.int (21 : Int32)), (.ref b1), (.ref b1)])) rfl (hb hby at_149)
  replace k : own_K p.tables e below (s₁.setTop (entryFrame m #[(.int q)] maxLocals)) (T44.setTop (mkF m 152 #[.val (.int q), .unset, .unset, .unset, .unset, .unset] [(.ref (a 21)), (.int (21 : Int32)), (.ref b1), (.ref b1)])) := fun t h => k t (st44 _ h)
  obtain ⟨cl45, Ar45, qa45, Sa45, Na45, Ha45, Ga45⟩ := V43
  have hin45 : ¬ ((21 : Int32) < 0 ∨ cl45.slots.size ≤ ((21 : Int32)).toNatClampNeg) := inb_of Sa45 ⟨by decide, by decide⟩
  obtain ⟨T45, h45, X45, e45, W45, st45⟩ := stR X44 hx hZ e44 Ar45 (j := (21 : Int32)) hin45 rfl (Sto.ofV Ar45 qa45 O1 (Ins.self ((EE1 21 (by omega)).keep KA))) (g := (mkF m 152 #[.val (.int q), .unset, .unset, .unset, .unset, .unset] [(.ref (a 21)), (.int (21 : Int32)), (.ref b1), (.ref b1)])) rfl rfl (hb hby at_152)
  have N45 := Fr.snoc X45 N43 ge_b1
  have V45 : Arv Z h45 b1 k1 (.object "com/example/vizsla/vizsla/core/DerivedQuery$Operator") (23 : Int32) [(.ref (a 0)), (.ref (a 1)), (.ref (a 2)), (.ref (a 3)), (.ref (a 4)), (.ref (a 5)), (.ref (a 6)), (.ref (a 7)), (.ref (a 8)), (.ref (a 9)), (.ref (a 10)), (.ref (a 11)), (.ref (a 12)), (.ref (a 13)), (.ref (a 14)), (.ref (a 15)), (.ref (a 16)), (.ref (a 17)), (.ref (a 18)), (.ref (a 19)), (.ref (a 20)), (.ref (a 21)), .null] .null := Arv.set Ar45 qa45 Sa45 Na45 Ha45 Ga45 rfl W45 21 rfl (Nat.le_of_ble_eq_true rfl)
  replace KA := KA.wr W45 (Or.inl (List.mem_of_getElem? (i := 0) rfl))
  clear Ar45 qa45 Sa45 Na45 Ha45 Ga45 hin45
  replace k : own_K p.tables e below (s₁.setTop (entryFrame m #[(.int q)] maxLocals)) (T45.setTop (mkF m 153 #[.val (.int q), .unset, .unset, .unset, .unset, .unset] [(.ref b1)])) := fun t h => k t (st45 _ h)
  replace k : own_K p.tables e below (s₁.setTop (entryFrame m #[(.int q)] maxLocals)) (T45.setTop (mkF m 154 #[.val (.int q), .unset, .unset, .unset, .unset, .unset] [(.ref b1), (.ref b1)])) := fun t h => k t (XS.dup X45.here hx rfl (hb hby at_153) rfl rfl h)
  replace k : own_K p.tables e below (s₁.setTop (entryFrame m #[(.int q)] maxLocals)) (T45.setTop (mkF m 156 #[.val (.int q), .unset, .unset, .unset, .unset, .unset] [(.int (22 : Int32)), (.ref b1), (.ref b1)])) := fun t h => k t (XS.bipush X45.here hx rfl (hb hby at_154) h)
  obtain ⟨T46, X46, e46, st46⟩ := getS2 X45 hx hZ hown (host := "") (Or.inl (hw _ (List.mem_of_getElem? (i := 48) rfl))) Via.refl e45 (own_staKeep S22 KA (allS nsA all0)) (g := (mkF m 156 #[.val (.int q), .unset, .unset, .unset, .unset, .unset] [(.int (22 : Int32)), (.ref b1), (.ref b1)])) rfl (hb hby at_156)
  replace k : own_K p.tables e below (s₁.setTop (entryFrame m #[(.int q)] maxLocals)) (T46.setTop (mkF m 159 #[.val (.int q), .unset, .unset, .unset, .unset, .unset] [(.ref (a 22)), (.int (22 : Int32)), (.ref b1), (.ref b1)])) := fun t h => k t (st46 _ h)
  obtain ⟨cl47, Ar47, qa47, Sa47, Na47, Ha47, Ga47⟩ := V45
  have hin47 : ¬ ((22 : Int32) < 0 ∨ cl47.slots.size ≤ ((22 : Int32)).toNatClampNeg) := inb_of Sa47 ⟨by decide, by decide⟩
  obtain ⟨T47, h47, X47, e47, W47, st47⟩ := stR X46 hx hZ e46 Ar47 (j := (22 : Int32)) hin47 rfl (Sto.ofV Ar47 qa47 O1 (Ins.self ((EE1 22 (by omega)).keep KA))) (g := (mkF m 159 #[.val (.int q), .unset, .unset, .unset, .unset, .unset] [(.ref (a 22)), (.int (22 : Int32)), (.ref b1), (.ref b1)])) rfl rfl (hb hby at_159)
  have N47 := Fr.snoc X47 N45 ge_b1
  have V47 : Arv Z h47 b1 k1 (.object "com/example/vizsla/vizsla/core/DerivedQuery$Operator") (23 : Int32) [(.ref (a 0)), (.ref (a 1)), (.ref (a 2)), (.ref (a 3)), (.ref (a 4)), (.ref (a 5)), (.ref (a 6)), (.ref (a 7)), (.ref (a 8)), (.ref (a 9)), (.ref (a 10)), (.ref (a 11)), (.ref (a 12)), (.ref (a 13)), (.ref (a 14)), (.ref (a 15)), (.ref (a 16)), (.ref (a 17)), (.ref (a 18)), (.ref (a 19)), (.ref (a 20)), (.ref (a 21)), (.ref (a 22))] .null := Arv.set Ar47 qa47 Sa47 Na47 Ha47 Ga47 rfl W47 22 rfl (Nat.le_of_ble_eq_true rfl)
  replace KA := KA.wr W47 (Or.inl (List.mem_of_getElem? (i := 0) rfl))
  clear Ar47 qa47 Sa47 Na47 Ha47 Ga47 hin47
  replace k : own_K p.tables e below (s₁.setTop (entryFrame m #[(.int q)] maxLocals)) (T47.setTop (mkF m 160 #[.val (.int q), .unset, .unset, .unset, .unset, .unset] [(.ref b1)])) := fun t h => k t (st47 _ h)
  replace k : own_K p.tables e below (s₁.setTop (entryFrame m #[(.int q)] maxLocals)) (T47.setTop (mkF m 161 #[.val (.int q), .val (.ref b1), .unset, .unset, .unset, .unset] [])) := fun t h => k t (XS.astoreN X47.here hx rfl (hb hby at_160) rfl rfl (l' := #[.val (.int q), .val (.ref b1), .unset, .unset, .unset, .unset]) rfl h)
  replace k : own_K p.tables e below (s₁.setTop (entryFrame m #[(.int q)] maxLocals)) (T47.setTop (mkF m 162 #[.val (.int q), .val (.ref b1), .unset, .unset, .unset, .unset] [(.int q)])) := fun t h => k t (XS.iloadN X47.here hx rfl (hb hby at_161) rfl h)
  replace k : own_K p.tables e below (s₁.setTop (entryFrame m #[(.int q)] maxLocals)) (T47.setTop (mkF m 164 #[.val (.int q), .val (.ref b1), .unset, .unset, .unset, .unset] [(.int (2147483647 : Int32)), (.int q)])) := fun t h => k t (X47.ldcInt hx hown (mvT hZ (hw _ (List.mem_of_getElem? (i := 50) rfl))) (g := (mkF m 162 #[.val (.int q), .val (.ref b1), .unset, .unset, .unset, .unset] [(.int q)])) rfl (hb hby at_162) _ h)
  replace k : own_K p.tables e below (s₁.setTop (entryFrame m #[(.int q)] maxLocals)) (T47.setTop (mkF m 165 #[.val (.int q), .val (.ref b1), .unset, .unset, .unset, .unset] [(.int (q &&& (2147483647 : Int32)))])) := fun t h => k t (XS.iand X47.here hx rfl (hb hby at_164) rfl h)
  replace k : own_K p.tables e below (s₁.setTop (entryFrame m #[(.int q)] maxLocals)) (T47.setTop (mkF m 167 #[.val (.int q), .val (.ref b1), .unset, .unset, .unset, .unset] [(.int (23 : Int32)), (.int (q &&& (2147483647 : Int32)))])) := fun t h => k t (XS.bipush X47.here hx rfl (hb hby at_165) h)
  replace k : own_K p.tables e below (s₁.setTop (entryFrame m #[(.int q)] maxLocals)) (T47.setTop (mkF m 168 #[.val (.int q), .val (.ref b1), .unset, .unset, .unset, .unset] [(.int ((q &&& (2147483647 : Int32)) % (23 : Int32)))])) := fun t h => k t (iremM X47 hx rfl (hb hby at_167) rfl (by decide) h)
  obtain ⟨ii, hii⟩ : ∃ z, z = ((q &&& (2147483647 : Int32)) % (23 : Int32)) := ⟨_, rfl⟩
  rw [← hii] at k
  obtain ⟨hi0, hi1⟩ := own_rng q
  rw [← hii] at hi0 hi1
  obtain ⟨nn, hnn⟩ : ∃ z, z = ii.toNatClampNeg := ⟨_, rfl⟩
  have hni : ii.toInt = (nn : Int) := by rw [hnn]; exact nat_of hi0
  have hn1 : nn < 23 := by
    have t1 : (23 : Int32).toInt = 23 := by decide
    rw [Int32.lt_iff_toInt_lt] at hi1
    omega
  replace k : own_K p.tables e below (s₁.setTop (entryFrame m #[(.int q)] maxLocals)) (T47.setTop (mkF m 169 #[.val (.int q), .val (.ref b1), .val (.int ii), .unset, .unset, .unset] [])) := fun t h => k t (XS.istoreN X47.here hx rfl (hb hby at_168) rfl (l' := #[.val (.int q), .val (.ref b1), .val (.int ii), .unset, .unset, .unset]) rfl h)
  replace k : own_K p.tables e below (s₁.setTop (entryFrame m #[(.int q)] maxLocals)) (T47.setTop (mkF m 170 #[.val (.int q), .val (.ref b1), .val (.int ii), .unset, .unset, .unset] [(.ref b1)])) := fun t h => k t (XS.aloadN X47.here hx rfl (hb hby at_169) rfl rfl h)
  replace k : own_K p.tables e below (s₁.setTop (entryFrame m #[(.int q)] maxLocals)) (T47.setTop (mkF m 171 #[.val (.int q), .val (.ref b1), .val (.int ii), .unset, .unset, .unset] [(.int ii), (.ref b1)])) := fun t h => k t (XS.iloadN X47.here hx rfl (hb hby at_170) rfl h)
  obtain ⟨cl48, Ar48, qa48, Sa48, Na48, Ha48, Ga48⟩ := V47
  have hin48 : ¬ (ii < 0 ∨ cl48.slots.size ≤ (ii).toNatClampNeg) := inb_of Sa48 ⟨hi0, hi1⟩
  have hat48 := Has.at (v := (.ref (a nn))) Ha48 hin48 (by rw [hnn]; exact own_get a (by rw [← hnn]; exact hn1))
  replace k : own_K p.tables e below (s₁.setTop (entryFrame m #[(.int q)] maxLocals)) (T47.setTop (mkF m 172 #[.val (.int q), .val (.ref b1), .val (.int ii), .unset, .unset, .unset] [(.ref (a nn))])) := fun t h => k t (X47.aaload hx (j := ii) (v := (.ref (a nn))) (by rw [e47]; exact Ar48.1) (State.isArrayOf_alike hZ.alike Ar48.2.1) rfl Ar48.2.2 hin48 hat48 (g := (mkF m 171 #[.val (.int q), .val (.ref b1), .val (.int ii), .unset, .unset, .unset] [(.int ii), (.ref b1)])) rfl rfl (hb hby at_171) _ h)
  replace k : own_K p.tables e below (s₁.setTop (entryFrame m #[(.int q)] maxLocals)) (T47.setTop (mkF m 173 #[.val (.int q), .val (.ref b1), .val (.int ii), .val (.ref (a nn)), .unset, .unset] [])) := fun t h => k t (XS.astoreN X47.here hx rfl (hb hby at_172) rfl rfl (l' := #[.val (.int q), .val (.ref b1), .val (.int ii), .val (.ref (a nn)), .unset, .unset]) rfl h)
  replace k : own_K p.tables e below (s₁.setTop (entryFrame m #[(.int q)] maxLocals)) (T47.setTop (mkF m 174 #[.val (.int q), .val (.ref b1), .val (.int ii), .val (.ref (a nn)), .unset, .unset] [(.int ii)])) := fun t h => k t (XS.iloadN X47.here hx rfl (hb hby at_173) rfl h)
  replace k : own_K p.tables e below (s₁.setTop (entryFrame m #[(.int q)] maxLocals)) (T47.setTop (mkF m 176 #[.val (.int q), .val (.ref b1), .val (.int ii), .val (.ref (a nn)), .unset, .unset] [(.int (6 : Int32)), (.int ii)])) := fun t h => k t (XS.bipush X47.here hx rfl (hb hby at_174) h)
  by_cases cc49 : ii = (6 : Int32)
  · replace k : own_K p.tables e below (s₁.setTop (entryFrame m #[(.int q)] maxLocals)) (T47.setTop (mkF m 185 #[.val (.int q), .val (.ref b1), .val (.int ii), .val (.ref (a nn)), .unset, .unset] [])) := fun t h => k t (XS.icmpYes X47.here hx rfl (pc0 := 176) (pc' := 185) rfl (hb hby at_176) rfl (teq cc49).1 (by decide) (by decide) h)
    replace k : own_K p.tables e below (s₁.setTop (entryFrame m #[(.int q)] maxLocals)) (T47.setTop (mkF m 186 #[.val (.int q), .val (.ref b1), .val (.int ii), .val (.ref (a nn)), .unset, .unset] [(.int (1 : Int32))])) := fun t h => k t (XS.iconst X47.here hx rfl (hb hby at_185) h)
    replace k : own_K p.tables e below (s₁.setTop (entryFrame m #[(.int q)] maxLocals)) (T47.setTop (mkF m 190 #[.val (.int q), .val (.ref b1), .val (.int ii), .val (.ref (a nn)), .unset, .unset] [(.int (1 : Int32))])) := fun t h => k t (XS.goto X47.here hx rfl (pc0 := 186) (pc' := 190) rfl (hb hby at_186) (by decide) (by decide) h)
    replace k : own_K p.tables e below (s₁.setTop (entryFrame m #[(.int q)] maxLocals)) (T47.setTop (mkF m 192 #[.val (.int q), .val (.ref b1), .val (.int ii), .val (.ref (a nn)), .val (.int (1 : Int32)), .unset] [])) := fun t h => k t (XS.istore X47.here hx rfl (hb hby at_190) rfl (l' := #[.val (.int q), .val (.ref b1), .val (.int ii), .val (.ref (a nn)), .val (.int (1 : Int32)), .unset]) rfl h)
    replace k : own_K p.tables e below (s₁.setTop (entryFrame m #[(.int q)] maxLocals)) (T47.setTop (mkF m 193 #[.val (.int q), .val (.ref b1), .val (.int ii), .val (.ref (a nn)), .val (.int (1 : Int32)), .unset] [(.ref (a nn))])) := fun t h => k t (XS.aloadN X47.here hx rfl (hb hby at_192) rfl rfl h)
    have EN : Exa Z h47 (a nn) "com/example/vizsla/vizsla/core/DerivedQuery$Operator" := (EE1 nn hn1).keep KA
    obtain ⟨cq51, kq51, q51a, q51b, q51c⟩ := isOf hZ e47 EN
    obtain ⟨_, _, ⟨T51, L51, kk51, n51⟩, -, X51, ⟨Lc51, hQ51, l51, y51, z51⟩, st51⟩ := X47.virtualBack hx (y := (⟨"com/example/vizsla/vizsla/core/DerivedQuery$Operator", "takesElements", "()Z"⟩ : MethodName)) (z := (⟨"com/example/vizsla/vizsla/core/DerivedQuery$Operator", "takesElements", "()Z"⟩ : MethodName)) hown (mvT hZ (hw _ (List.mem_of_getElem? (i := 51) rfl))) (mvT hZ (hw _ (List.mem_of_getElem? (i := 52) rfl))) (notFace_of_selects (args := #[]) (mvT hZ (hw _ (List.mem_of_getElem? (i := 54) rfl)))) (mvT hZ (hw _ (List.mem_of_getElem? (i := 54) rfl))) (mvT hZ (hw _ (List.mem_of_getElem? (i := 53) rfl))) (by decide) (backOf (W := 0) (rm1 l Z a0 hw [] (a nn) a h47 n0 (own_staKeep S6 KA (allS nsA all0)) (own_staKeep S7 KA (allS nsA all0))) hZ (hw _ (List.mem_of_getElem? (i := 55) rfl)) (hw _ (List.mem_of_getElem? (i := 3) rfl)) (by decide) (by decide)) q51a q51c (g := (mkF m 193 #[.val (.int q), .val (.ref b1), .val (.int ii), .val (.ref (a nn)), .val (.int (1 : Int32)), .unset] [(.ref (a nn))])) rfl (by rw [hml]; rfl) (Steps.refl _) (argsL := []) (rest := []) (lenOf own_pd0 rfl) rfl (by show 2 * 0 + _ ≤ _; exact Nat.le_of_eq rfl) (hb hby at_193) (fun _ _ => ⟨rfl, e47, (by decide : 1 + 0 ≤ _), (by decide : 23 + 0 ≤ _)⟩)
    dsimp only [Pt.U, Pt.locs, Pt.cells, Pt.slots] at X51 l51 y51 z51 st51 hQ51
    rw [l51, y51, z51] at X51
    obtain ⟨rfl, N51q, eq50⟩ := hQ51
    have N51 := Fr.app N47 N51q
    replace k : own_K p.tables e below (s₁.setTop (entryFrame m #[(.int q)] maxLocals)) (T51.setTop (mkF m 196 #[.val (.int q), .val (.ref b1), .val (.int ii), .val (.ref (a nn)), .val (.int (1 : Int32)), .unset] [(.int (own_f (a nn) a))])) := fun t h => k t (st51.trans h)
    have hval : own_f (a nn) a = (1 : Int32) := by
      rw [← Int32.toInt_inj] at cc49
      have t6 : (6 : Int32).toInt = 6 := by decide
      exact own_f1 (by omega)
    replace k : own_K p.tables e below (s₁.setTop (entryFrame m #[(.int q)] maxLocals)) (T51.setTop (mkF m 198 #[.val (.int q), .val (.ref b1), .val (.int ii), .val (.ref (a nn)), .val (.int (1 : Int32)), .val (.int (own_f (a nn) a))] [])) := fun t h => k t (XS.istore X51.here hx rfl (hb hby at_196) rfl (l' := #[.val (.int q), .val (.ref b1), .val (.int ii), .val (.ref (a nn)), .val (.int (1 : Int32)), .val (.int (own_f (a nn) a))]) rfl h)
    replace k : own_K p.tables e below (s₁.setTop (entryFrame m #[(.int q)] maxLocals)) (T51.setTop (mkF m 200 #[.val (.int q), .val (.ref b1), .val (.int ii), .val (.ref (a nn)), .val (.int (1 : Int32)), .val (.int (own_f (a nn) a))] [(.int (own_f (a nn) a))])) := fun t h => k t (XS.iload X51.here hx rfl (hb hby at_198) rfl h)
    replace k : own_K p.tables e below (s₁.setTop (entryFrame m #[(.int q)] maxLocals)) (T51.setTop (mkF m 202 #[.val (.int q), .val (.ref b1), .val (.int ii), .val (.ref (a nn)), .val (.int (1 : Int32)), .val (.int (own_f (a nn) a))] [(.int (1 : Int32)), (.int (own_f (a nn) a))])) := fun t h => k t (XS.iload X51.here hx rfl (hb hby at_200) rfl h)
    replace k : own_K p.tables e below (s₁.setTop (entryFrame m #[(.int q)] maxLocals)) (T51.setTop (mkF m 207 #[.val (.int q), .val (.ref b1), .val (.int ii), .val (.ref (a nn)), .val (.int (1 : Int32)), .val (.int (own_f (a nn) a))] [])) := fun t h => k t (XS.icmpYes X51.here hx rfl (pc0 := 202) (pc' := 207) rfl (hb hby at_202) rfl (teq hval).1 (by decide) (by decide) h)
    replace k : own_K p.tables e below (s₁.setTop (entryFrame m #[(.int q)] maxLocals)) (T51.setTop (mkF m 209 #[.val (.int q), .val (.ref b1), .val (.int ii), .val (.ref (a nn)), .val (.int (1 : Int32)), .val (.int (own_f (a nn) a))] [(.int (own_f (a nn) a))])) := fun t h => k t (XS.iload X51.here hx rfl (hb hby at_207) rfl h)
    replace k : own_K p.tables e below (s₁.setTop (entryFrame m #[(.int q)] maxLocals)) (T51.setTop (mkF m 212 #[.val (.int q), .val (.ref b1), .val (.int ii), .val (.ref (a nn)), .val (.int (1 : Int32)), .val (.int (own_f (a nn) a))] [])) := fun t h => k t (XS.ifNo X51.here hx rfl (hb hby at_209) rfl ((if0 _ _).trans (feq (by rw [hval]; decide)).1) h)
    replace k : own_K p.tables e below (s₁.setTop (entryFrame m #[(.int q)] maxLocals)) (T51.setTop (mkF m 213 #[.val (.int q), .val (.ref b1), .val (.int ii), .val (.ref (a nn)), .val (.int (1 : Int32)), .val (.int (own_f (a nn) a))] [(.ref (a nn))])) := fun t h => k t (XS.aloadN X51.here hx rfl (hb hby at_212) rfl rfl h)
    have FN : Fld Z h47 (a nn) "com/example/vizsla/vizsla/core/DerivedQuery$Operator" "arity" "I" (.int (1 : Int32)) := (FA1 nn (by
      rw [← Int32.toInt_inj] at cc49
      have t : (6 : Int32).toInt = 6 := by decide
      omega)).keep KA (ninS (nb nn hn1) nin0)
    obtain ⟨cq53, kq53, q53a, q53b, q53c⟩ := isOf hZ eq50 EN
    obtain ⟨_, _, ⟨T53, L53, kk53, n53⟩, -, X53, ⟨Lc53, hQ53, l53, y53, z53⟩, st53⟩ := X51.virtualBack hx (y := (⟨"com/example/vizsla/vizsla/core/DerivedQuery$Operator", "getArity", "()I"⟩ : MethodName)) (z := (⟨"com/example/vizsla/vizsla/core/DerivedQuery$Operator", "getArity", "()I"⟩ : MethodName)) hown (mvT hZ (hw _ (List.mem_of_getElem? (i := 58) rfl))) (mvT hZ (hw _ (List.mem_of_getElem? (i := 59) rfl))) (notFace_of_selects (args := #[]) (mvT hZ (hw _ (List.mem_of_getElem? (i := 61) rfl)))) (mvT hZ (hw _ (List.mem_of_getElem? (i := 61) rfl))) (mvT hZ (hw _ (List.mem_of_getElem? (i := 60) rfl))) (by decide) (backOf (W := 0) (rm2 l Z a0 hw [] (a nn) (1 : Int32) h47 n0 FN) hZ (hw _ (List.mem_of_getElem? (i := 62) rfl)) (hw _ (List.mem_of_getElem? (i := 3) rfl)) (by decide) (by decide)) q53a q53c (g := (mkF m 213 #[.val (.int q), .val (.ref b1), .val (.int ii), .val (.ref (a nn)), .val (.int (1 : Int32)), .val (.int (own_f (a nn) a))] [(.ref (a nn))])) rfl (by rw [hml]; rfl) (Steps.refl _) (argsL := []) (rest := []) (lenOf own_pd1 rfl) rfl (by show 2 * 0 + _ ≤ _; exact Nat.le_of_eq rfl) (hb hby at_213) (fun _ _ => ⟨rfl, eq50, (by decide : 1 + 0 ≤ _), (by decide : 23 + 0 ≤ _)⟩)
    dsimp only [Pt.U, Pt.locs, Pt.cells, Pt.slots] at X53 l53 y53 z53 st53 hQ53
    rw [l53, y53, z53] at X53
    obtain ⟨rfl, N53q, eq52⟩ := hQ53
    have N53 := Fr.app N51 N53q
    replace k : own_K p.tables e below (s₁.setTop (entryFrame m #[(.int q)] maxLocals)) (T53.setTop (mkF m 216 #[.val (.int q), .val (.ref b1), .val (.int ii), .val (.ref (a nn)), .val (.int (1 : Int32)), .val (.int (own_f (a nn) a))] [(.int (1 : Int32))])) := fun t h => k t (st53.trans h)
    replace k : own_K p.tables e below (s₁.setTop (entryFrame m #[(.int q)] maxLocals)) (T53.setTop (mkF m 217 #[.val (.int q), .val (.ref b1), .val (.int ii), .val (.ref (a nn)), .val (.int (1 : Int32)), .val (.int (own_f (a nn) a))] [(.int (1 : Int32)), (.int (1 : Int32))])) := fun t h => k t (XS.iconst X53.here hx rfl (hb hby at_216) h)
    replace k : own_K p.tables e below (s₁.setTop (entryFrame m #[(.int q)] maxLocals)) (T53.setTop (mkF m 220 #[.val (.int q), .val (.ref b1), .val (.int ii), .val (.ref (a nn)), .val (.int (1 : Int32)), .val (.int (own_f (a nn) a))] [])) := fun t h => k t (XS.icmpNo X53.here hx rfl (hb hby at_217) rfl (teq rfl).2 h)
    replace k : own_K p.tables e below (s₁.setTop (entryFrame m #[(.int q)] maxLocals)) (T53.setTop (mkF m 221 #[.val (.int q), .val (.ref b1), .val (.int ii), .val (.ref (a nn)), .val (.int (1 : Int32)), .val (.int (own_f (a nn) a))] [(.int (1 : Int32))])) := fun t h => k t (XS.iconst X53.here hx rfl (hb hby at_220) h)
    replace k : own_K p.tables e below (s₁.setTop (entryFrame m #[(.int q)] maxLocals)) (T53.setTop (mkF m 225 #[.val (.int q), .val (.ref b1), .val (.int ii), .val (.ref (a nn)), .val (.int (1 : Int32)), .val (.int (own_f (a nn) a))] [(.int (1 : Int32))])) := fun t h => k t (XS.goto X53.here hx rfl (pc0 := 221) (pc' := 225) rfl (hb hby at_221) (by decide) (by decide) h)
    obtain ⟨fs, hr, hrun, hended, hW, hsame⟩ := X53.leave (v := some (.int (1 : Int32))) (fun h => by rw [Bd.returns] at h; cases h) Bd.notSynchronized
    refine ⟨_, _, k _ (retOut X53 hx Bd.returns rfl (Or.inl ⟨rfl, by simp [ret], _, rfl⟩) (hb hby at_225) hr), hrun, hended, _, _, rfl, ?_, ⟨_, rfl⟩, hW, hsame.mono (by decide) (by decide)⟩
    show Q0 Z q a h0 n0 _ T53.heap _
    rw [eq52]
    exact ⟨rfl, N53⟩
  · replace k : own_K p.tables e below (s₁.setTop (entryFrame m #[(.int q)] maxLocals)) (T47.setTop (mkF m 179 #[.val (.int q), .val (.ref b1), .val (.int ii), .val (.ref (a nn)), .unset, .unset] [])) := fun t h => k t (XS.icmpNo X47.here hx rfl (hb hby at_176) rfl (feq cc49).1 h)
    replace k : own_K p.tables e below (s₁.setTop (entryFrame m #[(.int q)] maxLocals)) (T47.setTop (mkF m 180 #[.val (.int q), .val (.ref b1), .val (.int ii), .val (.ref (a nn)), .unset, .unset] [(.int ii)])) := fun t h => k t (XS.iloadN X47.here hx rfl (hb hby at_179) rfl h)
    replace k : own_K p.tables e below (s₁.setTop (entryFrame m #[(.int q)] maxLocals)) (T47.setTop (mkF m 182 #[.val (.int q), .val (.ref b1), .val (.int ii), .val (.ref (a nn)), .unset, .unset] [(.int (7 : Int32)), (.int ii)])) := fun t h => k t (XS.bipush X47.here hx rfl (hb hby at_180) h)
    by_cases cc54 : ii = (7 : Int32)
    · replace k : own_K p.tables e below (s₁.setTop (entryFrame m #[(.int q)] maxLocals)) (T47.setTop (mkF m 185 #[.val (.int q), .val (.ref b1), .val (.int ii), .val (.ref (a nn)), .unset, .unset] [])) := fun t h => k t (XS.icmpNo X47.here hx rfl (hb hby at_182) rfl (teq cc54).2 h)
      replace k : own_K p.tables e below (s₁.setTop (entryFrame m #[(.int q)] maxLocals)) (T47.setTop (mkF m 186 #[.val (.int q), .val (.ref b1), .val (.int ii), .val (.ref (a nn)), .unset, .unset] [(.int (1 : Int32))])) := fun t h => k t (XS.iconst X47.here hx rfl (hb hby at_185) h)
      replace k : own_K p.tables e below (s₁.setTop (entryFrame m #[(.int q)] maxLocals)) (T47.setTop (mkF m 190 #[.val (.int q), .val (.ref b1), .val (.int ii), .val (.ref (a nn)), .unset, .unset] [(.int (1 : Int32))])) := fun t h => k t (XS.goto X47.here hx rfl (pc0 := 186) (pc' := 190) rfl (hb hby at_186) (by decide) (by decide) h)
      replace k : own_K p.tables e below (s₁.setTop (entryFrame m #[(.int q)] maxLocals)) (T47.setTop (mkF m 192 #[.val (.int q), .val (.ref b1), .val (.int ii), .val (.ref (a nn)), .val (.int (1 : Int32)), .unset] [])) := fun t h => k t (XS.istore X47.here hx rfl (hb hby at_190) rfl (l' := #[.val (.int q), .val (.ref b1), .val (.int ii), .val (.ref (a nn)), .val (.int (1 : Int32)), .unset]) rfl h)
      replace k : own_K p.tables e below (s₁.setTop (entryFrame m #[(.int q)] maxLocals)) (T47.setTop (mkF m 193 #[.val (.int q), .val (.ref b1), .val (.int ii), .val (.ref (a nn)), .val (.int (1 : Int32)), .unset] [(.ref (a nn))])) := fun t h => k t (XS.aloadN X47.here hx rfl (hb hby at_192) rfl rfl h)
      have EN : Exa Z h47 (a nn) "com/example/vizsla/vizsla/core/DerivedQuery$Operator" := (EE1 nn hn1).keep KA
      obtain ⟨cq56, kq56, q56a, q56b, q56c⟩ := isOf hZ e47 EN
      obtain ⟨_, _, ⟨T56, L56, kk56, n56⟩, -, X56, ⟨Lc56, hQ56, l56, y56, z56⟩, st56⟩ := X47.virtualBack hx (y := (⟨"com/example/vizsla/vizsla/core/DerivedQuery$Operator", "takesElements", "()Z"⟩ : MethodName)) (z := (⟨"com/example/vizsla/vizsla/core/DerivedQuery$Operator", "takesElements", "()Z"⟩ : MethodName)) hown (mvT hZ (hw _ (List.mem_of_getElem? (i := 51) rfl))) (mvT hZ (hw _ (List.mem_of_getElem? (i := 52) rfl))) (notFace_of_selects (args := #[]) (mvT hZ (hw _ (List.mem_of_getElem? (i := 54) rfl)))) (mvT hZ (hw _ (List.mem_of_getElem? (i := 54) rfl))) (mvT hZ (hw _ (List.mem_of_getElem? (i := 53) rfl))) (by decide) (backOf (W := 0) (rm1 l Z a0 hw [] (a nn) a h47 n0 (own_staKeep S6 KA (allS nsA all0)) (own_staKeep S7 KA (allS nsA all0))) hZ (hw _ (List.mem_of_getElem? (i := 55) rfl)) (hw _ (List.mem_of_getElem? (i := 3) rfl)) (by decide) (by decide)) q56a q56c (g := (mkF m 193 #[.val (.int q), .val (.ref b1), .val (.int ii), .val (.ref (a nn)), .val (.int (1 : Int32)), .unset] [(.ref (a nn))])) rfl (by rw [hml]; rfl) (Steps.refl _) (argsL := []) (rest := []) (lenOf own_pd0 rfl) rfl (by show 2 * 0 + _ ≤ _; exact Nat.le_of_eq rfl) (hb hby at_193) (fun _ _ => ⟨rfl, e47, (by decide : 1 + 0 ≤ _), (by decide : 23 + 0 ≤ _)⟩)
      dsimp only [Pt.U, Pt.locs, Pt.cells, Pt.slots] at X56 l56 y56 z56 st56 hQ56
      rw [l56, y56, z56] at X56
      obtain ⟨rfl, N56q, eq55⟩ := hQ56
      have N56 := Fr.app N47 N56q
      replace k : own_K p.tables e below (s₁.setTop (entryFrame m #[(.int q)] maxLocals)) (T56.setTop (mkF m 196 #[.val (.int q), .val (.ref b1), .val (.int ii), .val (.ref (a nn)), .val (.int (1 : Int32)), .unset] [(.int (own_f (a nn) a))])) := fun t h => k t (st56.trans h)
      have hval : own_f (a nn) a = (1 : Int32) := by
        rw [← Int32.toInt_inj] at cc49
        rw [← Int32.toInt_inj] at cc54
        have t6 : (6 : Int32).toInt = 6 := by decide
        have t7 : (7 : Int32).toInt = 7 := by decide
        exact own_f1 (by omega)
      replace k : own_K p.tables e below (s₁.setTop (entryFrame m #[(.int q)] maxLocals)) (T56.setTop (mkF m 198 #[.val (.int q), .val (.ref b1), .val (.int ii), .val (.ref (a nn)), .val (.int (1 : Int32)), .val (.int (own_f (a nn) a))] [])) := fun t h => k t (XS.istore X56.here hx rfl (hb hby at_196) rfl (l' := #[.val (.int q), .val (.ref b1), .val (.int ii), .val (.ref (a nn)), .val (.int (1 : Int32)), .val (.int (own_f (a nn) a))]) rfl h)
      replace k : own_K p.tables e below (s₁.setTop (entryFrame m #[(.int q)] maxLocals)) (T56.setTop (mkF m 200 #[.val (.int q), .val (.ref b1), .val (.int ii), .val (.ref (a nn)), .val (.int (1 : Int32)), .val (.int (own_f (a nn) a))] [(.int (own_f (a nn) a))])) := fun t h => k t (XS.iload X56.here hx rfl (hb hby at_198) rfl h)
      replace k : own_K p.tables e below (s₁.setTop (entryFrame m #[(.int q)] maxLocals)) (T56.setTop (mkF m 202 #[.val (.int q), .val (.ref b1), .val (.int ii), .val (.ref (a nn)), .val (.int (1 : Int32)), .val (.int (own_f (a nn) a))] [(.int (1 : Int32)), (.int (own_f (a nn) a))])) := fun t h => k t (XS.iload X56.here hx rfl (hb hby at_200) rfl h)
      replace k : own_K p.tables e below (s₁.setTop (entryFrame m #[(.int q)] maxLocals)) (T56.setTop (mkF m 207 #[.val (.int q), .val (.ref b1), .val (.int ii), .val (.ref (a nn)), .val (.int (1 : Int32)), .val (.int (own_f (a nn) a))] [])) := fun t h => k t (XS.icmpYes X56.here hx rfl (pc0 := 202) (pc' := 207) rfl (hb hby at_202) rfl (teq hval).1 (by decide) (by decide) h)
      replace k : own_K p.tables e below (s₁.setTop (entryFrame m #[(.int q)] maxLocals)) (T56.setTop (mkF m 209 #[.val (.int q), .val (.ref b1), .val (.int ii), .val (.ref (a nn)), .val (.int (1 : Int32)), .val (.int (own_f (a nn) a))] [(.int (own_f (a nn) a))])) := fun t h => k t (XS.iload X56.here hx rfl (hb hby at_207) rfl h)
      replace k : own_K p.tables e below (s₁.setTop (entryFrame m #[(.int q)] maxLocals)) (T56.setTop (mkF m 212 #[.val (.int q), .val (.ref b1), .val (.int ii), .val (.ref (a nn)), .val (.int (1 : Int32)), .val (.int (own_f (a nn) a))] [])) := fun t h => k t (XS.ifNo X56.here hx rfl (hb hby at_209) rfl ((if0 _ _).trans (feq (by rw [hval]; decide)).1) h)
      replace k : own_K p.tables e below (s₁.setTop (entryFrame m #[(.int q)] maxLocals)) (T56.setTop (mkF m 213 #[.val (.int q), .val (.ref b1), .val (.int ii), .val (.ref (a nn)), .val (.int (1 : Int32)), .val (.int (own_f (a nn) a))] [(.ref (a nn))])) := fun t h => k t (XS.aloadN X56.here hx rfl (hb hby at_212) rfl rfl h)
      have FN : Fld Z h47 (a nn) "com/example/vizsla/vizsla/core/DerivedQuery$Operator" "arity" "I" (.int (1 : Int32)) := (FA1 nn (by
        rw [← Int32.toInt_inj] at cc54
        have t : (7 : Int32).toInt = 7 := by decide
        omega)).keep KA (ninS (nb nn hn1) nin0)
      obtain ⟨cq58, kq58, q58a, q58b, q58c⟩ := isOf hZ eq55 EN
      obtain ⟨_, _, ⟨T58, L58, kk58, n58⟩, -, X58, ⟨Lc58, hQ58, l58, y58, z58⟩, st58⟩ := X56.virtualBack hx (y := (⟨"com/example/vizsla/vizsla/core/DerivedQuery$Operator", "getArity", "()I"⟩ : MethodName)) (z := (⟨"com/example/vizsla/vizsla/core/DerivedQuery$Operator", "getArity", "()I"⟩ : MethodName)) hown (mvT hZ (hw _ (List.mem_of_getElem? (i := 58) rfl))) (mvT hZ (hw _ (List.mem_of_getElem? (i := 59) rfl))) (notFace_of_selects (args := #[]) (mvT hZ (hw _ (List.mem_of_getElem? (i := 61) rfl)))) (mvT hZ (hw _ (List.mem_of_getElem? (i := 61) rfl))) (mvT hZ (hw _ (List.mem_of_getElem? (i := 60) rfl))) (by decide) (backOf (W := 0) (rm2 l Z a0 hw [] (a nn) (1 : Int32) h47 n0 FN) hZ (hw _ (List.mem_of_getElem? (i := 62) rfl)) (hw _ (List.mem_of_getElem? (i := 3) rfl)) (by decide) (by decide)) q58a q58c (g := (mkF m 213 #[.val (.int q), .val (.ref b1), .val (.int ii), .val (.ref (a nn)), .val (.int (1 : Int32)), .val (.int (own_f (a nn) a))] [(.ref (a nn))])) rfl (by rw [hml]; rfl) (Steps.refl _) (argsL := []) (rest := []) (lenOf own_pd1 rfl) rfl (by show 2 * 0 + _ ≤ _; exact Nat.le_of_eq rfl) (hb hby at_213) (fun _ _ => ⟨rfl, eq55, (by decide : 1 + 0 ≤ _), (by decide : 23 + 0 ≤ _)⟩)
      dsimp only [Pt.U, Pt.locs, Pt.cells, Pt.slots] at X58 l58 y58 z58 st58 hQ58
      rw [l58, y58, z58] at X58
      obtain ⟨rfl, N58q, eq57⟩ := hQ58
      have N58 := Fr.app N56 N58q
      replace k : own_K p.tables e below (s₁.setTop (entryFrame m #[(.int q)] maxLocals)) (T58.setTop (mkF m 216 #[.val (.int q), .val (.ref b1), .val (.int ii), .val (.ref (a nn)), .val (.int (1 : Int32)), .val (.int (own_f (a nn) a))] [(.int (1 : Int32))])) := fun t h => k t (st58.trans h)
      replace k : own_K p.tables e below (s₁.setTop (entryFrame m #[(.int q)] maxLocals)) (T58.setTop (mkF m 217 #[.val (.int q), .val (.ref b1), .val (.int ii), .val (.ref (a nn)), .val (.int (1 : Int32)), .val (.int (own_f (a nn) a))] [(.int (1 : Int32)), (.int (1 : Int32))])) := fun t h => k t (XS.iconst X58.here hx rfl (hb hby at_216) h)
      replace k : own_K p.tables e below (s₁.setTop (entryFrame m #[(.int q)] maxLocals)) (T58.setTop (mkF m 220 #[.val (.int q), .val (.ref b1), .val (.int ii), .val (.ref (a nn)), .val (.int (1 : Int32)), .val (.int (own_f (a nn) a))] [])) := fun t h => k t (XS.icmpNo X58.here hx rfl (hb hby at_217) rfl (teq rfl).2 h)
      replace k : own_K p.tables e below (s₁.setTop (entryFrame m #[(.int q)] maxLocals)) (T58.setTop (mkF m 221 #[.val (.int q), .val (.ref b1), .val (.int ii), .val (.ref (a nn)), .val (.int (1 : Int32)), .val (.int (own_f (a nn) a))] [(.int (1 : Int32))])) := fun t h => k t (XS.iconst X58.here hx rfl (hb hby at_220) h)
      replace k : own_K p.tables e below (s₁.setTop (entryFrame m #[(.int q)] maxLocals)) (T58.setTop (mkF m 225 #[.val (.int q), .val (.ref b1), .val (.int ii), .val (.ref (a nn)), .val (.int (1 : Int32)), .val (.int (own_f (a nn) a))] [(.int (1 : Int32))])) := fun t h => k t (XS.goto X58.here hx rfl (pc0 := 221) (pc' := 225) rfl (hb hby at_221) (by decide) (by decide) h)
      obtain ⟨fs, hr, hrun, hended, hW, hsame⟩ := X58.leave (v := some (.int (1 : Int32))) (fun h => by rw [Bd.returns] at h; cases h) Bd.notSynchronized
      refine ⟨_, _, k _ (retOut X58 hx Bd.returns rfl (Or.inl ⟨rfl, by simp [ret], _, rfl⟩) (hb hby at_225) hr), hrun, hended, _, _, rfl, ?_, ⟨_, rfl⟩, hW, hsame.mono (by decide) (by decide)⟩
      show Q0 Z q a h0 n0 _ T58.heap _
      rw [eq57]
      exact ⟨rfl, N58⟩
    · replace k : own_K p.tables e below (s₁.setTop (entryFrame m #[(.int q)] maxLocals)) (T47.setTop (mkF m 189 #[.val (.int q), .val (.ref b1), .val (.int ii), .val (.ref (a nn)), .unset, .unset] [])) := fun t h => k t (XS.icmpYes X47.here hx rfl (pc0 := 182) (pc' := 189) rfl (hb hby at_182) rfl (feq cc54).2 (by decide) (by decide) h)
      replace k : own_K p.tables e below (s₁.setTop (entryFrame m #[(.int q)] maxLocals)) (T47.setTop (mkF m 190 #[.val (.int q), .val (.ref b1), .val (.int ii), .val (.ref (a nn)), .unset, .unset] [(.int (0 : Int32))])) := fun t h => k t (XS.iconst X47.here hx rfl (hb hby at_189) h)
      replace k : own_K p.tables e below (s₁.setTop (entryFrame m #[(.int q)] maxLocals)) (T47.setTop (mkF m 192 #[.val (.int q), .val (.ref b1), .val (.int ii), .val (.ref (a nn)), .val (.int (0 : Int32)), .unset] [])) := fun t h => k t (XS.istore X47.here hx rfl (hb hby at_190) rfl (l' := #[.val (.int q), .val (.ref b1), .val (.int ii), .val (.ref (a nn)), .val (.int (0 : Int32)), .unset]) rfl h)
      replace k : own_K p.tables e below (s₁.setTop (entryFrame m #[(.int q)] maxLocals)) (T47.setTop (mkF m 193 #[.val (.int q), .val (.ref b1), .val (.int ii), .val (.ref (a nn)), .val (.int (0 : Int32)), .unset] [(.ref (a nn))])) := fun t h => k t (XS.aloadN X47.here hx rfl (hb hby at_192) rfl rfl h)
      have EN : Exa Z h47 (a nn) "com/example/vizsla/vizsla/core/DerivedQuery$Operator" := (EE1 nn hn1).keep KA
      obtain ⟨cq60, kq60, q60a, q60b, q60c⟩ := isOf hZ e47 EN
      obtain ⟨_, _, ⟨T60, L60, kk60, n60⟩, -, X60, ⟨Lc60, hQ60, l60, y60, z60⟩, st60⟩ := X47.virtualBack hx (y := (⟨"com/example/vizsla/vizsla/core/DerivedQuery$Operator", "takesElements", "()Z"⟩ : MethodName)) (z := (⟨"com/example/vizsla/vizsla/core/DerivedQuery$Operator", "takesElements", "()Z"⟩ : MethodName)) hown (mvT hZ (hw _ (List.mem_of_getElem? (i := 51) rfl))) (mvT hZ (hw _ (List.mem_of_getElem? (i := 52) rfl))) (notFace_of_selects (args := #[]) (mvT hZ (hw _ (List.mem_of_getElem? (i := 54) rfl)))) (mvT hZ (hw _ (List.mem_of_getElem? (i := 54) rfl))) (mvT hZ (hw _ (List.mem_of_getElem? (i := 53) rfl))) (by decide) (backOf (W := 0) (rm1 l Z a0 hw [] (a nn) a h47 n0 (own_staKeep S6 KA (allS nsA all0)) (own_staKeep S7 KA (allS nsA all0))) hZ (hw _ (List.mem_of_getElem? (i := 55) rfl)) (hw _ (List.mem_of_getElem? (i := 3) rfl)) (by decide) (by decide)) q60a q60c (g := (mkF m 193 #[.val (.int q), .val (.ref b1), .val (.int ii), .val (.ref (a nn)), .val (.int (0 : Int32)), .unset] [(.ref (a nn))])) rfl (by rw [hml]; rfl) (Steps.refl _) (argsL := []) (rest := []) (lenOf own_pd0 rfl) rfl (by show 2 * 0 + _ ≤ _; exact Nat.le_of_eq rfl) (hb hby at_193) (fun _ _ => ⟨rfl, e47, (by decide : 1 + 0 ≤ _), (by decide : 23 + 0 ≤ _)⟩)
      dsimp only [Pt.U, Pt.locs, Pt.cells, Pt.slots] at X60 l60 y60 z60 st60 hQ60
      rw [l60, y60, z60] at X60
      obtain ⟨rfl, N60q, eq59⟩ := hQ60
      have N60 := Fr.app N47 N60q
      replace k : own_K p.tables e below (s₁.setTop (entryFrame m #[(.int q)] maxLocals)) (T60.setTop (mkF m 196 #[.val (.int q), .val (.ref b1), .val (.int ii), .val (.ref (a nn)), .val (.int (0 : Int32)), .unset] [(.int (own_f (a nn) a))])) := fun t h => k t (st60.trans h)
      have hval : own_f (a nn) a = (0 : Int32) := by
        rw [← Int32.toInt_inj] at cc49
        rw [← Int32.toInt_inj] at cc54
        have t6 : (6 : Int32).toInt = 6 := by decide
        have t7 : (7 : Int32).toInt = 7 := by decide
        exact own_f0 DD hn1 (by omega)
      replace k : own_K p.tables e below (s₁.setTop (entryFrame m #[(.int q)] maxLocals)) (T60.setTop (mkF m 198 #[.val (.int q), .val (.ref b1), .val (.int ii), .val (.ref (a nn)), .val (.int (0 : Int32)), .val (.int (own_f (a nn) a))] [])) := fun t h => k t (XS.istore X60.here hx rfl (hb hby at_196) rfl (l' := #[.val (.int q), .val (.ref b1), .val (.int ii), .val (.ref (a nn)), .val (.int (0 : Int32)), .val (.int (own_f (a nn) a))]) rfl h)
      replace k : own_K p.tables e below (s₁.setTop (entryFrame m #[(.int q)] maxLocals)) (T60.setTop (mkF m 200 #[.val (.int q), .val (.ref b1), .val (.int ii), .val (.ref (a nn)), .val (.int (0 : Int32)), .val (.int (own_f (a nn) a))] [(.int (own_f (a nn) a))])) := fun t h => k t (XS.iload X60.here hx rfl (hb hby at_198) rfl h)
      replace k : own_K p.tables e below (s₁.setTop (entryFrame m #[(.int q)] maxLocals)) (T60.setTop (mkF m 202 #[.val (.int q), .val (.ref b1), .val (.int ii), .val (.ref (a nn)), .val (.int (0 : Int32)), .val (.int (own_f (a nn) a))] [(.int (0 : Int32)), (.int (own_f (a nn) a))])) := fun t h => k t (XS.iload X60.here hx rfl (hb hby at_200) rfl h)
      replace k : own_K p.tables e below (s₁.setTop (entryFrame m #[(.int q)] maxLocals)) (T60.setTop (mkF m 207 #[.val (.int q), .val (.ref b1), .val (.int ii), .val (.ref (a nn)), .val (.int (0 : Int32)), .val (.int (own_f (a nn) a))] [])) := fun t h => k t (XS.icmpYes X60.here hx rfl (pc0 := 202) (pc' := 207) rfl (hb hby at_202) rfl (teq hval).1 (by decide) (by decide) h)
      replace k : own_K p.tables e below (s₁.setTop (entryFrame m #[(.int q)] maxLocals)) (T60.setTop (mkF m 209 #[.val (.int q), .val (.ref b1), .val (.int ii), .val (.ref (a nn)), .val (.int (0 : Int32)), .val (.int (own_f (a nn) a))] [(.int (own_f (a nn) a))])) := fun t h => k t (XS.iload X60.here hx rfl (hb hby at_207) rfl h)
      replace k : own_K p.tables e below (s₁.setTop (entryFrame m #[(.int q)] maxLocals)) (T60.setTop (mkF m 220 #[.val (.int q), .val (.ref b1), .val (.int ii), .val (.ref (a nn)), .val (.int (0 : Int32)), .val (.int (own_f (a nn) a))] [])) := fun t h => k t (XS.ifYes X60.here hx rfl (pc0 := 209) (pc' := 220) rfl (hb hby at_209) rfl ((if0 _ _).trans (teq hval).1) (by decide) (by decide) h)
      replace k : own_K p.tables e below (s₁.setTop (entryFrame m #[(.int q)] maxLocals)) (T60.setTop (mkF m 221 #[.val (.int q), .val (.ref b1), .val (.int ii), .val (.ref (a nn)), .val (.int (0 : Int32)), .val (.int (own_f (a nn) a))] [(.int (1 : Int32))])) := fun t h => k t (XS.iconst X60.here hx rfl (hb hby at_220) h)
      replace k : own_K p.tables e below (s₁.setTop (entryFrame m #[(.int q)] maxLocals)) (T60.setTop (mkF m 225 #[.val (.int q), .val (.ref b1), .val (.int ii), .val (.ref (a nn)), .val (.int (0 : Int32)), .val (.int (own_f (a nn) a))] [(.int (1 : Int32))])) := fun t h => k t (XS.goto X60.here hx rfl (pc0 := 221) (pc' := 225) rfl (hb hby at_221) (by decide) (by decide) h)
      obtain ⟨fs, hr, hrun, hended, hW, hsame⟩ := X60.leave (v := some (.int (1 : Int32))) (fun h => by rw [Bd.returns] at h; cases h) Bd.notSynchronized
      refine ⟨_, _, k _ (retOut X60 hx Bd.returns rfl (Or.inl ⟨rfl, by simp [ret], _, rfl⟩) (hb hby at_225) hr), hrun, hended, _, _, rfl, ?_, ⟨_, rfl⟩, hW, hsame.mono (by decide) (by decide)⟩
      show Q0 Z q a h0 n0 _ T60.heap _
      rw [eq59]
      exact ⟨rfl, N60⟩
set_option maxRecDepth 65536 in
set_option maxHeartbeats 40000000 in
theorem comes_1 {Post : Tables → Env → Array Value → State → Outcome → State → Prop} (hpost : ∀ tb e args s v u, (limb_1_1.after args s (.returned v) u = true ∧ limb_1_2.after args s (.returned v) u = true ∧ True) → FrameEnd s (.returned v) u (Jvm.fieldLocs frame_1_writes args s ++ Jvm.arrayLocs frame_1_arrays args s ++ Jvm.staticLocs frame_1_statics s) 16 128 → Post tb e args s (.returned v) u) :
    ArmFor flags0 classFile x code maxLocals ret World_1 tables_1 room_1 Calls_1 rest_1 Pre_1 Post := by
  intro l hfl _ _ p e ha hc hk s m args below hf hA hF happ hP
  obtain ⟨hcalls, hrest, hpre⟩ := hP
  obtain ⟨-, -, -, hnamed, -, -, -, hat⟩ := (Spec.applies_iff hf).mp happ
  obtain ⟨hg, hn⟩ := and_e (Cond.before_iff.mp (show (Jvm.Cond.and given_1 narrow_1).before args s = true from hpre))
  obtain ⟨hcount, hg⟩ := and_e hg
  obtain ⟨w0, rfl⟩ : ∃ w0 : Value, args = #[w0] := by
    have hs : args.size = 1 := by simpa [Cond.value, given_1] using hcount
    obtain ⟨L⟩ := args
    match L, hs with
    | [w0], _ => exact ⟨w0, rfl⟩
  have hw := fun d (hd : d ∈ tables_1) => atoms_spec (ws := Jvm.Cond.code x code maxLocals ret :: tables_1) hat d (List.mem_cons_of_mem _ hd)
  have hfit : Fit s := fun {y c} hc i hi => by
    obtain ⟨ha, rfl⟩ := Array.getElem?_eq_some_iff.mp hc
    have q := List.all_eq_true.mp ((Array.all_eq_true_iff_forall_mem.mp hF) _ (Array.getElem_mem ha)) i (List.mem_range.mpr hi)
    simpa [Array.getElem?_eq_getElem hi] using q
  obtain ⟨i0, hi0⟩ := is_v hg
  obtain rfl : w0 = (.int i0) := Option.some.inj hi0
  obtain ⟨r0, hn⟩ := and_e hn
  obtain ⟨r1, hn⟩ := and_e hn
  obtain ⟨r2, hn⟩ := and_e hn
  obtain ⟨r3, hn⟩ := and_e hn
  obtain ⟨r4, hn⟩ := and_e hn
  obtain ⟨r5, hn⟩ := and_e hn
  obtain ⟨r6, hn⟩ := and_e hn
  obtain ⟨r7, hn⟩ := and_e hn
  obtain ⟨r8, hn⟩ := and_e hn
  obtain ⟨r9, hn⟩ := and_e hn
  obtain ⟨r10, hn⟩ := and_e hn
  obtain ⟨r11, hn⟩ := and_e hn
  obtain ⟨r12, hn⟩ := and_e hn
  obtain ⟨r13, hn⟩ := and_e hn
  obtain ⟨r14, hn⟩ := and_e hn
  obtain ⟨r15, hn⟩ := and_e hn
  obtain ⟨r16, hn⟩ := and_e hn
  obtain ⟨r17, hn⟩ := and_e hn
  obtain ⟨r18, hn⟩ := and_e hn
  obtain ⟨r19, hn⟩ := and_e hn
  obtain ⟨r20, hn⟩ := and_e hn
  obtain ⟨r21, hn⟩ := and_e hn
  obtain ⟨r22, hn⟩ := and_e hn
  obtain ⟨r23, hn⟩ := and_e hn
  obtain ⟨r24, hn⟩ := and_e hn
  obtain ⟨r25, hn⟩ := and_e hn
  obtain ⟨r26, hn⟩ := and_e hn
  obtain ⟨r27, hn⟩ := and_e hn
  obtain ⟨r28, hn⟩ := and_e hn
  obtain ⟨r29, hn⟩ := and_e hn
  obtain ⟨r30, hn⟩ := and_e hn
  obtain ⟨r31, hn⟩ := and_e hn
  obtain ⟨r32, hn⟩ := and_e hn
  obtain ⟨r33, hn⟩ := and_e hn
  obtain ⟨r34, hn⟩ := and_e hn
  obtain ⟨r35, hn⟩ := and_e hn
  obtain ⟨r36, hn⟩ := and_e hn
  obtain ⟨r37, hn⟩ := and_e hn
  obtain ⟨r38, hn⟩ := and_e hn
  obtain ⟨r39, hn⟩ := and_e hn
  obtain ⟨r40, hn⟩ := and_e hn
  obtain ⟨r41, hn⟩ := and_e hn
  obtain ⟨r42, hn⟩ := and_e hn
  obtain ⟨r43, hn⟩ := and_e hn
  obtain ⟨r44, hn⟩ := and_e hn
  obtain ⟨r45, hn⟩ := and_e hn
  obtain ⟨r46, hn⟩ := and_e hn
  obtain ⟨r47, hn⟩ := and_e hn
  obtain ⟨r48, hn⟩ := and_e hn
  obtain ⟨r49, hn⟩ := and_e hn
  obtain ⟨r50, hn⟩ := and_e hn
  obtain ⟨r51, hn⟩ := and_e hn
  obtain ⟨r52, hn⟩ := and_e hn
  obtain ⟨r53, hn⟩ := and_e hn
  obtain ⟨r54, hn⟩ := and_e hn
  obtain ⟨r55, hn⟩ := and_e hn
  obtain ⟨r56, hn⟩ := and_e hn
  obtain ⟨r57, hn⟩ := and_e hn
  obtain ⟨r58, hn⟩ := and_e hn
  obtain ⟨r59, hn⟩ := and_e hn
  obtain ⟨r60, hn⟩ := and_e hn
  obtain ⟨r61, hn⟩ := and_e hn
  obtain ⟨r62, hn⟩ := and_e hn
  obtain ⟨r63, hn⟩ := and_e hn
  obtain ⟨r64, hn⟩ := and_e hn
  obtain ⟨r65, hn⟩ := and_e hn
  obtain ⟨r66, hn⟩ := and_e hn
  obtain ⟨r67, hn⟩ := and_e hn
  have r68 := hn
  obtain ⟨x0, S0, E0, ev0⟩ := own_stat r0 (hw _ (List.mem_of_getElem? (i := 3) rfl)) (hw _ (List.mem_of_getElem? (i := 4) rfl))
  obtain ⟨x1, S1, E1, ev1⟩ := own_stat r1 (hw _ (List.mem_of_getElem? (i := 3) rfl)) (hw _ (List.mem_of_getElem? (i := 7) rfl))
  obtain ⟨x2, S2, E2, ev2⟩ := own_stat r2 (hw _ (List.mem_of_getElem? (i := 3) rfl)) (hw _ (List.mem_of_getElem? (i := 9) rfl))
  obtain ⟨x3, S3, E3, ev3⟩ := own_stat r3 (hw _ (List.mem_of_getElem? (i := 3) rfl)) (hw _ (List.mem_of_getElem? (i := 11) rfl))
  obtain ⟨x4, S4, E4, ev4⟩ := own_stat r4 (hw _ (List.mem_of_getElem? (i := 3) rfl)) (hw _ (List.mem_of_getElem? (i := 13) rfl))
  obtain ⟨x5, S5, E5, ev5⟩ := own_stat r5 (hw _ (List.mem_of_getElem? (i := 3) rfl)) (hw _ (List.mem_of_getElem? (i := 15) rfl))
  obtain ⟨x6, S6, E6, ev6⟩ := own_stat r6 (hw _ (List.mem_of_getElem? (i := 3) rfl)) (hw _ (List.mem_of_getElem? (i := 17) rfl))
  obtain ⟨x7, S7, E7, ev7⟩ := own_stat r7 (hw _ (List.mem_of_getElem? (i := 3) rfl)) (hw _ (List.mem_of_getElem? (i := 19) rfl))
  obtain ⟨x8, S8, E8, ev8⟩ := own_stat r8 (hw _ (List.mem_of_getElem? (i := 3) rfl)) (hw _ (List.mem_of_getElem? (i := 21) rfl))
  obtain ⟨x9, S9, E9, ev9⟩ := own_stat r9 (hw _ (List.mem_of_getElem? (i := 3) rfl)) (hw _ (List.mem_of_getElem? (i := 23) rfl))
  obtain ⟨x10, S10, E10, ev10⟩ := own_stat r10 (hw _ (List.mem_of_getElem? (i := 3) rfl)) (hw _ (List.mem_of_getElem? (i := 25) rfl))
  obtain ⟨x11, S11, E11, ev11⟩ := own_stat r11 (hw _ (List.mem_of_getElem? (i := 3) rfl)) (hw _ (List.mem_of_getElem? (i := 27) rfl))
  obtain ⟨x12, S12, E12, ev12⟩ := own_stat r12 (hw _ (List.mem_of_getElem? (i := 3) rfl)) (hw _ (List.mem_of_getElem? (i := 29) rfl))
  obtain ⟨x13, S13, E13, ev13⟩ := own_stat r13 (hw _ (List.mem_of_getElem? (i := 3) rfl)) (hw _ (List.mem_of_getElem? (i := 31) rfl))
  obtain ⟨x14, S14, E14, ev14⟩ := own_stat r14 (hw _ (List.mem_of_getElem? (i := 3) rfl)) (hw _ (List.mem_of_getElem? (i := 33) rfl))
  obtain ⟨x15, S15, E15, ev15⟩ := own_stat r15 (hw _ (List.mem_of_getElem? (i := 3) rfl)) (hw _ (List.mem_of_getElem? (i := 35) rfl))
  obtain ⟨x16, S16, E16, ev16⟩ := own_stat r16 (hw _ (List.mem_of_getElem? (i := 3) rfl)) (hw _ (List.mem_of_getElem? (i := 37) rfl))
  obtain ⟨x17, S17, E17, ev17⟩ := own_stat r17 (hw _ (List.mem_of_getElem? (i := 3) rfl)) (hw _ (List.mem_of_getElem? (i := 39) rfl))
  obtain ⟨x18, S18, E18, ev18⟩ := own_stat r18 (hw _ (List.mem_of_getElem? (i := 3) rfl)) (hw _ (List.mem_of_getElem? (i := 41) rfl))
  obtain ⟨x19, S19, E19, ev19⟩ := own_stat r19 (hw _ (List.mem_of_getElem? (i := 3) rfl)) (hw _ (List.mem_of_getElem? (i := 43) rfl))
  obtain ⟨x20, S20, E20, ev20⟩ := own_stat r20 (hw _ (List.mem_of_getElem? (i := 3) rfl)) (hw _ (List.mem_of_getElem? (i := 45) rfl))
  obtain ⟨x21, S21, E21, ev21⟩ := own_stat r21 (hw _ (List.mem_of_getElem? (i := 3) rfl)) (hw _ (List.mem_of_getElem? (i := 47) rfl))
  obtain ⟨x22, S22, E22, ev22⟩ := own_stat r22 (hw _ (List.mem_of_getElem? (i := 3) rfl)) (hw _ (List.mem_of_getElem? (i := 49) rfl))
  have F_ordinal0 := own_fldI ev0 r23
  have F_ordinal6 := own_fldI ev6 r24
  have F_ordinal7 := own_fldI ev7 r25
  have F_ordinal3 := own_fldI ev3 r26
  have F_ordinal18 := own_fldI ev18 r27
  have F_ordinal11 := own_fldI ev11 r28
  have F_ordinal12 := own_fldI ev12 r29
  have F_ordinal5 := own_fldI ev5 r30
  have F_arity7 := own_fldI ev7 r31
  have F_ordinal2 := own_fldI ev2 r32
  have F_ordinal4 := own_fldI ev4 r33
  have F_ordinal8 := own_fldI ev8 r34
  have F_ordinal1 := own_fldI ev1 r35
  have F_ordinal21 := own_fldI ev21 r36
  have F_ordinal16 := own_fldI ev16 r37
  have F_ordinal10 := own_fldI ev10 r38
  have F_ordinal9 := own_fldI ev9 r39
  have F_ordinal22 := own_fldI ev22 r40
  have F_ordinal19 := own_fldI ev19 r41
  have F_ordinal15 := own_fldI ev15 r42
  have F_ordinal17 := own_fldI ev17 r43
  have F_ordinal20 := own_fldI ev20 r44
  have F_ordinal14 := own_fldI ev14 r45
  have F_arity6 := own_fldI ev6 r46
  have F_ordinal13 := own_fldI ev13 r47
  have F_arity0 := own_fldI ev0 r48
  have F_arity1 := own_fldI ev1 r49
  have F_arity2 := own_fldI ev2 r50
  have F_arity3 := own_fldI ev3 r51
  have F_arity4 := own_fldI ev4 r52
  have F_arity5 := own_fldI ev5 r53
  have F_arity8 := own_fldI ev8 r54
  have F_arity9 := own_fldI ev9 r55
  have F_arity10 := own_fldI ev10 r56
  have F_arity11 := own_fldI ev11 r57
  have F_arity12 := own_fldI ev12 r58
  have F_arity13 := own_fldI ev13 r59
  have F_arity14 := own_fldI ev14 r60
  have F_arity15 := own_fldI ev15 r61
  have F_arity16 := own_fldI ev16 r62
  have F_arity17 := own_fldI ev17 r63
  have F_arity18 := own_fldI ev18 r64
  have F_arity19 := own_fldI ev19 r65
  have F_arity20 := own_fldI ev20 r66
  have F_arity21 := own_fldI ev21 r67
  have F_arity22 := own_fldI ev22 r68
  obtain ⟨a, ha0⟩ : ∃ a : Nat → Addr, a = fun n => [x0, x1, x2, x3, x4, x5, x6, x7, x8, x9, x10, x11, x12, x13, x14, x15, x16, x17, x18, x19, x20, x21, x22].getD n 0 := ⟨_, rfl⟩
  have hx0 : x0 = a 0 := by rw [ha0]; rfl
  have hx1 : x1 = a 1 := by rw [ha0]; rfl
  have hx2 : x2 = a 2 := by rw [ha0]; rfl
  have hx3 : x3 = a 3 := by rw [ha0]; rfl
  have hx4 : x4 = a 4 := by rw [ha0]; rfl
  have hx5 : x5 = a 5 := by rw [ha0]; rfl
  have hx6 : x6 = a 6 := by rw [ha0]; rfl
  have hx7 : x7 = a 7 := by rw [ha0]; rfl
  have hx8 : x8 = a 8 := by rw [ha0]; rfl
  have hx9 : x9 = a 9 := by rw [ha0]; rfl
  have hx10 : x10 = a 10 := by rw [ha0]; rfl
  have hx11 : x11 = a 11 := by rw [ha0]; rfl
  have hx12 : x12 = a 12 := by rw [ha0]; rfl
  have hx13 : x13 = a 13 := by rw [ha0]; rfl
  have hx14 : x14 = a 14 := by rw [ha0]; rfl
  have hx15 : x15 = a 15 := by rw [ha0]; rfl
  have hx16 : x16 = a 16 := by rw [ha0]; rfl
  have hx17 : x17 = a 17 := by rw [ha0]; rfl
  have hx18 : x18 = a 18 := by rw [ha0]; rfl
  have hx19 : x19 = a 19 := by rw [ha0]; rfl
  have hx20 : x20 = a 20 := by rw [ha0]; rfl
  have hx21 : x21 = a 21 := by rw [ha0]; rfl
  have hx22 : x22 = a 22 := by rw [ha0]; rfl
  clear ha0
  subst hx0
  subst hx1
  subst hx2
  subst hx3
  subst hx4
  subst hx5
  subst hx6
  subst hx7
  subst hx8
  subst hx9
  subst hx10
  subst hx11
  subst hx12
  subst hx13
  subst hx14
  subst hx15
  subst hx16
  subst hx17
  subst hx18
  subst hx19
  subst hx20
  subst hx21
  subst hx22
  have EE : ∀ n, n < 23 → Exa s s.heap (a n) "com/example/vizsla/vizsla/core/DerivedQuery$Operator" := fun n hn => by
    rcases own_lt23 hn with rfl | rfl | rfl | rfl | rfl | rfl | rfl | rfl | rfl | rfl | rfl | rfl | rfl | rfl | rfl | rfl | rfl | rfl | rfl | rfl | rfl | rfl | rfl
    · exact E0
    · exact E1
    · exact E2
    · exact E3
    · exact E4
    · exact E5
    · exact E6
    · exact E7
    · exact E8
    · exact E9
    · exact E10
    · exact E11
    · exact E12
    · exact E13
    · exact E14
    · exact E15
    · exact E16
    · exact E17
    · exact E18
    · exact E19
    · exact E20
    · exact E21
    · exact E22
  have OO : ∀ n, n < 23 → Fld s s.heap (a n) "java/lang/Enum" "ordinal" "I" (.int (Int32.ofNat n)) := fun n hn => by
    rcases own_lt23 hn with rfl | rfl | rfl | rfl | rfl | rfl | rfl | rfl | rfl | rfl | rfl | rfl | rfl | rfl | rfl | rfl | rfl | rfl | rfl | rfl | rfl | rfl | rfl
    · exact F_ordinal0
    · exact F_ordinal1
    · exact F_ordinal2
    · exact F_ordinal3
    · exact F_ordinal4
    · exact F_ordinal5
    · exact F_ordinal6
    · exact F_ordinal7
    · exact F_ordinal8
    · exact F_ordinal9
    · exact F_ordinal10
    · exact F_ordinal11
    · exact F_ordinal12
    · exact F_ordinal13
    · exact F_ordinal14
    · exact F_ordinal15
    · exact F_ordinal16
    · exact F_ordinal17
    · exact F_ordinal18
    · exact F_ordinal19
    · exact F_ordinal20
    · exact F_ordinal21
    · exact F_ordinal22
  have DD : ∀ n m, n < 23 → m < 23 → a n = a m → n = m := fun n m hn hm e => own_inj (by omega) (by omega) (OO n hn) (e ▸ OO m hm)
  have FA : ∀ n, (n = 6 ∨ n = 7) → Fld s s.heap (a n) "com/example/vizsla/vizsla/core/DerivedQuery$Operator" "arity" "I" (.int (1 : Int32)) := fun n hn => by
    rcases hn with rfl | rfl
    · exact F_arity6
    · exact F_arity7
  obtain ⟨n, o, h1, h2, h3, _, L, rfl, ⟨rfl, N⟩, hq⟩ := rm0 l s _ hw tables_1 i0 a s.heap s.heap.size (Nat.le_refl _) S0 S1 S2 S3 S4 S5 S6 S7 S8 S9 S10 S11 S12 S13 S14 S15 S16 S17 S18 S19 S20 S21 S22 EE DD FA p e ha hc hk s m _ below hf ((Spec.applies_iff_loose hf).mp happ).1 ⟨rfl, State.Warmed39.refl s, rfl⟩ trivial
  refine ⟨n, _, h1, h2, h3, hpost _ _ _ _ _ _ ⟨Cond.after_iff.mpr rfl, Cond.after_iff.mpr (eq_i res_at (Term.int_eval (1)) rfl), trivial⟩ ⟨hq.1, hq.2.1, (hq.2.2.sift fun y hy => Or.inr (N y hy)).mono (by decide) (by decide)⟩⟩
theorem main_1_1 : Claimed_1_1 := comes_1 fun _ _ _ _ _ _ h hF => ⟨h.1, hF⟩
theorem main_1_2 : Claimed_1_2 := comes_1 fun _ _ _ _ _ _ h hF => ⟨h.2.1, hF⟩
end Jvm.Pilot.@@N@@
namespace Jvm.Pilot.@@N@@
open Jvm Jvm.ClassFile Sem Op Lib Jvm.Free Jvm.Stand Jvm.Pilot.@@N@@.Jvm.D
/-! MADE BY PROGRAM (witnessworld.py) out of the Statement's table words and the real class files: 13 classes; the members and pool entries that the words name. The judged class is class 1, her method 1. -/
namespace start1
open Jvm.ClassFile
def u (s : String) : CpInfo := .utf8 (stringToUtf16 s)
/-- a pool by its gaps: so many unusable entries, then the entry; so many at the end -/
def gap : Nat → List CpInfo → List CpInfo
  | 0, r => r
  | n + 1, r => .unusable :: gap n r
def poolList (es : List (Nat × CpInfo)) (last : Nat) : List CpInfo := es.foldr (fun e r => gap e.1 (e.2 :: r)) (gap last [])
def pool (es : List (Nat × CpInfo)) (last : Nat) : Array CpInfo := ⟨poolList es last⟩
def fileOf (pool : Array CpInfo) (this : Nat) (attrs : Array Attribute := #[]) (ms : Array MethodInfo := #[]) (fl : Nat := 33) (sup : Nat := 0) (ifs : Array Nat := #[]) (fds : Array FieldInfo := #[]) : ClassFile where
  minorVersion := 0
  majorVersion := 65
  constantPool := pool
  accessFlags := fl
  thisClass := this
  superClass := sup
  interfaces := ifs
  fields := fds
  methods := ms
  attributes := attrs
def plain (name : String) (sup : Option ClassId) : Class where
  name := name
  kind := .ordinary
  loader := none
  accessFlags := 33
  super := sup
  interfaces := #[]
  cf := none
  fields := #[]
  methods := #[]
  instanceTypes := #[]
  staticTypes := #[]
  resolved := #[]
  callSites := []
  init := .initialized
  statics := none
  mirror := none

def pool0 : Array CpInfo := pool [(5, u "<init>"), (0, u "()V"), (1, .class_ 10), (1, u "java/lang/Object")] 113

def k0m0 : Method := { name := "<init>", desc := "()V", sig := { parameters := [], returnType := none }, accessFlags := 1, code := none }
/-- java/lang/Object -/
def k0 : Class := { plain "java/lang/Object" none with
  accessFlags := 33
  interfaces := #[]
  cf := some (fileOf pool0 8 #[] #[{ accessFlags := 1, nameIndex := 5, descriptorIndex := 6, attributes := #[] }] 33 0 #[] #[])
  fields := #[]
  methods := #[k0m0]
  instanceTypes := #[]
  staticTypes := #[]
  resolved := Array.replicate 124 none
  statics := none }

def pool1 : Array CpInfo := pool [(2, .class_ 4), (1, u "java/lang/Object"), (0, u "<init>"), (0, u "()V"), (0, .class_ 8), (0, u "com/example/vizsla/vizsla/core/DerivedQuery$Operator"), (0, .fieldref 7 10), (0, .nameAndType 11 12), (0, u "EQUALS"), (0, u "Lcom/example/vizsla/vizsla/core/DerivedQuery$Operator;"), (0, .fieldref 7 14), (0, .nameAndType 15 12), (0, u "NOT"), (0, .fieldref 7 17), (0, .nameAndType 18 12), (0, u "IS_NULL"), (0, .fieldref 7 20), (0, .nameAndType 21 12), (0, u "IS_NOT_NULL"), (0, .fieldref 7 23), (0, .nameAndType 24 12), (0, u "IS_EMPTY"), (0, .fieldref 7 26), (0, .nameAndType 27 12), (0, u "IS_NOT_EMPTY"), (0, .fieldref 7 29), (0, .nameAndType 30 12), (0, u "IN"), (0, .fieldref 7 32), (0, .nameAndType 33 12), (0, u "NOT_IN"), (0, .fieldref 7 35), (0, .nameAndType 36 12), (0, u "TRUE"), (0, .fieldref 7 38), (0, .nameAndType 39 12), (0, u "FALSE"), (0, .fieldref 7 41), (0, .nameAndType 42 12), (0, u "BETWEEN"), (0, .fieldref 7 44), (0, .nameAndType 45 12), (0, u "LESS_THAN"), (0, .fieldref 7 47), (0, .nameAndType 48 12), (0, u "LESS_THAN_EQUAL"), (0, .fieldref 7 50), (0, .nameAndType 51 12), (0, u "GREATER_THAN"), (0, .fieldref 7 53), (0, .nameAndType 54 12), (0, u "GREATER_THAN_EQUAL"), (0, .fieldref 7 56), (0, .nameAndType 57 12), (0, u "AFTER"), (0, .fieldref 7 59), (0, .nameAndType 60 12), (0, u "BEFORE"), (0, .fieldref 7 62), (0, .nameAndType 63 12), (0, u "LIKE"), (0, .fieldref 7 65), (0, .nameAndType 66 12), (0, u "NOT_LIKE"), (0, .fieldref 7 68), (0, .nameAndType 69 12), (0, u "STARTING_WITH"), (0, .fieldref 7 71), (0, .nameAndType 72 12), (0, u "ENDING_WITH"), (0, .fieldref 7 74), (0, .nameAndType 75 12), (0, u "CONTAINING"), (0, .fieldref 7 77), (0, .nameAndType 78 12), (0, u "NOT_CONTAINING"), (0, .integer 2147483647), (0, .methodref 7 81), (0, .nameAndType 82 83), (0, u "takesElements"), (0, u "()Z"), (0, .methodref 7 85), (0, .nameAndType 86 87), (0, u "getArity"), (0, u "()I"), (0, .class_ 89), (0, u "com/example/vizsla/vizsla/core/OperatorTakesElementsPinLaw"), (2, u "law"), (0, u "(I)Z")] 9

def k1m0 : Method := { name := "<init>", desc := "()V", sig := { parameters := [], returnType := none }, accessFlags := 2, code := none }
def k1c1 : Code := { maxStack := 4, maxLocals := 6, code := code, exceptionTable := #[], attributes := #[] }
def k1m1 : Method := { name := "law", desc := "(I)Z", sig := { parameters := [.int], returnType := some .boolean }, accessFlags := 9, code := some k1c1 }
/-- com/example/vizsla/vizsla/core/OperatorTakesElementsPinLaw -/
def k1 : Class := { plain "com/example/vizsla/vizsla/core/OperatorTakesElementsPinLaw" (some 0) with
  accessFlags := 49
  interfaces := #[]
  cf := some (fileOf pool1 88 #[] #[{ accessFlags := 2, nameIndex := 5, descriptorIndex := 6, attributes := #[] }, { accessFlags := 9, nameIndex := 92, descriptorIndex := 93, attributes := #[] }] 49 2 #[] #[])
  fields := #[]
  methods := #[k1m0, k1m1]
  instanceTypes := #[]
  staticTypes := #[]
  resolved := Array.replicate 103 none
  statics := none }

def pool2 : Array CpInfo := pool [(1, .class_ 2), (0, u "java/lang/constant/Constable"), (0, .class_ 4), (0, u "java/lang/Object")] 6

/-- java/lang/constant/Constable -/
def k2 : Class := { plain "java/lang/constant/Constable" (some 0) with
  accessFlags := 1537
  interfaces := #[]
  cf := some (fileOf pool2 1 #[] #[] 1537 3 #[] #[])
  fields := #[]
  methods := #[]
  instanceTypes := #[]
  staticTypes := #[]
  resolved := Array.replicate 11 none
  statics := none }

def pool3 : Array CpInfo := pool [(1, .class_ 2), (0, u "java/lang/Comparable"), (0, .class_ 4), (0, u "java/lang/Object")] 7

/-- java/lang/Comparable -/
def k3 : Class := { plain "java/lang/Comparable" (some 0) with
  accessFlags := 1537
  interfaces := #[]
  cf := some (fileOf pool3 1 #[] #[] 1537 3 #[] #[])
  fields := #[]
  methods := #[]
  instanceTypes := #[]
  staticTypes := #[]
  resolved := Array.replicate 12 none
  statics := none }

def pool4 : Array CpInfo := pool [(1, .class_ 2), (0, u "java/io/Serializable"), (0, .class_ 4), (0, u "java/lang/Object")] 2

/-- java/io/Serializable -/
def k4 : Class := { plain "java/io/Serializable" (some 0) with
  accessFlags := 1537
  interfaces := #[]
  cf := some (fileOf pool4 1 #[] #[] 1537 3 #[] #[])
  fields := #[]
  methods := #[]
  instanceTypes := #[]
  staticTypes := #[]
  resolved := Array.replicate 7 none
  statics := none }

def pool5 : Array CpInfo := pool [(2, .class_ 4), (1, u "java/lang/Enum"), (0, u "name"), (0, u "Ljava/lang/String;"), (2, u "ordinal"), (0, u "I"), (1, .class_ 14), (1, u "java/lang/Object"), (4, u "hash"), (86, .class_ 108), (1, u "java/lang/Enum$EnumDesc"), (2, .class_ 112), (0, u "java/lang/constant/Constable"), (0, .class_ 114), (0, u "java/lang/Comparable"), (0, .class_ 116), (0, u "java/io/Serializable")] 87

/-- java/lang/Enum -/
def k5 : Class := { plain "java/lang/Enum" (some 0) with
  accessFlags := 1057
  interfaces := #[2, 3, 4]
  cf := some (fileOf pool5 2 #[.nestMembers #[106]] #[] 1057 12 #[111, 113, 115] #[{ accessFlags := 18, nameIndex := 5, descriptorIndex := 6, attributes := #[] }, { accessFlags := 18, nameIndex := 9, descriptorIndex := 10, attributes := #[] }, { accessFlags := 2, nameIndex := 19, descriptorIndex := 10, attributes := #[] }])
  fields := #[{ name := "name", type := (.object "java/lang/String"), accessFlags := 18, slot := 0, constantValue := 0 }, { name := "ordinal", type := .int, accessFlags := 18, slot := 1, constantValue := 0 }, { name := "hash", type := .int, accessFlags := 2, slot := 2, constantValue := 0 }]
  methods := #[]
  instanceTypes := #[(.object "java/lang/String"), .int, .int]
  staticTypes := #[]
  resolved := Array.replicate 204 none
  statics := none }

def pool6 : Array CpInfo := pool [(1, .class_ 2), (0, u "com/example/vizsla/vizsla/core/DerivedQuery$Operator"), (2, u "EQUALS"), (0, u "Lcom/example/vizsla/vizsla/core/DerivedQuery$Operator;"), (2, u "NOT"), (2, u "IS_NULL"), (2, u "IS_NOT_NULL"), (2, u "IS_EMPTY"), (2, u "IS_NOT_EMPTY"), (0, .fieldref 1 23), (0, .nameAndType 24 6), (0, u "IN"), (0, .fieldref 1 26), (0, .nameAndType 27 6), (0, u "NOT_IN"), (2, u "TRUE"), (2, u "FALSE"), (2, u "BETWEEN"), (2, u "LESS_THAN"), (2, u "LESS_THAN_EQUAL"), (2, u "GREATER_THAN"), (2, u "GREATER_THAN_EQUAL"), (2, u "AFTER"), (2, u "BEFORE"), (2, u "LIKE"), (2, u "NOT_LIKE"), (2, u "STARTING_WITH"), (2, u "ENDING_WITH"), (2, u "CONTAINING"), (2, u "NOT_CONTAINING"), (2, u "$VALUES"), (0, u "[Lcom/example/vizsla/vizsla/core/DerivedQuery$Operator;"), (6, .class_ 85), (1, u "java/lang/Enum"), (6, .fieldref 1 93), (0, .nameAndType 94 95), (0, u "arity"), (0, u "I"), (2, u "matchesNull"), (0, u "Z"), (2, u "operandType"), (0, u "Ljava/lang/Class;"), (8, u "keywords"), (0, u "Ljava/util/List;"), (149, u "getArity"), (0, u "()I"), (0, u "takesElements"), (0, u "()Z"), (13, .class_ 281), (0, u "com/example/vizsla/vizsla/core/DerivedQuery")] 2

def k6c0 : Code := { maxStack := 1, maxLocals := 1, code := prog_32_method_4_code, exceptionTable := #[], attributes := #[] }
def k6m0 : Method := { name := "getArity", desc := "()I", sig := { parameters := [], returnType := some .int }, accessFlags := 1, code := some k6c0 }
def k6c1 : Code := { maxStack := 2, maxLocals := 1, code := prog_32_method_5_code, exceptionTable := #[], attributes := #[] }
def k6m1 : Method := { name := "takesElements", desc := "()Z", sig := { parameters := [], returnType := some .boolean }, accessFlags := 1, code := some k6c1 }
/-- com/example/vizsla/vizsla/core/DerivedQuery$Operator -/
def k6 : Class := { plain "com/example/vizsla/vizsla/core/DerivedQuery$Operator" (some 5) with
  accessFlags := 16433
  interfaces := #[]
  cf := some (fileOf pool6 1 #[.nestHost 280] #[{ accessFlags := 1, nameIndex := 263, descriptorIndex := 264, attributes := #[] }, { accessFlags := 1, nameIndex := 265, descriptorIndex := 266, attributes := #[] }] 16433 83 #[] #[{ accessFlags := 16409, nameIndex := 5, descriptorIndex := 6, attributes := #[] }, { accessFlags := 16409, nameIndex := 9, descriptorIndex := 6, attributes := #[] }, { accessFlags := 16409, nameIndex := 12, descriptorIndex := 6, attributes := #[] }, { accessFlags := 16409, nameIndex := 15, descriptorIndex := 6, attributes := #[] }, { accessFlags := 16409, nameIndex := 18, descriptorIndex := 6, attributes := #[] }, { accessFlags := 16409, nameIndex := 21, descriptorIndex := 6, attributes := #[] }, { accessFlags := 16409, nameIndex := 24, descriptorIndex := 6, attributes := #[] }, { accessFlags := 16409, nameIndex := 27, descriptorIndex := 6, attributes := #[] }, { accessFlags := 16409, nameIndex := 30, descriptorIndex := 6, attributes := #[] }, { accessFlags := 16409, nameIndex := 33, descriptorIndex := 6, attributes := #[] }, { accessFlags := 16409, nameIndex := 36, descriptorIndex := 6, attributes := #[] }, { accessFlags := 16409, nameIndex := 39, descriptorIndex := 6, attributes := #[] }, { accessFlags := 16409, nameIndex := 42, descriptorIndex := 6, attributes := #[] }, { accessFlags := 16409, nameIndex := 45, descriptorIndex := 6, attributes := #[] }, { accessFlags := 16409, nameIndex := 48, descriptorIndex := 6, attributes := #[] }, { accessFlags := 16409, nameIndex := 51, descriptorIndex := 6, attributes := #[] }, { accessFlags := 16409, nameIndex := 54, descriptorIndex := 6, attributes := #[] }, { accessFlags := 16409, nameIndex := 57, descriptorIndex := 6, attributes := #[] }, { accessFlags := 16409, nameIndex := 60, descriptorIndex := 6, attributes := #[] }, { accessFlags := 16409, nameIndex := 63, descriptorIndex := 6, attributes := #[] }, { accessFlags := 16409, nameIndex := 66, descriptorIndex := 6, attributes := #[] }, { accessFlags := 16409, nameIndex := 69, descriptorIndex := 6, attributes := #[] }, { accessFlags := 16409, nameIndex := 72, descriptorIndex := 6, attributes := #[] }, { accessFlags := 18, nameIndex := 94, descriptorIndex := 95, attributes := #[] }, { accessFlags := 18, nameIndex := 98, descriptorIndex := 99, attributes := #[] }, { accessFlags := 18, nameIndex := 102, descriptorIndex := 103, attributes := #[] }, { accessFlags := 18, nameIndex := 112, descriptorIndex := 113, attributes := #[] }, { accessFlags := 4122, nameIndex := 75, descriptorIndex := 76, attributes := #[] }])
  fields := #[{ name := "EQUALS", type := (.object "com/example/vizsla/vizsla/core/DerivedQuery$Operator"), accessFlags := 16409, slot := 0, constantValue := 0 }, { name := "NOT", type := (.object "com/example/vizsla/vizsla/core/DerivedQuery$Operator"), accessFlags := 16409, slot := 1, constantValue := 0 }, { name := "IS_NULL", type := (.object "com/example/vizsla/vizsla/core/DerivedQuery$Operator"), accessFlags := 16409, slot := 2, constantValue := 0 }, { name := "IS_NOT_NULL", type := (.object "com/example/vizsla/vizsla/core/DerivedQuery$Operator"), accessFlags := 16409, slot := 3, constantValue := 0 }, { name := "IS_EMPTY", type := (.object "com/example/vizsla/vizsla/core/DerivedQuery$Operator"), accessFlags := 16409, slot := 4, constantValue := 0 }, { name := "IS_NOT_EMPTY", type := (.object "com/example/vizsla/vizsla/core/DerivedQuery$Operator"), accessFlags := 16409, slot := 5, constantValue := 0 }, { name := "IN", type := (.object "com/example/vizsla/vizsla/core/DerivedQuery$Operator"), accessFlags := 16409, slot := 6, constantValue := 0 }, { name := "NOT_IN", type := (.object "com/example/vizsla/vizsla/core/DerivedQuery$Operator"), accessFlags := 16409, slot := 7, constantValue := 0 }, { name := "TRUE", type := (.object "com/example/vizsla/vizsla/core/DerivedQuery$Operator"), accessFlags := 16409, slot := 8, constantValue := 0 }, { name := "FALSE", type := (.object "com/example/vizsla/vizsla/core/DerivedQuery$Operator"), accessFlags := 16409, slot := 9, constantValue := 0 }, { name := "BETWEEN", type := (.object "com/example/vizsla/vizsla/core/DerivedQuery$Operator"), accessFlags := 16409, slot := 10, constantValue := 0 }, { name := "LESS_THAN", type := (.object "com/example/vizsla/vizsla/core/DerivedQuery$Operator"), accessFlags := 16409, slot := 11, constantValue := 0 }, { name := "LESS_THAN_EQUAL", type := (.object "com/example/vizsla/vizsla/core/DerivedQuery$Operator"), accessFlags := 16409, slot := 12, constantValue := 0 }, { name := "GREATER_THAN", type := (.object "com/example/vizsla/vizsla/core/DerivedQuery$Operator"), accessFlags := 16409, slot := 13, constantValue := 0 }, { name := "GREATER_THAN_EQUAL", type := (.object "com/example/vizsla/vizsla/core/DerivedQuery$Operator"), accessFlags := 16409, slot := 14, constantValue := 0 }, { name := "AFTER", type := (.object "com/example/vizsla/vizsla/core/DerivedQuery$Operator"), accessFlags := 16409, slot := 15, constantValue := 0 }, { name := "BEFORE", type := (.object "com/example/vizsla/vizsla/core/DerivedQuery$Operator"), accessFlags := 16409, slot := 16, constantValue := 0 }, { name := "LIKE", type := (.object "com/example/vizsla/vizsla/core/DerivedQuery$Operator"), accessFlags := 16409, slot := 17, constantValue := 0 }, { name := "NOT_LIKE", type := (.object "com/example/vizsla/vizsla/core/DerivedQuery$Operator"), accessFlags := 16409, slot := 18, constantValue := 0 }, { name := "STARTING_WITH", type := (.object "com/example/vizsla/vizsla/core/DerivedQuery$Operator"), accessFlags := 16409, slot := 19, constantValue := 0 }, { name := "ENDING_WITH", type := (.object "com/example/vizsla/vizsla/core/DerivedQuery$Operator"), accessFlags := 16409, slot := 20, constantValue := 0 }, { name := "CONTAINING", type := (.object "com/example/vizsla/vizsla/core/DerivedQuery$Operator"), accessFlags := 16409, slot := 21, constantValue := 0 }, { name := "NOT_CONTAINING", type := (.object "com/example/vizsla/vizsla/core/DerivedQuery$Operator"), accessFlags := 16409, slot := 22, constantValue := 0 }, { name := "arity", type := .int, accessFlags := 18, slot := 3, constantValue := 0 }, { name := "matchesNull", type := .boolean, accessFlags := 18, slot := 4, constantValue := 0 }, { name := "operandType", type := (.object "java/lang/Class"), accessFlags := 18, slot := 5, constantValue := 0 }, { name := "keywords", type := (.object "java/util/List"), accessFlags := 18, slot := 6, constantValue := 0 }, { name := "$VALUES", type := (.array (.object "com/example/vizsla/vizsla/core/DerivedQuery$Operator")), accessFlags := 4122, slot := 23, constantValue := 0 }]
  methods := #[k6m0, k6m1]
  instanceTypes := #[(.object "java/lang/String"), .int, .int, .int, .boolean, (.object "java/lang/Class"), (.object "java/util/List")]
  staticTypes := #[(.object "com/example/vizsla/vizsla/core/DerivedQuery$Operator"), (.object "com/example/vizsla/vizsla/core/DerivedQuery$Operator"), (.object "com/example/vizsla/vizsla/core/DerivedQuery$Operator"), (.object "com/example/vizsla/vizsla/core/DerivedQuery$Operator"), (.object "com/example/vizsla/vizsla/core/DerivedQuery$Operator"), (.object "com/example/vizsla/vizsla/core/DerivedQuery$Operator"), (.object "com/example/vizsla/vizsla/core/DerivedQuery$Operator"), (.object "com/example/vizsla/vizsla/core/DerivedQuery$Operator"), (.object "com/example/vizsla/vizsla/core/DerivedQuery$Operator"), (.object "com/example/vizsla/vizsla/core/DerivedQuery$Operator"), (.object "com/example/vizsla/vizsla/core/DerivedQuery$Operator"), (.object "com/example/vizsla/vizsla/core/DerivedQuery$Operator"), (.object "com/example/vizsla/vizsla/core/DerivedQuery$Operator"), (.object "com/example/vizsla/vizsla/core/DerivedQuery$Operator"), (.object "com/example/vizsla/vizsla/core/DerivedQuery$Operator"), (.object "com/example/vizsla/vizsla/core/DerivedQuery$Operator"), (.object "com/example/vizsla/vizsla/core/DerivedQuery$Operator"), (.object "com/example/vizsla/vizsla/core/DerivedQuery$Operator"), (.object "com/example/vizsla/vizsla/core/DerivedQuery$Operator"), (.object "com/example/vizsla/vizsla/core/DerivedQuery$Operator"), (.object "com/example/vizsla/vizsla/core/DerivedQuery$Operator"), (.object "com/example/vizsla/vizsla/core/DerivedQuery$Operator"), (.object "com/example/vizsla/vizsla/core/DerivedQuery$Operator"), (.array (.object "com/example/vizsla/vizsla/core/DerivedQuery$Operator"))]
  resolved := Array.replicate 284 none
  statics := some 0 }

def pool7 : Array CpInfo := pool [(1, u "java/lang/Cloneable"), (0, .class_ 1), (0, u "java/lang/Object"), (0, .class_ 3)] 3

/-- java/lang/Cloneable -/
def k7 : Class := { plain "java/lang/Cloneable" (some 0) with
  accessFlags := 1537
  interfaces := #[]
  cf := some (fileOf pool7 2 #[] #[] 1537 4 #[] #[])
  fields := #[]
  methods := #[]
  instanceTypes := #[]
  staticTypes := #[]
  resolved := Array.replicate 8 none
  statics := none }

/-- the primitive byte -/
def k8 : Class := { plain "byte" none with kind := .primitive 'B', accessFlags := 0x411 }
/-- [B -/
def k9 : Class := { plain "[B" (some 0) with kind := .array 8 .byte, interfaces := #[7, 4], accessFlags := 1041 }

/-- the primitive int -/
def k10 : Class := { plain "int" none with kind := .primitive 'I', accessFlags := 0x411 }
/-- [I -/
def k11 : Class := { plain "[I" (some 0) with kind := .array 10 .int, interfaces := #[7, 4], accessFlags := 1041 }

/-- [Lcom/example/vizsla/vizsla/core/DerivedQuery$Operator; -/
def k12 : Class := { plain "[Lcom/example/vizsla/vizsla/core/DerivedQuery$Operator;" (some 0) with kind := .array 6 (.object "com/example/vizsla/vizsla/core/DerivedQuery$Operator"), interfaces := #[7, 4], accessFlags := 1041 }

def heap : Heap := #[{ cls := 6, slots := #[.ref 1, .ref 2, .ref 3, .ref 4, .ref 5, .ref 6, .ref 7, .ref 8, .ref 9, .ref 10, .ref 11, .ref 12, .ref 13, .ref 14, .ref 15, .ref 16, .ref 17, .ref 18, .ref 19, .ref 20, .ref 21, .ref 22, .ref 23, .null], vm := .statics 6 },
  { cls := 6, slots := #[.null, .int 0, .int 0, .int 1, .int 0, .null, .null], vm := .none },
  { cls := 6, slots := #[.null, .int 1, .int 0, .int 1, .int 0, .null, .null], vm := .none },
  { cls := 6, slots := #[.null, .int 2, .int 0, .int 0, .int 0, .null, .null], vm := .none },
  { cls := 6, slots := #[.null, .int 3, .int 0, .int 0, .int 0, .null, .null], vm := .none },
  { cls := 6, slots := #[.null, .int 4, .int 0, .int 0, .int 0, .null, .null], vm := .none },
  { cls := 6, slots := #[.null, .int 5, .int 0, .int 0, .int 0, .null, .null], vm := .none },
  { cls := 6, slots := #[.null, .int 6, .int 0, .int 1, .int 0, .null, .null], vm := .none },
  { cls := 6, slots := #[.null, .int 7, .int 0, .int 1, .int 0, .null, .null], vm := .none },
  { cls := 6, slots := #[.null, .int 8, .int 0, .int 0, .int 0, .null, .null], vm := .none },
  { cls := 6, slots := #[.null, .int 9, .int 0, .int 0, .int 0, .null, .null], vm := .none },
  { cls := 6, slots := #[.null, .int 10, .int 0, .int 2, .int 0, .null, .null], vm := .none },
  { cls := 6, slots := #[.null, .int 11, .int 0, .int 1, .int 0, .null, .null], vm := .none },
  { cls := 6, slots := #[.null, .int 12, .int 0, .int 1, .int 0, .null, .null], vm := .none },
  { cls := 6, slots := #[.null, .int 13, .int 0, .int 1, .int 0, .null, .null], vm := .none },
  { cls := 6, slots := #[.null, .int 14, .int 0, .int 1, .int 0, .null, .null], vm := .none },
  { cls := 6, slots := #[.null, .int 15, .int 0, .int 1, .int 0, .null, .null], vm := .none },
  { cls := 6, slots := #[.null, .int 16, .int 0, .int 1, .int 0, .null, .null], vm := .none },
  { cls := 6, slots := #[.null, .int 17, .int 0, .int 1, .int 0, .null, .null], vm := .none },
  { cls := 6, slots := #[.null, .int 18, .int 0, .int 1, .int 0, .null, .null], vm := .none },
  { cls := 6, slots := #[.null, .int 19, .int 0, .int 1, .int 0, .null, .null], vm := .none },
  { cls := 6, slots := #[.null, .int 20, .int 0, .int 1, .int 0, .null, .null], vm := .none },
  { cls := 6, slots := #[.null, .int 21, .int 0, .int 1, .int 0, .null, .null], vm := .none },
  { cls := 6, slots := #[.null, .int 22, .int 0, .int 1, .int 0, .null, .null], vm := .none }]
def classes : Array Class := #[k0, k1, k2, k3, k4, k5, k6, k7, k8, k9, k10, k11, k12]
def interned : List (Array UInt16 × Addr) := []
def slotsUsed : Nat := 185
def theMethod : MethodId := ⟨1, 1⟩
def args0 : Array Value := #[.int 5]
def aboutOver (below : List Frame) : State where
  vm := { classes := classes, interned := interned.toArray }
  heap := heap
  slotsUsed := slotsUsed
  threads := #[{ frames := .invoking theMethod args0 :: below }]
def below0 : List Frame := [.native { method := ⟨0, 0⟩, args := #[] }]
def about1 : State := aboutOver below0
def p0 : Program := .bare "" "" ""
def e0 : Env := launch0.env 0 0 0
theorem w_frames : about1.frames = Frame.invoking theMethod args0 :: below0 := rfl
set_option maxRecDepth 65536 in
theorem w_args : argsFit about1.vm theMethod args0 = true := by decide +kernel
set_option maxRecDepth 65536 in
theorem w_heap : heapFits about1 = true := by decide +kernel
set_option maxRecDepth 65536 in
theorem w_runnable : about1.curStatus? = some .runnable := by decide +kernel
set_option maxRecDepth 65536 in
theorem w_alone : about1.alone = true := by decide +kernel
set_option maxRecDepth 65536 in
theorem w_named : about1.methodNamed? x = some theMethod := by decide +kernel
set_option maxRecDepth 65536 in
theorem w_hears : about1.hears theMethod below0 = true := by decide +kernel
set_option maxRecDepth 65536 in
theorem w_ripe : about1.ripe theMethod args0 below0 = true := by decide +kernel
theorem w_running : about1.status = .running := rfl
set_option maxRecDepth 65536 in
theorem w_room : about1.hasRoom e0.platform room_1 = true :=
  launch0.hasRoom_least _ room_1 (by decide +kernel) (by decide +kernel) (by decide +kernel) (by decide +kernel) (by decide +kernel) (by decide +kernel)
theorem allAtoms_all (ts : List Jvm.Cond) (a : Array Jvm.Value) (st : Jvm.State) : (allAtoms ts).before a st = ts.all (fun c => c.before a st) := by
  induction ts with
  | nil => rfl
  | cons c t ih =>
    show (Jvm.Cond.and c (allAtoms t)).before a st = _
    rw [Jvm.Cond.before_and, ih, List.all_cons]
def words1 : List Jvm.Cond := Jvm.Cond.code x code maxLocals ret :: tables_1
/-- a 'code' word, met by the world's own term for the bytes: nothing is compared byte by byte -/
theorem code_word {y : MethodName} {bytes : ByteArray} {mx : Nat} {rt : Option FieldType} {a : Array Value} {s : State} {m : MethodId} {meth : Method} {c : Code} (h1 : s.methodNamed? y = some m) (h2 : s.vm.method? m = some meth) (h3 : meth.code = some c) (h4 : c.code = bytes)
    (h5 : (c.maxLocals == mx && c.exceptionTable.isEmpty && decide (c.maxStack ≤ mostOperands) && decide (meth.sig.returnType = rt) && !meth.locks && decide (parseMethodDescriptor y.desc = some meth.sig)) = true) : (Jvm.Cond.code y bytes mx rt).before a s = true := by
  simp only [Bool.and_eq_true, beq_iff_eq, Bool.not_eq_true', decide_eq_true_eq] at h5
  obtain ⟨⟨⟨⟨⟨g1, g2⟩, g3⟩, g4⟩, g5⟩, g6⟩ := h5
  simp [Cond.before, Cond.holds, Cond.value, h1, h2, h3, h4, g1, g2, g3, g4, g5, g6]
def isCode : Jvm.Cond → Bool
  | .code _ _ _ _ => true
  | _ => false
theorem all_split {L : List Jvm.Cond} {P : Jvm.Cond → Bool} (h1 : L.all (fun c => isCode c || P c) = true) (h2 : ∀ c ∈ L.filter isCode, P c = true) : L.all P = true := by
  refine List.all_eq_true.mpr fun c hc => ?_
  have h := List.all_eq_true.mp h1 c hc
  rcases Bool.eq_false_or_eq_true (isCode c) with hi | hi
  · exact h2 c (List.mem_filter.mpr ⟨hc, hi⟩)
  · simpa [hi] using h
set_option maxRecDepth 65536 in
theorem w_c0 : (Jvm.Cond.code x code maxLocals ret).before args0 about1 = true := code_word (m := ⟨1, 1⟩) (meth := k1m1) (c := k1c1) (by decide +kernel) rfl rfl rfl (by decide +kernel)
set_option maxRecDepth 65536 in
theorem w_c1 : (Jvm.Cond.code ({ cls := "com/example/vizsla/vizsla/core/DerivedQuery$Operator", name := "takesElements", desc := "()Z" } : Jvm.MethodName) prog_32_method_5_code (1 : Nat) (Option.some Jvm.ClassFile.FieldType.boolean)).before args0 about1 = true := code_word (m := ⟨6, 1⟩) (meth := k6m1) (c := k6c1) (by decide +kernel) rfl rfl rfl (by decide +kernel)
set_option maxRecDepth 65536 in
theorem w_c2 : (Jvm.Cond.code ({ cls := "com/example/vizsla/vizsla/core/DerivedQuery$Operator", name := "getArity", desc := "()I" } : Jvm.MethodName) prog_32_method_4_code (1 : Nat) (Option.some Jvm.ClassFile.FieldType.int)).before args0 about1 = true := code_word (m := ⟨6, 0⟩) (meth := k6m0) (c := k6c0) (by decide +kernel) rfl rfl rfl (by decide +kernel)
def codes1 : List Jvm.Cond := [Jvm.Cond.code x code maxLocals ret, Jvm.Cond.code ({ cls := "com/example/vizsla/vizsla/core/DerivedQuery$Operator", name := "takesElements", desc := "()Z" } : Jvm.MethodName) prog_32_method_5_code (1 : Nat) (Option.some Jvm.ClassFile.FieldType.boolean), Jvm.Cond.code ({ cls := "com/example/vizsla/vizsla/core/DerivedQuery$Operator", name := "getArity", desc := "()I" } : Jvm.MethodName) prog_32_method_4_code (1 : Nat) (Option.some Jvm.ClassFile.FieldType.int)]
set_option maxRecDepth 65536 in
theorem codes_eq : words1.filter isCode = codes1 := rfl
theorem w_codes : ∀ c ∈ words1.filter isCode, c.before args0 about1 = true := by
  rw [codes_eq]
  intro c hc
  simp only [codes1, List.mem_cons, List.not_mem_nil, or_false] at hc
  rcases hc with rfl | rfl | rfl
  · exact w_c0
  · exact w_c1
  · exact w_c2
set_option maxRecDepth 65536 in
theorem w_t1 : (words1.take 24).all (fun c => isCode c || c.before args0 about1) = true := by decide +kernel
set_option maxRecDepth 65536 in
theorem w_t2 : ((words1.drop 24).take 24).all (fun c => isCode c || c.before args0 about1) = true := by decide +kernel
set_option maxRecDepth 65536 in
theorem w_t3 : ((words1.drop 24).drop 24).all (fun c => isCode c || c.before args0 about1) = true := by decide +kernel
theorem w_tables : (allAtoms (Jvm.Cond.code x code maxLocals ret :: tables_1)).before args0 about1 = true := by
  rw [allAtoms_all]
  show words1.all (fun c => c.before args0 about1) = true
  refine all_split ?_ w_codes
  rw [← List.take_append_drop 24 words1, List.all_append, w_t1, ← List.take_append_drop 24 (words1.drop 24), List.all_append, w_t2, w_t3]
  rfl
set_option maxRecDepth 65536 in
theorem w_case : (Jvm.Cond.and given_1 narrow_1).before args0 about1 = true := by decide +kernel
theorem w_applies : (headSpec (Jvm.Cond.code x code maxLocals ret :: tables_1) room_1).applies x e0.platform about1 = true :=
  (Spec.applies_iff w_frames).mpr ⟨w_running, w_runnable, w_alone, w_named, w_hears, w_ripe, w_room, w_tables⟩
theorem atStart : AtStart classFile x code maxLocals ret World_1 tables_1 room_1 Calls_1 rest_1 Pre_1 launch0 p0 e0 about1 theMethod args0 below0 :=
  ⟨lists_1, trivial, launch0.admits_env _ _ _, launch0.least_env, fairChoices_fair.cas, fairChoices_fair.clock, w_frames, w_args, w_heap, w_applies, trivial, trivial, w_case⟩
end start1
theorem witness_1 : WitnessClaimed_1 := ⟨start1.p0, start1.e0, start1.about1, start1.theMethod, start1.args0, start1.below0, start1.atStart⟩
end Jvm.Pilot.@@N@@
