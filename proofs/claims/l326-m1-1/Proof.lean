import JvmDerived
import JvmDerived.Pilot.@@N@@Statement
import JvmDerived.Pilot.@@N@@Code
set_option linter.unusedVariables false
set_option linter.unusedSimpArgs false
namespace Jvm.Pilot.@@N@@
open Jvm Jvm.ClassFile Sem Op Lib Jvm.Free Jvm.Stand Jvm.LawKit Jvm.RoadKit Bundle Jvm.Pilot.@@N@@.Jvm.D
/-- what is reached from S1 is reached from S0 -/
abbrev own_K (tb : Tables) (e : Env) (below : List Frame) (S0 S1 : State) : Prop := ∀ t, Steps tb e below S1 t → Steps tb e below S0 t
section Own
variable {p : Program} {l : Launch} {e : Env} {R : Room} {s : State} {m : MethodId} {args : Array Value} {below : List Frame} {meth : Method} {c : Code} {T : State} {locs : List Loc} {cells slots : Nat} {Z : State} {h h' : Heap}
theorem own_lremM {g : JFrame} {target : State} (X : Stand p l e R s m args below meth c T locs cells slots) (hx : p.tables.exec = Jvm.exec) (hg : g.method = m) {x y : Int64} {rest : List Value} (hd : decode c.code g.pc = .ok (.lrem, 1)) (hs : g.stack = .long y :: .long x :: rest) (hy : y ≠ 0)
    (hr : Steps p.tables e below (T.setTop { g with pc := g.pc + 1, stack := .long (x % y) :: rest }) target) : Steps p.tables e below (T.setTop g) target := by
  have q : x - x / y * y = x % y := lrem_mod x y
  exact XS.lrem X.here hx hg hd hs hy (by rw [q]; exact hr)
/-- a static field rides over a write to cells that hold no statics -/
theorem own_staKeep {C n d : String} {w : Value} {ws : List Addr} (F : Sta Z h C n d w) (K : Keep h h' ws) (q : ∀ x ∈ ws, ∀ cell : Cell, h[x]? = some cell → cell.vm.isStatics = false) : Sta Z h' C n d w := by
  obtain ⟨cf, i, k, f, st, cell, h1, h2, h3, h4, h5, h6, h7⟩ := F
  refine ⟨cf, i, k, f, st, cell, h1, h2, h3, h4, K.2.1 st cell h5 (fun hm => ?_), h6, h7⟩
  rw [q st hm cell h5] at h6; cases h6
theorem own_exaNo {a : Addr} {C : String} (E : Exa Z h a C) : ∀ cell : Cell, h[a]? = some cell → cell.vm.isStatics = false := fun cell q => by
  obtain ⟨c1, _, h1, -, -, h4, -⟩ := E
  cases h1.symm.trans q; exact h4
theorem own_selPriv {y : MethodName} {n : Nat} (wi : (Jvm.Cond.instantiable y.cls n).before args s = true) (wp : s.PrivateAt y) (hinst : (Jvm.Cond.instanceMethod y).before args s = true) (hy : y.cls ≠ "java/lang/invoke/MethodHandle" ∧ y.cls ≠ "java/lang/invoke/VarHandle") : (Jvm.Cond.selects y.cls y y).before args s = true := by
  obtain ⟨c, k, h1, h2, -, h4, -⟩ := Cond.instantiable_spec wi
  exact selects_self_of_private h1 h2 (Bool.or_eq_false_iff.mp h4).1 wp hinst hy
/-- a static that holds an object exactly of a class, out of the case's words -/
theorem own_stat {C n d D : String} (hx : (Jvm.Cond.exactly (.static C n d) D).value args Z none Z [] = some true) (w1 : (Jvm.Cond.initialized C).before args Z = true) (w2 : (Jvm.Cond.laysStatic C n d).before args Z = true) :
    ∃ a, Sta Z Z.heap C n d (.ref a) ∧ Exa Z Z.heap a D ∧ (Term.static C n d).eval args Z none [] Z = some (.ref a) := by
  obtain ⟨a, ev⟩ := exa_v hx
  exact ⟨a, Sta.start ev (Or.inr ⟨w1, w2⟩), Exa.start ev hx, ev⟩
theorem own_fldI {t : Term} {a : Addr} {O n d : String} {k : Int32} (ev : t.eval args Z none [] Z = some (.ref a)) (hq : (Jvm.Cond.eq (.field t O n d) (.int k)).value args Z none Z [] = some true) : Fld Z Z.heap a O n d (.int k) := by
  have q := Cond.eq_int (Cond.before_iff.mpr hq) rfl
  rw [fld_at ev] at q
  exact Fld.start q
theorem own_fldJ {t : Term} {a : Addr} {O n d : String} {k : Int64} (ev : t.eval args Z none [] Z = some (.ref a)) (hq : (Jvm.Cond.eq (.field t O n d) (.long k)).value args Z none Z [] = some true) : Fld Z Z.heap a O n d (.long k) := by
  have q := Cond.eq_long (Cond.before_iff.mpr hq) rfl
  rw [fld_at ev] at q
  exact Fld.start q
end Own
def own_bound (a : Int64) (f : Int32) : Int64 := if f = (0 : Int32) then (if a < (-1 : Int64) then (a &&& (9223372036854775807 : Int64)) else a) else (-1 : Int64)
theorem own_bound_ge (a : Int64) (f : Int32) : ¬ own_bound a f < (-1 : Int64) := by
  unfold own_bound
  have t : (-1 : Int64).toInt = -1 := by decide
  have h := c_maskL a 9223372036854775807 63 (by decide) (by decide)
  rw [Int64.lt_iff_toInt_lt]
  split
  · split
    · omega
    · rename_i q
      rw [Int64.lt_iff_toInt_lt] at q
      omega
  · omega
def own_keep (m b : Int64) : Int32 := if m = (-1 : Int64) ∧ b = (-1 : Int64) then 1 else 0
theorem own_pn0 : plainName "com/example/oncelog/oncelog/log/RetentionKeepsAllPinLaw" = true := by first | (simp [plainName, overriddenIn]; done) | decide +kernel
theorem own_d1_0 : decode method_2_code 0 = .ok (.iload_n 2, 1) := by decide +kernel
theorem own_d1_1 : decode method_2_code 1 = .ok (.ifCond .eq 7, 3) := by decide +kernel
theorem own_d1_4 : decode method_2_code 4 = .ok (.ldc2_w 7, 3) := by decide +kernel
theorem own_d1_7 : decode method_2_code 7 = .ok (.lreturn, 1) := by decide +kernel
theorem own_d1_8 : decode method_2_code 8 = .ok (.lload_n 0, 1) := by decide +kernel
theorem own_d1_9 : decode method_2_code 9 = .ok (.ldc2_w 7, 3) := by decide +kernel
theorem own_d1_12 : decode method_2_code 12 = .ok (.lcmp, 1) := by decide +kernel
theorem own_d1_13 : decode method_2_code 13 = .ok (.ifCond .ge 9, 3) := by decide +kernel
theorem own_d1_16 : decode method_2_code 16 = .ok (.lload_n 0, 1) := by decide +kernel
theorem own_d1_17 : decode method_2_code 17 = .ok (.ldc2_w 11, 3) := by decide +kernel
theorem own_d1_20 : decode method_2_code 20 = .ok (.land, 1) := by decide +kernel
theorem own_d1_21 : decode method_2_code 21 = .ok (.lreturn, 1) := by decide +kernel
theorem own_d1_22 : decode method_2_code 22 = .ok (.lload_n 0, 1) := by decide +kernel
theorem own_d1_23 : decode method_2_code 23 = .ok (.lreturn, 1) := by decide +kernel
theorem own_ef1 (m : MethodId) (y0 : Int64) (y1 : Int32) : entryFrame m #[(.long y0), (.int y1)] 3 = mkF m 0 #[.val (.long y0), .second, .val (.int y1)] [] := by first | (simp [entryFrame, mkF, argsToLocals, Value.category]; done) | rfl
def Q1 (Z : State) (a : Int64) (f : Int32) (h0 : Heap) (n0 : Nat) (v : Option Value) (h : Heap) (L : List Loc) : Prop := v = some (.long (own_bound a f)) ∧ Fr n0 L ∧ h = h0
set_option maxRecDepth 65536 in
set_option maxHeartbeats 40000000 in
theorem rm1 (l : Launch) (Z : State) (a0 : Array Value) (hw : ∀ d ∈ tables_1, d.before a0 Z = true) (ws : List Jvm.Cond) (a : Int64) (f : Int32) (h0 : Heap) (n0 : Nat) :
    MetFree l (⟨"com/example/oncelog/oncelog/log/RetentionKeepsAllPinLaw", "bound", "(JI)J"⟩ : MethodName) (head1 (Jvm.Cond.code (⟨"com/example/oncelog/oncelog/log/RetentionKeepsAllPinLaw", "bound", "(JI)J"⟩ : MethodName) method_2_code 3 (some .long) :: ws) ({ frames := 0, cells := 0, slots := 0, locals := 0 } : Room)) (fun aaz U => aaz = #[(.long a), (.int f)] ∧ Z.Warmed39 U.vm ∧ U.heap = h0) (fun _ _ _ _ _ => True) (fun _ U o U' => ∃ v L, o = .returned v ∧ Q1 Z a f h0 n0 v U'.heap L ∧ FrameEnd U o U' L ({ frames := 0, cells := 0, slots := 0, locals := 0 } : Room).cells ({ frames := 0, cells := 0, slots := 0, locals := 0 } : Room).slots) := by
  refine MetFree.of_bodySF (plainFor_of_name own_pn0) hisR ?_
  intro p e s m args below meth c s₁ Bd hml0 hP hK
  obtain ⟨rfl, hZ, hh⟩ := hP
  have hx := Bd.exec
  have hby := Bd.bytes
  have hml : c.maxLocals = 3 := hml0
  have hown : s.vm.findClass "com/example/oncelog/oncelog/log/RetentionKeepsAllPinLaw" = some m.cls := findClass_of_methodNamed Bd.named
  have hnm := (name_of_methodNamed Bd.named Bd.method).1
  have X0 : Stand p l e ({ frames := 0, cells := 0, slots := 0, locals := 0 } : Room) s m #[(.long a), (.int f)] below meth c s₁ [] 0 0 := Stand.of_body Bd
  have e0 : s₁.heap = h0 := by rw [← hh, Bd.state]; rfl
  have N0 := Fr.nil n0
  have k : own_K p.tables e below (s₁.setTop (entryFrame m #[(.long a), (.int f)] 3)) (s₁.setTop (mkF m 0 #[.val (.long a), .second, .val (.int f)] [])) := fun t h => castTop (own_ef1 m a f) h
  replace k : own_K p.tables e below (s₁.setTop (entryFrame m #[(.long a), (.int f)] 3)) (s₁.setTop (mkF m 1 #[.val (.long a), .second, .val (.int f)] [(.int f)])) := fun t h => k t (XS.iloadN X0.here hx rfl (hb hby own_d1_0) rfl h)
  by_cases cc1 : f = (0 : Int32)
  · replace k : own_K p.tables e below (s₁.setTop (entryFrame m #[(.long a), (.int f)] 3)) (s₁.setTop (mkF m 8 #[.val (.long a), .second, .val (.int f)] [])) := fun t h => k t (XS.ifYes X0.here hx rfl (pc0 := 1) (pc' := 8) rfl (hb hby own_d1_1) rfl ((if0 _ _).trans (teq cc1).1) (by decide) (by decide) h)
    replace k : own_K p.tables e below (s₁.setTop (entryFrame m #[(.long a), (.int f)] 3)) (s₁.setTop (mkF m 9 #[.val (.long a), .second, .val (.int f)] [(.long a)])) := fun t h => k t (XS.lloadN X0.here hx rfl (hb hby own_d1_8) rfl h)
    replace k : own_K p.tables e below (s₁.setTop (entryFrame m #[(.long a), (.int f)] 3)) (s₁.setTop (mkF m 12 #[.val (.long a), .second, .val (.int f)] [(.long (-1 : Int64)), (.long a)])) := fun t h => k t (X0.ldc2Long hx hown (mvT hZ (hw _ (List.mem_of_getElem? (i := 4) rfl))) (g := (mkF m 9 #[.val (.long a), .second, .val (.int f)] [(.long a)])) rfl (hb hby own_d1_9) _ h)
    replace k : own_K p.tables e below (s₁.setTop (entryFrame m #[(.long a), (.int f)] 3)) (s₁.setTop (mkF m 13 #[.val (.long a), .second, .val (.int f)] [(.int (lcmpW a (-1 : Int64)))])) := fun t h => k t (XS.lcmp X0.here hx rfl (hb hby own_d1_12) rfl h)
    by_cases cc2 : a < (-1 : Int64)
    · replace k : own_K p.tables e below (s₁.setTop (entryFrame m #[(.long a), (.int f)] 3)) (s₁.setTop (mkF m 16 #[.val (.long a), .second, .val (.int f)] [])) := fun t h => k t (XS.ifNo X0.here hx rfl (hb hby own_d1_13) rfl ((if0 _ _).trans (tlt ((lw_lt _ _).mpr cc2)).2.1) h)
      replace k : own_K p.tables e below (s₁.setTop (entryFrame m #[(.long a), (.int f)] 3)) (s₁.setTop (mkF m 17 #[.val (.long a), .second, .val (.int f)] [(.long a)])) := fun t h => k t (XS.lloadN X0.here hx rfl (hb hby own_d1_16) rfl h)
      replace k : own_K p.tables e below (s₁.setTop (entryFrame m #[(.long a), (.int f)] 3)) (s₁.setTop (mkF m 20 #[.val (.long a), .second, .val (.int f)] [(.long (9223372036854775807 : Int64)), (.long a)])) := fun t h => k t (X0.ldc2Long hx hown (mvT hZ (hw _ (List.mem_of_getElem? (i := 41) rfl))) (g := (mkF m 17 #[.val (.long a), .second, .val (.int f)] [(.long a)])) rfl (hb hby own_d1_17) _ h)
      replace k : own_K p.tables e below (s₁.setTop (entryFrame m #[(.long a), (.int f)] 3)) (s₁.setTop (mkF m 21 #[.val (.long a), .second, .val (.int f)] [(.long (a &&& (9223372036854775807 : Int64)))])) := fun t h => k t (XS.land X0.here hx rfl (hb hby own_d1_20) rfl h)
      obtain ⟨fs, hr, hrun, hended, hW, hsame⟩ := X0.leave (v := some (.long (a &&& (9223372036854775807 : Int64)))) (fun h => by rw [Bd.returns] at h; cases h)
      refine ⟨_, _, k _ (retOut X0 hx Bd.returns rfl (Or.inr (Or.inl ⟨rfl, rfl, _, rfl⟩)) (hb hby own_d1_21) hr), hrun, hended, _, _, rfl, ?_, ⟨_, rfl⟩, hW, hsame.mono (by decide) (by decide)⟩
      show Q1 Z a f h0 n0 _ s₁.heap _
      rw [e0]
      exact ⟨(by simp [own_bound, cc1, cc2]), N0, rfl⟩
    · replace k : own_K p.tables e below (s₁.setTop (entryFrame m #[(.long a), (.int f)] 3)) (s₁.setTop (mkF m 22 #[.val (.long a), .second, .val (.int f)] [])) := fun t h => k t (XS.ifYes X0.here hx rfl (pc0 := 13) (pc' := 22) rfl (hb hby own_d1_13) rfl ((if0 _ _).trans (flt (fun q => cc2 ((lw_lt _ _).mp q))).2.1) (by decide) (by decide) h)
      replace k : own_K p.tables e below (s₁.setTop (entryFrame m #[(.long a), (.int f)] 3)) (s₁.setTop (mkF m 23 #[.val (.long a), .second, .val (.int f)] [(.long a)])) := fun t h => k t (XS.lloadN X0.here hx rfl (hb hby own_d1_22) rfl h)
      obtain ⟨fs, hr, hrun, hended, hW, hsame⟩ := X0.leave (v := some (.long a)) (fun h => by rw [Bd.returns] at h; cases h)
      refine ⟨_, _, k _ (retOut X0 hx Bd.returns rfl (Or.inr (Or.inl ⟨rfl, rfl, _, rfl⟩)) (hb hby own_d1_23) hr), hrun, hended, _, _, rfl, ?_, ⟨_, rfl⟩, hW, hsame.mono (by decide) (by decide)⟩
      show Q1 Z a f h0 n0 _ s₁.heap _
      rw [e0]
      exact ⟨(by simp [own_bound, cc1, cc2]), N0, rfl⟩
  · replace k : own_K p.tables e below (s₁.setTop (entryFrame m #[(.long a), (.int f)] 3)) (s₁.setTop (mkF m 4 #[.val (.long a), .second, .val (.int f)] [])) := fun t h => k t (XS.ifNo X0.here hx rfl (hb hby own_d1_1) rfl ((if0 _ _).trans (feq cc1).1) h)
    replace k : own_K p.tables e below (s₁.setTop (entryFrame m #[(.long a), (.int f)] 3)) (s₁.setTop (mkF m 7 #[.val (.long a), .second, .val (.int f)] [(.long (-1 : Int64))])) := fun t h => k t (X0.ldc2Long hx hown (mvT hZ (hw _ (List.mem_of_getElem? (i := 4) rfl))) (g := (mkF m 4 #[.val (.long a), .second, .val (.int f)] [])) rfl (hb hby own_d1_4) _ h)
    obtain ⟨fs, hr, hrun, hended, hW, hsame⟩ := X0.leave (v := some (.long (-1 : Int64))) (fun h => by rw [Bd.returns] at h; cases h)
    refine ⟨_, _, k _ (retOut X0 hx Bd.returns rfl (Or.inr (Or.inl ⟨rfl, rfl, _, rfl⟩)) (hb hby own_d1_7) hr), hrun, hended, _, _, rfl, ?_, ⟨_, rfl⟩, hW, hsame.mono (by decide) (by decide)⟩
    show Q1 Z a f h0 n0 _ s₁.heap _
    rw [e0]
    exact ⟨(by simp [own_bound, cc1]), N0, rfl⟩
theorem own_pn1 : plainName "java/lang/Record" = true := by first | (simp [plainName, overriddenIn]; done) | decide +kernel
theorem own_d3_0 : decode jdk_30_method_1_code 0 = .ok (.aload_n 0, 1) := by decide +kernel
theorem own_d3_1 : decode jdk_30_method_1_code 1 = .ok (.invokespecial 1, 3) := by decide +kernel
theorem own_d3_4 : decode jdk_30_method_1_code 4 = .ok (.return_, 1) := by decide +kernel
theorem own_ef2 (m : MethodId) (y0 : Addr) : entryFrame m #[(.ref y0)] 1 = mkF m 0 #[.val (.ref y0)] [] := by first | (simp [entryFrame, mkF, argsToLocals, Value.category]; done) | rfl
def Q2 (Z : State) (a1 : Addr) (h0 : Heap) (n0 : Nat) (v : Option Value) (h : Heap) (L : List Loc) : Prop := v = none ∧ Fr n0 L ∧ h = h0
set_option maxRecDepth 65536 in
set_option maxHeartbeats 40000000 in
theorem rm2 (l : Launch) (Z : State) (a0 : Array Value) (hw : ∀ d ∈ tables_1, d.before a0 Z = true) (ws : List Jvm.Cond) (a1 : Addr) (h0 : Heap) (n0 : Nat) :
    MetFree l (⟨"java/lang/Record", "<init>", "()V"⟩ : MethodName) (head1 (Jvm.Cond.code (⟨"java/lang/Record", "<init>", "()V"⟩ : MethodName) jdk_30_method_1_code 1 none :: ws) ({ frames := 1, cells := 0, slots := 0, locals := 12 } : Room)) (fun aaz U => aaz = #[(.ref a1)] ∧ Z.Warmed39 U.vm ∧ U.heap = h0) (fun _ _ _ _ _ => True) (fun _ U o U' => ∃ v L, o = .returned v ∧ Q2 Z a1 h0 n0 v U'.heap L ∧ FrameEnd U o U' L ({ frames := 1, cells := 0, slots := 0, locals := 12 } : Room).cells ({ frames := 1, cells := 0, slots := 0, locals := 12 } : Room).slots) := by
  refine MetFree.of_bodySF (plainFor_of_name own_pn1) hisR ?_
  intro p e s m args below meth c s₁ Bd hml0 hP hK
  obtain ⟨rfl, hZ, hh⟩ := hP
  have hx := Bd.exec
  have hby := Bd.bytes
  have hml : c.maxLocals = 1 := hml0
  have hown : s.vm.findClass "java/lang/Record" = some m.cls := findClass_of_methodNamed Bd.named
  have hnm := (name_of_methodNamed Bd.named Bd.method).1
  have X0 : Stand p l e ({ frames := 1, cells := 0, slots := 0, locals := 12 } : Room) s m #[(.ref a1)] below meth c s₁ [] 0 0 := Stand.of_body Bd
  have e0 : s₁.heap = h0 := by rw [← hh, Bd.state]; rfl
  have N0 := Fr.nil n0
  have k : own_K p.tables e below (s₁.setTop (entryFrame m #[(.ref a1)] 1)) (s₁.setTop (mkF m 0 #[.val (.ref a1)] [])) := fun t h => castTop (own_ef2 m a1) h
  replace k : own_K p.tables e below (s₁.setTop (entryFrame m #[(.ref a1)] 1)) (s₁.setTop (mkF m 1 #[.val (.ref a1)] [(.ref a1)])) := fun t h => k t (XS.aloadN X0.here hx rfl (hb hby own_d3_0) rfl rfl h)
  obtain ⟨T1, X1, e1, st1⟩ := initO X0 hx hZ hown (hw _ (List.mem_of_getElem? (i := 16) rfl)) (hw _ (List.mem_of_getElem? (i := 17) rfl)) (hw _ (List.mem_of_getElem? (i := 18) rfl)) e0 (g := (mkF m 1 #[.val (.ref a1)] [(.ref a1)])) rfl (by rw [hml]; rfl) rfl (hb hby own_d3_1) (by decide) (W := 0) (by show 2 * 0 + _ ≤ _; exact Nat.le_of_eq rfl) (by decide)
  replace k : own_K p.tables e below (s₁.setTop (entryFrame m #[(.ref a1)] 1)) (T1.setTop (mkF m 4 #[.val (.ref a1)] [])) := fun t h => k t (st1 _ h)
  obtain ⟨fs, hr, hrun, hended, hW, hsame⟩ := X1.leave (v := none) (fun _ => rfl)
  refine ⟨_, _, k _ (X1.returnOut hx Bd.returns (hb hby own_d3_4) hr), hrun, hended, _, _, rfl, ?_, ⟨_, rfl⟩, hW, hsame.mono (by decide) (by decide)⟩
  show Q2 Z a1 h0 n0 _ T1.heap _
  rw [e1]
  exact ⟨rfl, N0, rfl⟩
theorem own_pn2 : plainName "com/example/oncelog/oncelog/log/Retention" = true := by first | (simp [plainName, overriddenIn]; done) | decide +kernel
theorem own_pd0 : parseMethodDescriptor "()V" = some ⟨[], none⟩ := by decide +kernel
theorem own_d2_0 : decode prog_147_method_1_code 0 = .ok (.aload_n 0, 1) := by decide +kernel
theorem own_d2_1 : decode prog_147_method_1_code 1 = .ok (.invokespecial 1, 3) := by decide +kernel
theorem own_d2_4 : decode prog_147_method_1_code 4 = .ok (.lload_n 1, 1) := by decide +kernel
theorem own_d2_5 : decode prog_147_method_1_code 5 = .ok (.ldc2_w 9, 3) := by decide +kernel
theorem own_d2_8 : decode prog_147_method_1_code 8 = .ok (.lcmp, 1) := by decide +kernel
theorem own_d2_9 : decode prog_147_method_1_code 9 = .ok (.ifCond .lt 11, 3) := by decide +kernel
theorem own_d2_12 : decode prog_147_method_1_code 12 = .ok (.lload_n 3, 1) := by decide +kernel
theorem own_d2_13 : decode prog_147_method_1_code 13 = .ok (.ldc2_w 9, 3) := by decide +kernel
theorem own_d2_16 : decode prog_147_method_1_code 16 = .ok (.lcmp, 1) := by decide +kernel
theorem own_d2_17 : decode prog_147_method_1_code 17 = .ok (.ifCond .ge 18, 3) := by decide +kernel
theorem own_d2_35 : decode prog_147_method_1_code 35 = .ok (.aload_n 0, 1) := by decide +kernel
theorem own_d2_36 : decode prog_147_method_1_code 36 = .ok (.lload_n 1, 1) := by decide +kernel
theorem own_d2_37 : decode prog_147_method_1_code 37 = .ok (.putfield 20, 3) := by decide +kernel
theorem own_d2_40 : decode prog_147_method_1_code 40 = .ok (.aload_n 0, 1) := by decide +kernel
theorem own_d2_41 : decode prog_147_method_1_code 41 = .ok (.lload_n 3, 1) := by decide +kernel
theorem own_d2_42 : decode prog_147_method_1_code 42 = .ok (.putfield 24, 3) := by decide +kernel
theorem own_d2_45 : decode prog_147_method_1_code 45 = .ok (.return_, 1) := by decide +kernel
theorem own_ef3 (m : MethodId) (y0 : Addr) (y1 : Int64) (y2 : Int64) : entryFrame m #[(.ref y0), (.long y1), (.long y2)] 5 = mkF m 0 #[.val (.ref y0), .val (.long y1), .second, .val (.long y2), .second] [] := by first | (simp [entryFrame, mkF, argsToLocals, Value.category]; done) | rfl
def Q3 (Z : State) (a1 : Addr) (m1 : Int64) (b1 : Int64) (u1 : Value) (u2 : Value) (h0 : Heap) (n0 : Nat) (v : Option Value) (h : Heap) (L : List Loc) : Prop := v = none ∧ Fr n0 L ∧ Keep h0 h [a1] ∧ Exa Z h a1 "com/example/oncelog/oncelog/log/Retention" ∧ Fld Z h a1 "com/example/oncelog/oncelog/log/Retention" "ms" "J" (.long m1) ∧ Fld Z h a1 "com/example/oncelog/oncelog/log/Retention" "bytes" "J" (.long b1)
set_option maxRecDepth 65536 in
set_option maxHeartbeats 40000000 in
theorem rm3 (l : Launch) (Z : State) (a0 : Array Value) (hw : ∀ d ∈ tables_1, d.before a0 Z = true) (ws : List Jvm.Cond) (a1 : Addr) (m1 : Int64) (b1 : Int64) (u1 : Value) (u2 : Value) (h0 : Heap) (n0 : Nat) (E1 : Exa Z h0 a1 "com/example/oncelog/oncelog/log/Retention") (F_ms : Fld Z h0 a1 "com/example/oncelog/oncelog/log/Retention" "ms" "J" u1) (F_bytes : Fld Z h0 a1 "com/example/oncelog/oncelog/log/Retention" "bytes" "J" u2) (g1 : n0 ≤ a1) (c1 : ¬ m1 < (-1 : Int64)) (c2 : ¬ b1 < (-1 : Int64)) :
    MetFree l (⟨"com/example/oncelog/oncelog/log/Retention", "<init>", "(JJ)V"⟩ : MethodName) (head1 (Jvm.Cond.code (⟨"com/example/oncelog/oncelog/log/Retention", "<init>", "(JJ)V"⟩ : MethodName) prog_147_method_1_code 5 none :: ws) ({ frames := 2, cells := 0, slots := 0, locals := 24 } : Room)) (fun aaz U => aaz = #[(.ref a1), (.long m1), (.long b1)] ∧ Z.Warmed39 U.vm ∧ U.heap = h0) (fun _ _ _ _ _ => True) (fun _ U o U' => ∃ v L, o = .returned v ∧ Q3 Z a1 m1 b1 u1 u2 h0 n0 v U'.heap L ∧ FrameEnd U o U' L ({ frames := 2, cells := 0, slots := 0, locals := 24 } : Room).cells ({ frames := 2, cells := 0, slots := 0, locals := 24 } : Room).slots) := by
  refine MetFree.of_bodySF (plainFor_of_name own_pn2) hisR ?_
  intro p e s m args below meth c s₁ Bd hml0 hP hK
  obtain ⟨rfl, hZ, hh⟩ := hP
  have hx := Bd.exec
  have hby := Bd.bytes
  have hml : c.maxLocals = 5 := hml0
  have hown : s.vm.findClass "com/example/oncelog/oncelog/log/Retention" = some m.cls := findClass_of_methodNamed Bd.named
  have hnm := (name_of_methodNamed Bd.named Bd.method).1
  have X0 : Stand p l e ({ frames := 2, cells := 0, slots := 0, locals := 24 } : Room) s m #[(.ref a1), (.long m1), (.long b1)] below meth c s₁ [] 0 0 := Stand.of_body Bd
  have e0 : s₁.heap = h0 := by rw [← hh, Bd.state]; rfl
  have N0 := Fr.nil n0
  have k : own_K p.tables e below (s₁.setTop (entryFrame m #[(.ref a1), (.long m1), (.long b1)] 5)) (s₁.setTop (mkF m 0 #[.val (.ref a1), .val (.long m1), .second, .val (.long b1), .second] [])) := fun t h => castTop (own_ef3 m a1 m1 b1) h
  have K1 : Keep h0 h0 [a1] := Keep.refl h0 [a1]
  replace k : own_K p.tables e below (s₁.setTop (entryFrame m #[(.ref a1), (.long m1), (.long b1)] 5)) (s₁.setTop (mkF m 1 #[.val (.ref a1), .val (.long m1), .second, .val (.long b1), .second] [(.ref a1)])) := fun t h => k t (XS.aloadN X0.here hx rfl (hb hby own_d2_0) rfl rfl h)
  obtain ⟨_, _, ⟨T2, L2, kk2, n2⟩, -, X2, ⟨Lc2, hQ2, l2, y2, z2⟩, st2⟩ := X0.specialBack hx (y := (⟨"java/lang/Record", "<init>", "()V"⟩ : MethodName)) rfl hown (mvT hZ (hw _ (List.mem_of_getElem? (i := 11) rfl))) (mvT hZ (hw _ (List.mem_of_getElem? (i := 12) rfl))) (mvT hZ (hw _ (List.mem_of_getElem? (i := 15) rfl))) (by decide) (backOf (W := 0) (rm2 l Z a0 hw [] a1 h0 n0) hZ (hw _ (List.mem_of_getElem? (i := 15) rfl)) (hw _ (List.mem_of_getElem? (i := 14) rfl)) (by decide) (by decide)) (g := (mkF m 1 #[.val (.ref a1), .val (.long m1), .second, .val (.long b1), .second] [(.ref a1)])) rfl (by rw [hml]; rfl) (Steps.refl _) (a := a1) (argsL := []) (rest := []) (lenOf own_pd0 rfl) rfl (by show 2 * 0 + _ ≤ _; exact Nat.le_of_eq rfl) (hb hby own_d2_1) (fun _ _ => ⟨rfl, e0, (by decide : 0 + 0 ≤ _), (by decide : 0 + 0 ≤ _)⟩)
  dsimp only [Pt.U, Pt.locs, Pt.cells, Pt.slots] at X2 l2 y2 z2 st2 hQ2
  subst l2 y2 z2
  obtain ⟨rfl, N2q, eq1⟩ := hQ2
  have N2 := Fr.app N0 N2q
  replace k : own_K p.tables e below (s₁.setTop (entryFrame m #[(.ref a1), (.long m1), (.long b1)] 5)) (T2.setTop (mkF m 4 #[.val (.ref a1), .val (.long m1), .second, .val (.long b1), .second] [])) := fun t h => k t (st2.trans h)
  replace k : own_K p.tables e below (s₁.setTop (entryFrame m #[(.ref a1), (.long m1), (.long b1)] 5)) (T2.setTop (mkF m 5 #[.val (.ref a1), .val (.long m1), .second, .val (.long b1), .second] [(.long m1)])) := fun t h => k t (XS.lloadN X2.here hx rfl (hb hby own_d2_4) rfl h)
  replace k : own_K p.tables e below (s₁.setTop (entryFrame m #[(.ref a1), (.long m1), (.long b1)] 5)) (T2.setTop (mkF m 8 #[.val (.ref a1), .val (.long m1), .second, .val (.long b1), .second] [(.long (-1 : Int64)), (.long m1)])) := fun t h => k t (X2.ldc2Long hx hown (mvT hZ (hw _ (List.mem_of_getElem? (i := 19) rfl))) (g := (mkF m 5 #[.val (.ref a1), .val (.long m1), .second, .val (.long b1), .second] [(.long m1)])) rfl (hb hby own_d2_5) _ h)
  replace k : own_K p.tables e below (s₁.setTop (entryFrame m #[(.ref a1), (.long m1), (.long b1)] 5)) (T2.setTop (mkF m 9 #[.val (.ref a1), .val (.long m1), .second, .val (.long b1), .second] [(.int (lcmpW m1 (-1 : Int64)))])) := fun t h => k t (XS.lcmp X2.here hx rfl (hb hby own_d2_8) rfl h)
  replace k : own_K p.tables e below (s₁.setTop (entryFrame m #[(.ref a1), (.long m1), (.long b1)] 5)) (T2.setTop (mkF m 12 #[.val (.ref a1), .val (.long m1), .second, .val (.long b1), .second] [])) := fun t h => k t (XS.ifNo X2.here hx rfl (hb hby own_d2_9) rfl ((if0 _ _).trans (flt (fun q => c1 ((lw_lt _ _).mp q))).1) h)
  replace k : own_K p.tables e below (s₁.setTop (entryFrame m #[(.ref a1), (.long m1), (.long b1)] 5)) (T2.setTop (mkF m 13 #[.val (.ref a1), .val (.long m1), .second, .val (.long b1), .second] [(.long b1)])) := fun t h => k t (XS.lloadN X2.here hx rfl (hb hby own_d2_12) rfl h)
  replace k : own_K p.tables e below (s₁.setTop (entryFrame m #[(.ref a1), (.long m1), (.long b1)] 5)) (T2.setTop (mkF m 16 #[.val (.ref a1), .val (.long m1), .second, .val (.long b1), .second] [(.long (-1 : Int64)), (.long b1)])) := fun t h => k t (X2.ldc2Long hx hown (mvT hZ (hw _ (List.mem_of_getElem? (i := 19) rfl))) (g := (mkF m 13 #[.val (.ref a1), .val (.long m1), .second, .val (.long b1), .second] [(.long b1)])) rfl (hb hby own_d2_13) _ h)
  replace k : own_K p.tables e below (s₁.setTop (entryFrame m #[(.ref a1), (.long m1), (.long b1)] 5)) (T2.setTop (mkF m 17 #[.val (.ref a1), .val (.long m1), .second, .val (.long b1), .second] [(.int (lcmpW b1 (-1 : Int64)))])) := fun t h => k t (XS.lcmp X2.here hx rfl (hb hby own_d2_16) rfl h)
  replace k : own_K p.tables e below (s₁.setTop (entryFrame m #[(.ref a1), (.long m1), (.long b1)] 5)) (T2.setTop (mkF m 35 #[.val (.ref a1), .val (.long m1), .second, .val (.long b1), .second] [])) := fun t h => k t (XS.ifYes X2.here hx rfl (pc0 := 17) (pc' := 35) rfl (hb hby own_d2_17) rfl ((if0 _ _).trans (flt (fun q => c2 ((lw_lt _ _).mp q))).2.1) (by decide) (by decide) h)
  replace k : own_K p.tables e below (s₁.setTop (entryFrame m #[(.ref a1), (.long m1), (.long b1)] 5)) (T2.setTop (mkF m 36 #[.val (.ref a1), .val (.long m1), .second, .val (.long b1), .second] [(.ref a1)])) := fun t h => k t (XS.aloadN X2.here hx rfl (hb hby own_d2_35) rfl rfl h)
  replace k : own_K p.tables e below (s₁.setTop (entryFrame m #[(.ref a1), (.long m1), (.long b1)] 5)) (T2.setTop (mkF m 37 #[.val (.ref a1), .val (.long m1), .second, .val (.long b1), .second] [(.long m1), (.ref a1)])) := fun t h => k t (XS.lloadN X2.here hx rfl (hb hby own_d2_36) rfl h)
  obtain ⟨T3, h3, X3, e3, W3, st3⟩ := putF X2 hx hZ hown (host := "") (Or.inl (hw _ (List.mem_of_getElem? (i := 20) rfl))) Via.refl eq1 F_ms E1 (Or.inr ⟨(hw _ (List.mem_of_getElem? (i := 21) rfl)), rfl, hnm⟩) (hw _ (List.mem_of_getElem? (i := 6) rfl)) (ty := .long) (by decide) rfl rfl (g := (mkF m 37 #[.val (.ref a1), .val (.long m1), .second, .val (.long b1), .second] [(.long m1), (.ref a1)])) rfl rfl (hb hby own_d2_37)
  have N3 := Fr.snoc X3 N2 g1
  replace k : own_K p.tables e below (s₁.setTop (entryFrame m #[(.ref a1), (.long m1), (.long b1)] 5)) (T3.setTop (mkF m 40 #[.val (.ref a1), .val (.long m1), .second, .val (.long b1), .second] [])) := fun t h => k t (st3 _ h)
  replace F_ms := F_ms.same W3
  replace F_bytes := F_bytes.other W3 (Or.inr (slot_ne (Or.inr (hw _ (List.mem_of_getElem? (i := 23) rfl))) (Or.inr (hw _ (List.mem_of_getElem? (i := 21) rfl))) (by decide) (t := .long) (t' := .long) (by decide) (by decide)))
  replace E1 := E1.wr W3
  replace K1 := K1.wr W3 (Or.inl (List.mem_of_getElem? (i := 0) rfl))
  replace k : own_K p.tables e below (s₁.setTop (entryFrame m #[(.ref a1), (.long m1), (.long b1)] 5)) (T3.setTop (mkF m 41 #[.val (.ref a1), .val (.long m1), .second, .val (.long b1), .second] [(.ref a1)])) := fun t h => k t (XS.aloadN X3.here hx rfl (hb hby own_d2_40) rfl rfl h)
  replace k : own_K p.tables e below (s₁.setTop (entryFrame m #[(.ref a1), (.long m1), (.long b1)] 5)) (T3.setTop (mkF m 42 #[.val (.ref a1), .val (.long m1), .second, .val (.long b1), .second] [(.long b1), (.ref a1)])) := fun t h => k t (XS.lloadN X3.here hx rfl (hb hby own_d2_41) rfl h)
  obtain ⟨T4, h4, X4, e4, W4, st4⟩ := putF X3 hx hZ hown (host := "") (Or.inl (hw _ (List.mem_of_getElem? (i := 22) rfl))) Via.refl e3 F_bytes E1 (Or.inr ⟨(hw _ (List.mem_of_getElem? (i := 23) rfl)), rfl, hnm⟩) (hw _ (List.mem_of_getElem? (i := 6) rfl)) (ty := .long) (by decide) rfl rfl (g := (mkF m 42 #[.val (.ref a1), .val (.long m1), .second, .val (.long b1), .second] [(.long b1), (.ref a1)])) rfl rfl (hb hby own_d2_42)
  have N4 := Fr.snoc X4 N3 g1
  replace k : own_K p.tables e below (s₁.setTop (entryFrame m #[(.ref a1), (.long m1), (.long b1)] 5)) (T4.setTop (mkF m 45 #[.val (.ref a1), .val (.long m1), .second, .val (.long b1), .second] [])) := fun t h => k t (st4 _ h)
  replace F_bytes := F_bytes.same W4
  replace F_ms := F_ms.other W4 (Or.inr (slot_ne (Or.inr (hw _ (List.mem_of_getElem? (i := 21) rfl))) (Or.inr (hw _ (List.mem_of_getElem? (i := 23) rfl))) (by decide) (t := .long) (t' := .long) (by decide) (by decide)))
  replace E1 := E1.wr W4
  replace K1 := K1.wr W4 (Or.inl (List.mem_of_getElem? (i := 0) rfl))
  obtain ⟨fs, hr, hrun, hended, hW, hsame⟩ := X4.leave (v := none) (fun _ => rfl)
  refine ⟨_, _, k _ (X4.returnOut hx Bd.returns (hb hby own_d2_45) hr), hrun, hended, _, _, rfl, ?_, ⟨_, rfl⟩, hW, hsame.mono (by decide) (by decide)⟩
  show Q3 Z a1 m1 b1 u1 u2 h0 n0 _ T4.heap _
  rw [e4]
  exact ⟨rfl, N4, K1, E1, F_ms, F_bytes⟩
theorem own_d5_0 : decode prog_147_method_2_code 0 = .ok (.aload_n 0, 1) := by decide +kernel
theorem own_d5_1 : decode prog_147_method_2_code 1 = .ok (.getfield 20, 3) := by decide +kernel
theorem own_d5_4 : decode prog_147_method_2_code 4 = .ok (.ldc2_w 9, 3) := by decide +kernel
theorem own_d5_7 : decode prog_147_method_2_code 7 = .ok (.lcmp, 1) := by decide +kernel
theorem own_d5_8 : decode prog_147_method_2_code 8 = .ok (.ifCond .ne 18, 3) := by decide +kernel
theorem own_d5_11 : decode prog_147_method_2_code 11 = .ok (.aload_n 0, 1) := by decide +kernel
theorem own_d5_12 : decode prog_147_method_2_code 12 = .ok (.getfield 24, 3) := by decide +kernel
theorem own_d5_15 : decode prog_147_method_2_code 15 = .ok (.ldc2_w 9, 3) := by decide +kernel
theorem own_d5_18 : decode prog_147_method_2_code 18 = .ok (.lcmp, 1) := by decide +kernel
theorem own_d5_19 : decode prog_147_method_2_code 19 = .ok (.ifCond .ne 7, 3) := by decide +kernel
theorem own_d5_22 : decode prog_147_method_2_code 22 = .ok (.iconst 1, 1) := by decide +kernel
theorem own_d5_23 : decode prog_147_method_2_code 23 = .ok (.goto 4, 3) := by decide +kernel
theorem own_d5_26 : decode prog_147_method_2_code 26 = .ok (.iconst 0, 1) := by decide +kernel
theorem own_d5_27 : decode prog_147_method_2_code 27 = .ok (.ireturn, 1) := by decide +kernel
theorem own_ef4 (m : MethodId) (y0 : Addr) : entryFrame m #[(.ref y0)] 1 = mkF m 0 #[.val (.ref y0)] [] := by first | (simp [entryFrame, mkF, argsToLocals, Value.category]; done) | rfl
def Q4 (Z : State) (r : Addr) (m1 : Int64) (b1 : Int64) (h0 : Heap) (n0 : Nat) (v : Option Value) (h : Heap) (L : List Loc) : Prop := v = some (.int (own_keep m1 b1)) ∧ Fr n0 L ∧ h = h0
set_option maxRecDepth 65536 in
set_option maxHeartbeats 40000000 in
theorem rm4 (l : Launch) (Z : State) (a0 : Array Value) (hw : ∀ d ∈ tables_1, d.before a0 Z = true) (ws : List Jvm.Cond) (r : Addr) (m1 : Int64) (b1 : Int64) (h0 : Heap) (n0 : Nat) (F1 : Fld Z h0 r "com/example/oncelog/oncelog/log/Retention" "ms" "J" (.long m1)) (F2 : Fld Z h0 r "com/example/oncelog/oncelog/log/Retention" "bytes" "J" (.long b1)) :
    MetFree l (⟨"com/example/oncelog/oncelog/log/Retention", "keepsAll", "()Z"⟩ : MethodName) (head1 (Jvm.Cond.code (⟨"com/example/oncelog/oncelog/log/Retention", "keepsAll", "()Z"⟩ : MethodName) prog_147_method_2_code 1 (some .boolean) :: ws) ({ frames := 0, cells := 0, slots := 0, locals := 0 } : Room)) (fun aaz U => aaz = #[(.ref r)] ∧ Z.Warmed39 U.vm ∧ U.heap = h0) (fun _ _ _ _ _ => True) (fun _ U o U' => ∃ v L, o = .returned v ∧ Q4 Z r m1 b1 h0 n0 v U'.heap L ∧ FrameEnd U o U' L ({ frames := 0, cells := 0, slots := 0, locals := 0 } : Room).cells ({ frames := 0, cells := 0, slots := 0, locals := 0 } : Room).slots) := by
  refine MetFree.of_bodySF (plainFor_of_name own_pn2) hisR ?_
  intro p e s m args below meth c s₁ Bd hml0 hP hK
  obtain ⟨rfl, hZ, hh⟩ := hP
  have hx := Bd.exec
  have hby := Bd.bytes
  have hml : c.maxLocals = 1 := hml0
  have hown : s.vm.findClass "com/example/oncelog/oncelog/log/Retention" = some m.cls := findClass_of_methodNamed Bd.named
  have hnm := (name_of_methodNamed Bd.named Bd.method).1
  have X0 : Stand p l e ({ frames := 0, cells := 0, slots := 0, locals := 0 } : Room) s m #[(.ref r)] below meth c s₁ [] 0 0 := Stand.of_body Bd
  have e0 : s₁.heap = h0 := by rw [← hh, Bd.state]; rfl
  have N0 := Fr.nil n0
  have k : own_K p.tables e below (s₁.setTop (entryFrame m #[(.ref r)] 1)) (s₁.setTop (mkF m 0 #[.val (.ref r)] [])) := fun t h => castTop (own_ef4 m r) h
  replace k : own_K p.tables e below (s₁.setTop (entryFrame m #[(.ref r)] 1)) (s₁.setTop (mkF m 1 #[.val (.ref r)] [(.ref r)])) := fun t h => k t (XS.aloadN X0.here hx rfl (hb hby own_d5_0) rfl rfl h)
  obtain ⟨T1, X1, e1, st1⟩ := getF X0 hx hZ hown (host := "") (Or.inl (hw _ (List.mem_of_getElem? (i := 20) rfl))) Via.refl e0 F1 (g := (mkF m 1 #[.val (.ref r)] [(.ref r)])) rfl rfl (hb hby own_d5_1)
  replace k : own_K p.tables e below (s₁.setTop (entryFrame m #[(.ref r)] 1)) (T1.setTop (mkF m 4 #[.val (.ref r)] [(.long m1)])) := fun t h => k t (st1 _ h)
  replace k : own_K p.tables e below (s₁.setTop (entryFrame m #[(.ref r)] 1)) (T1.setTop (mkF m 7 #[.val (.ref r)] [(.long (-1 : Int64)), (.long m1)])) := fun t h => k t (X1.ldc2Long hx hown (mvT hZ (hw _ (List.mem_of_getElem? (i := 19) rfl))) (g := (mkF m 4 #[.val (.ref r)] [(.long m1)])) rfl (hb hby own_d5_4) _ h)
  replace k : own_K p.tables e below (s₁.setTop (entryFrame m #[(.ref r)] 1)) (T1.setTop (mkF m 8 #[.val (.ref r)] [(.int (lcmpW m1 (-1 : Int64)))])) := fun t h => k t (XS.lcmp X1.here hx rfl (hb hby own_d5_7) rfl h)
  by_cases cc2 : m1 = (-1 : Int64)
  · replace k : own_K p.tables e below (s₁.setTop (entryFrame m #[(.ref r)] 1)) (T1.setTop (mkF m 11 #[.val (.ref r)] [])) := fun t h => k t (XS.ifNo X1.here hx rfl (hb hby own_d5_8) rfl ((if0 _ _).trans (teq ((lw_eq _ _).mpr cc2)).2) h)
    replace k : own_K p.tables e below (s₁.setTop (entryFrame m #[(.ref r)] 1)) (T1.setTop (mkF m 12 #[.val (.ref r)] [(.ref r)])) := fun t h => k t (XS.aloadN X1.here hx rfl (hb hby own_d5_11) rfl rfl h)
    obtain ⟨T3, X3, e3, st3⟩ := getF X1 hx hZ hown (host := "") (Or.inl (hw _ (List.mem_of_getElem? (i := 22) rfl))) Via.refl e1 F2 (g := (mkF m 12 #[.val (.ref r)] [(.ref r)])) rfl rfl (hb hby own_d5_12)
    replace k : own_K p.tables e below (s₁.setTop (entryFrame m #[(.ref r)] 1)) (T3.setTop (mkF m 15 #[.val (.ref r)] [(.long b1)])) := fun t h => k t (st3 _ h)
    replace k : own_K p.tables e below (s₁.setTop (entryFrame m #[(.ref r)] 1)) (T3.setTop (mkF m 18 #[.val (.ref r)] [(.long (-1 : Int64)), (.long b1)])) := fun t h => k t (X3.ldc2Long hx hown (mvT hZ (hw _ (List.mem_of_getElem? (i := 19) rfl))) (g := (mkF m 15 #[.val (.ref r)] [(.long b1)])) rfl (hb hby own_d5_15) _ h)
    replace k : own_K p.tables e below (s₁.setTop (entryFrame m #[(.ref r)] 1)) (T3.setTop (mkF m 19 #[.val (.ref r)] [(.int (lcmpW b1 (-1 : Int64)))])) := fun t h => k t (XS.lcmp X3.here hx rfl (hb hby own_d5_18) rfl h)
    by_cases cc4 : b1 = (-1 : Int64)
    · replace k : own_K p.tables e below (s₁.setTop (entryFrame m #[(.ref r)] 1)) (T3.setTop (mkF m 22 #[.val (.ref r)] [])) := fun t h => k t (XS.ifNo X3.here hx rfl (hb hby own_d5_19) rfl ((if0 _ _).trans (teq ((lw_eq _ _).mpr cc4)).2) h)
      replace k : own_K p.tables e below (s₁.setTop (entryFrame m #[(.ref r)] 1)) (T3.setTop (mkF m 23 #[.val (.ref r)] [(.int (1 : Int32))])) := fun t h => k t (XS.iconst X3.here hx rfl (hb hby own_d5_22) h)
      replace k : own_K p.tables e below (s₁.setTop (entryFrame m #[(.ref r)] 1)) (T3.setTop (mkF m 27 #[.val (.ref r)] [(.int (1 : Int32))])) := fun t h => k t (XS.goto X3.here hx rfl (pc0 := 23) (pc' := 27) rfl (hb hby own_d5_23) (by decide) (by decide) h)
      obtain ⟨fs, hr, hrun, hended, hW, hsame⟩ := X3.leave (v := some (.int (1 : Int32))) (fun h => by rw [Bd.returns] at h; cases h)
      refine ⟨_, _, k _ (retOut X3 hx Bd.returns rfl (Or.inl ⟨rfl, by simp, _, rfl⟩) (hb hby own_d5_27) hr), hrun, hended, _, _, rfl, ?_, ⟨_, rfl⟩, hW, hsame.mono (by decide) (by decide)⟩
      show Q4 Z r m1 b1 h0 n0 _ T3.heap _
      rw [e3]
      exact ⟨(by simp [own_keep, cc2, cc4]), N0, rfl⟩
    · replace k : own_K p.tables e below (s₁.setTop (entryFrame m #[(.ref r)] 1)) (T3.setTop (mkF m 26 #[.val (.ref r)] [])) := fun t h => k t (XS.ifYes X3.here hx rfl (pc0 := 19) (pc' := 26) rfl (hb hby own_d5_19) rfl ((if0 _ _).trans (feq (fun q => cc4 ((lw_eq _ _).mp q))).2) (by decide) (by decide) h)
      replace k : own_K p.tables e below (s₁.setTop (entryFrame m #[(.ref r)] 1)) (T3.setTop (mkF m 27 #[.val (.ref r)] [(.int (0 : Int32))])) := fun t h => k t (XS.iconst X3.here hx rfl (hb hby own_d5_26) h)
      obtain ⟨fs, hr, hrun, hended, hW, hsame⟩ := X3.leave (v := some (.int (0 : Int32))) (fun h => by rw [Bd.returns] at h; cases h)
      refine ⟨_, _, k _ (retOut X3 hx Bd.returns rfl (Or.inl ⟨rfl, by simp, _, rfl⟩) (hb hby own_d5_27) hr), hrun, hended, _, _, rfl, ?_, ⟨_, rfl⟩, hW, hsame.mono (by decide) (by decide)⟩
      show Q4 Z r m1 b1 h0 n0 _ T3.heap _
      rw [e3]
      exact ⟨(by simp [own_keep, cc2, cc4]), N0, rfl⟩
  · replace k : own_K p.tables e below (s₁.setTop (entryFrame m #[(.ref r)] 1)) (T1.setTop (mkF m 26 #[.val (.ref r)] [])) := fun t h => k t (XS.ifYes X1.here hx rfl (pc0 := 8) (pc' := 26) rfl (hb hby own_d5_8) rfl ((if0 _ _).trans (feq (fun q => cc2 ((lw_eq _ _).mp q))).2) (by decide) (by decide) h)
    replace k : own_K p.tables e below (s₁.setTop (entryFrame m #[(.ref r)] 1)) (T1.setTop (mkF m 27 #[.val (.ref r)] [(.int (0 : Int32))])) := fun t h => k t (XS.iconst X1.here hx rfl (hb hby own_d5_26) h)
    obtain ⟨fs, hr, hrun, hended, hW, hsame⟩ := X1.leave (v := some (.int (0 : Int32))) (fun h => by rw [Bd.returns] at h; cases h)
    refine ⟨_, _, k _ (retOut X1 hx Bd.returns rfl (Or.inl ⟨rfl, by simp, _, rfl⟩) (hb hby own_d5_27) hr), hrun, hended, _, _, rfl, ?_, ⟨_, rfl⟩, hW, hsame.mono (by decide) (by decide)⟩
    show Q4 Z r m1 b1 h0 n0 _ T1.heap _
    rw [e1]
    exact ⟨(by simp [own_keep, cc2]), N0, rfl⟩
theorem own_d6_0 : decode prog_147_method_6_code 0 = .ok (.aload_n 0, 1) := by decide +kernel
theorem own_d6_1 : decode prog_147_method_6_code 1 = .ok (.getfield 20, 3) := by decide +kernel
theorem own_d6_4 : decode prog_147_method_6_code 4 = .ok (.lreturn, 1) := by decide +kernel
theorem own_ef5 (m : MethodId) (y0 : Addr) : entryFrame m #[(.ref y0)] 1 = mkF m 0 #[.val (.ref y0)] [] := by first | (simp [entryFrame, mkF, argsToLocals, Value.category]; done) | rfl
def Q5 (Z : State) (r : Addr) (m1 : Int64) (h0 : Heap) (n0 : Nat) (v : Option Value) (h : Heap) (L : List Loc) : Prop := v = some (.long m1) ∧ Fr n0 L ∧ h = h0
set_option maxRecDepth 65536 in
set_option maxHeartbeats 40000000 in
theorem rm5 (l : Launch) (Z : State) (a0 : Array Value) (hw : ∀ d ∈ tables_1, d.before a0 Z = true) (ws : List Jvm.Cond) (r : Addr) (m1 : Int64) (h0 : Heap) (n0 : Nat) (F1 : Fld Z h0 r "com/example/oncelog/oncelog/log/Retention" "ms" "J" (.long m1)) :
    MetFree l (⟨"com/example/oncelog/oncelog/log/Retention", "ms", "()J"⟩ : MethodName) (head1 (Jvm.Cond.code (⟨"com/example/oncelog/oncelog/log/Retention", "ms", "()J"⟩ : MethodName) prog_147_method_6_code 1 (some .long) :: ws) ({ frames := 0, cells := 0, slots := 0, locals := 0 } : Room)) (fun aaz U => aaz = #[(.ref r)] ∧ Z.Warmed39 U.vm ∧ U.heap = h0) (fun _ _ _ _ _ => True) (fun _ U o U' => ∃ v L, o = .returned v ∧ Q5 Z r m1 h0 n0 v U'.heap L ∧ FrameEnd U o U' L ({ frames := 0, cells := 0, slots := 0, locals := 0 } : Room).cells ({ frames := 0, cells := 0, slots := 0, locals := 0 } : Room).slots) := by
  refine MetFree.of_bodySF (plainFor_of_name own_pn2) hisR ?_
  intro p e s m args below meth c s₁ Bd hml0 hP hK
  obtain ⟨rfl, hZ, hh⟩ := hP
  have hx := Bd.exec
  have hby := Bd.bytes
  have hml : c.maxLocals = 1 := hml0
  have hown : s.vm.findClass "com/example/oncelog/oncelog/log/Retention" = some m.cls := findClass_of_methodNamed Bd.named
  have hnm := (name_of_methodNamed Bd.named Bd.method).1
  have X0 : Stand p l e ({ frames := 0, cells := 0, slots := 0, locals := 0 } : Room) s m #[(.ref r)] below meth c s₁ [] 0 0 := Stand.of_body Bd
  have e0 : s₁.heap = h0 := by rw [← hh, Bd.state]; rfl
  have N0 := Fr.nil n0
  have k : own_K p.tables e below (s₁.setTop (entryFrame m #[(.ref r)] 1)) (s₁.setTop (mkF m 0 #[.val (.ref r)] [])) := fun t h => castTop (own_ef5 m r) h
  replace k : own_K p.tables e below (s₁.setTop (entryFrame m #[(.ref r)] 1)) (s₁.setTop (mkF m 1 #[.val (.ref r)] [(.ref r)])) := fun t h => k t (XS.aloadN X0.here hx rfl (hb hby own_d6_0) rfl rfl h)
  obtain ⟨T1, X1, e1, st1⟩ := getF X0 hx hZ hown (host := "") (Or.inl (hw _ (List.mem_of_getElem? (i := 20) rfl))) Via.refl e0 F1 (g := (mkF m 1 #[.val (.ref r)] [(.ref r)])) rfl rfl (hb hby own_d6_1)
  replace k : own_K p.tables e below (s₁.setTop (entryFrame m #[(.ref r)] 1)) (T1.setTop (mkF m 4 #[.val (.ref r)] [(.long m1)])) := fun t h => k t (st1 _ h)
  obtain ⟨fs, hr, hrun, hended, hW, hsame⟩ := X1.leave (v := some (.long m1)) (fun h => by rw [Bd.returns] at h; cases h)
  refine ⟨_, _, k _ (retOut X1 hx Bd.returns rfl (Or.inr (Or.inl ⟨rfl, rfl, _, rfl⟩)) (hb hby own_d6_4) hr), hrun, hended, _, _, rfl, ?_, ⟨_, rfl⟩, hW, hsame.mono (by decide) (by decide)⟩
  show Q5 Z r m1 h0 n0 _ T1.heap _
  rw [e1]
  exact ⟨rfl, N0, rfl⟩
theorem own_d7_0 : decode prog_147_method_7_code 0 = .ok (.aload_n 0, 1) := by decide +kernel
theorem own_d7_1 : decode prog_147_method_7_code 1 = .ok (.getfield 24, 3) := by decide +kernel
theorem own_d7_4 : decode prog_147_method_7_code 4 = .ok (.lreturn, 1) := by decide +kernel
theorem own_ef6 (m : MethodId) (y0 : Addr) : entryFrame m #[(.ref y0)] 1 = mkF m 0 #[.val (.ref y0)] [] := by first | (simp [entryFrame, mkF, argsToLocals, Value.category]; done) | rfl
def Q6 (Z : State) (r : Addr) (b1 : Int64) (h0 : Heap) (n0 : Nat) (v : Option Value) (h : Heap) (L : List Loc) : Prop := v = some (.long b1) ∧ Fr n0 L ∧ h = h0
set_option maxRecDepth 65536 in
set_option maxHeartbeats 40000000 in
theorem rm6 (l : Launch) (Z : State) (a0 : Array Value) (hw : ∀ d ∈ tables_1, d.before a0 Z = true) (ws : List Jvm.Cond) (r : Addr) (b1 : Int64) (h0 : Heap) (n0 : Nat) (F2 : Fld Z h0 r "com/example/oncelog/oncelog/log/Retention" "bytes" "J" (.long b1)) :
    MetFree l (⟨"com/example/oncelog/oncelog/log/Retention", "bytes", "()J"⟩ : MethodName) (head1 (Jvm.Cond.code (⟨"com/example/oncelog/oncelog/log/Retention", "bytes", "()J"⟩ : MethodName) prog_147_method_7_code 1 (some .long) :: ws) ({ frames := 0, cells := 0, slots := 0, locals := 0 } : Room)) (fun aaz U => aaz = #[(.ref r)] ∧ Z.Warmed39 U.vm ∧ U.heap = h0) (fun _ _ _ _ _ => True) (fun _ U o U' => ∃ v L, o = .returned v ∧ Q6 Z r b1 h0 n0 v U'.heap L ∧ FrameEnd U o U' L ({ frames := 0, cells := 0, slots := 0, locals := 0 } : Room).cells ({ frames := 0, cells := 0, slots := 0, locals := 0 } : Room).slots) := by
  refine MetFree.of_bodySF (plainFor_of_name own_pn2) hisR ?_
  intro p e s m args below meth c s₁ Bd hml0 hP hK
  obtain ⟨rfl, hZ, hh⟩ := hP
  have hx := Bd.exec
  have hby := Bd.bytes
  have hml : c.maxLocals = 1 := hml0
  have hown : s.vm.findClass "com/example/oncelog/oncelog/log/Retention" = some m.cls := findClass_of_methodNamed Bd.named
  have hnm := (name_of_methodNamed Bd.named Bd.method).1
  have X0 : Stand p l e ({ frames := 0, cells := 0, slots := 0, locals := 0 } : Room) s m #[(.ref r)] below meth c s₁ [] 0 0 := Stand.of_body Bd
  have e0 : s₁.heap = h0 := by rw [← hh, Bd.state]; rfl
  have N0 := Fr.nil n0
  have k : own_K p.tables e below (s₁.setTop (entryFrame m #[(.ref r)] 1)) (s₁.setTop (mkF m 0 #[.val (.ref r)] [])) := fun t h => castTop (own_ef6 m r) h
  replace k : own_K p.tables e below (s₁.setTop (entryFrame m #[(.ref r)] 1)) (s₁.setTop (mkF m 1 #[.val (.ref r)] [(.ref r)])) := fun t h => k t (XS.aloadN X0.here hx rfl (hb hby own_d7_0) rfl rfl h)
  obtain ⟨T1, X1, e1, st1⟩ := getF X0 hx hZ hown (host := "") (Or.inl (hw _ (List.mem_of_getElem? (i := 22) rfl))) Via.refl e0 F2 (g := (mkF m 1 #[.val (.ref r)] [(.ref r)])) rfl rfl (hb hby own_d7_1)
  replace k : own_K p.tables e below (s₁.setTop (entryFrame m #[(.ref r)] 1)) (T1.setTop (mkF m 4 #[.val (.ref r)] [(.long b1)])) := fun t h => k t (st1 _ h)
  obtain ⟨fs, hr, hrun, hended, hW, hsame⟩ := X1.leave (v := some (.long b1)) (fun h => by rw [Bd.returns] at h; cases h)
  refine ⟨_, _, k _ (retOut X1 hx Bd.returns rfl (Or.inr (Or.inl ⟨rfl, rfl, _, rfl⟩)) (hb hby own_d7_4) hr), hrun, hended, _, _, rfl, ?_, ⟨_, rfl⟩, hW, hsame.mono (by decide) (by decide)⟩
  show Q6 Z r b1 h0 n0 _ T1.heap _
  rw [e1]
  exact ⟨rfl, N0, rfl⟩
theorem own_pd1 : parseMethodDescriptor "(JI)J" = some ⟨[.long, .int], some .long⟩ := by decide +kernel
theorem own_pd2 : parseMethodDescriptor "(JJ)V" = some ⟨[.long, .long], none⟩ := by decide +kernel
theorem own_pd3 : parseMethodDescriptor "()Z" = some ⟨[], some .boolean⟩ := by decide +kernel
theorem own_pd4 : parseMethodDescriptor "()J" = some ⟨[], some .long⟩ := by decide +kernel
theorem own_ef0 (m : MethodId) (y0 : Int64) (y1 : Int64) (y2 : Int32) : entryFrame m #[(.long y0), (.long y1), (.int y2)] maxLocals = mkF m 0 #[.val (.long y0), .second, .val (.long y1), .second, .val (.int y2), .unset, .unset, .unset, .unset, .unset, .unset] [] := by first | (simp [entryFrame, mkF, argsToLocals, Value.category, maxLocals]; done) | rfl
def Q0 (Z : State) (a : Int64) (b : Int64) (fl : Int32) (ka : Addr) (h0 : Heap) (n0 : Nat) (v : Option Value) (h : Heap) (L : List Loc) : Prop := v = some (.int 1) ∧ Fr n0 L
set_option maxRecDepth 65536 in
set_option maxHeartbeats 40000000 in
theorem rm0 (l : Launch) (Z : State) (a0 : Array Value) (hw : ∀ d ∈ tables_1, d.before a0 Z = true) (ws : List Jvm.Cond) (a : Int64) (b : Int64) (fl : Int32) (ka : Addr) (h0 : Heap) (n0 : Nat) (Z0 : n0 ≤ h0.size) (S1 : Sta Z h0 "com/example/oncelog/oncelog/log/Retention" "KEEP_ALL" "Lcom/example/oncelog/oncelog/log/Retention;" (.ref ka)) (E1 : Exa Z h0 ka "com/example/oncelog/oncelog/log/Retention") (G1 : Fld Z h0 ka "com/example/oncelog/oncelog/log/Retention" "ms" "J" (.long (-1 : Int64))) (G2 : Fld Z h0 ka "com/example/oncelog/oncelog/log/Retention" "bytes" "J" (.long (-1 : Int64))) :
    MetFree l x (head1 (Jvm.Cond.code x code maxLocals ret :: ws) room_1) (fun aaz U => aaz = #[(.long a), (.long b), (.int fl)] ∧ Z.Warmed39 U.vm ∧ U.heap = h0) (fun _ _ _ _ _ => True) (fun _ U o U' => ∃ v L, o = .returned v ∧ Q0 Z a b fl ka h0 n0 v U'.heap L ∧ FrameEnd U o U' L room_1.cells room_1.slots) := by
  refine MetFree.of_bodySF (plainFor_of_name own_pn0) hisR ?_
  intro p e s m args below meth c s₁ Bd hml0 hP hK
  obtain ⟨rfl, hZ, hh⟩ := hP
  have hx := Bd.exec
  have hby := Bd.bytes
  have hml : c.maxLocals = 11 := hml0
  have hown : s.vm.findClass "com/example/oncelog/oncelog/log/RetentionKeepsAllPinLaw" = some m.cls := findClass_of_methodNamed Bd.named
  have hnm := (name_of_methodNamed Bd.named Bd.method).1
  have X0 : Stand p l e room_1 s m #[(.long a), (.long b), (.int fl)] below meth c s₁ [] 0 0 := Stand.of_body Bd
  have e0 : s₁.heap = h0 := by rw [← hh, Bd.state]; rfl
  have N0 := Fr.nil n0
  have k : own_K p.tables e below (s₁.setTop (entryFrame m #[(.long a), (.long b), (.int fl)] maxLocals)) (s₁.setTop (mkF m 0 #[.val (.long a), .second, .val (.long b), .second, .val (.int fl), .unset, .unset, .unset, .unset, .unset, .unset] [])) := fun t h => castTop (own_ef0 m a b fl) h
  replace k : own_K p.tables e below (s₁.setTop (entryFrame m #[(.long a), (.long b), (.int fl)] maxLocals)) (s₁.setTop (mkF m 1 #[.val (.long a), .second, .val (.long b), .second, .val (.int fl), .unset, .unset, .unset, .unset, .unset, .unset] [(.long a)])) := fun t h => k t (XS.lloadN X0.here hx rfl (hb hby at_0) rfl h)
  replace k : own_K p.tables e below (s₁.setTop (entryFrame m #[(.long a), (.long b), (.int fl)] maxLocals)) (s₁.setTop (mkF m 3 #[.val (.long a), .second, .val (.long b), .second, .val (.int fl), .unset, .unset, .unset, .unset, .unset, .unset] [(.int fl), (.long a)])) := fun t h => k t (XS.iload X0.here hx rfl (hb hby at_1) rfl h)
  replace k : own_K p.tables e below (s₁.setTop (entryFrame m #[(.long a), (.long b), (.int fl)] maxLocals)) (s₁.setTop (mkF m 4 #[.val (.long a), .second, .val (.long b), .second, .val (.int fl), .unset, .unset, .unset, .unset, .unset, .unset] [(.int (1 : Int32)), (.int fl), (.long a)])) := fun t h => k t (XS.iconst X0.here hx rfl (hb hby at_3) h)
  replace k : own_K p.tables e below (s₁.setTop (entryFrame m #[(.long a), (.long b), (.int fl)] maxLocals)) (s₁.setTop (mkF m 5 #[.val (.long a), .second, .val (.long b), .second, .val (.int fl), .unset, .unset, .unset, .unset, .unset, .unset] [(.int (fl &&& (1 : Int32))), (.long a)])) := fun t h => k t (XS.iand X0.here hx rfl (hb hby at_4) rfl h)
  obtain ⟨_, _, ⟨T2, L2, kk2, n2⟩, -, X2, ⟨Lc2, hQ2, l2, y2, z2⟩, st2⟩ := Jvm.LawKit.callS X0 hx (y := (⟨"com/example/oncelog/oncelog/log/RetentionKeepsAllPinLaw", "bound", "(JI)J"⟩ : MethodName)) hown (mvT hZ (hw _ (List.mem_of_getElem? (i := 0) rfl))) (mvT hZ (hw _ (List.mem_of_getElem? (i := 1) rfl))) (mvT hZ (hw _ (List.mem_of_getElem? (i := 2) rfl))) (mvT hZ (hw _ (List.mem_of_getElem? (i := 3) rfl))) (by decide) (backOf (W := 0) (rm1 l Z a0 hw [] a (fl &&& (1 : Int32)) h0 n0) hZ (hw _ (List.mem_of_getElem? (i := 3) rfl)) (hw _ (List.mem_of_getElem? (i := 2) rfl)) (by decide) (by decide)) (g := (mkF m 5 #[.val (.long a), .second, .val (.long b), .second, .val (.int fl), .unset, .unset, .unset, .unset, .unset, .unset] [(.int (fl &&& (1 : Int32))), (.long a)])) rfl (by rw [hml]; rfl) (argsL := [(.long a), (.int (fl &&& (1 : Int32)))]) (rest := []) (lenOf own_pd1 rfl) rfl (by show 2 * 0 + _ ≤ _; exact Nat.le_of_eq rfl) (hb hby at_5) (fun _ _ => ⟨rfl, e0, (by decide : 0 + 0 ≤ _), (by decide : 0 + 0 ≤ _)⟩)
  dsimp only [Pt.U, Pt.locs, Pt.cells, Pt.slots] at X2 l2 y2 z2 st2 hQ2
  subst l2 y2 z2
  obtain ⟨rfl, N2q, eq1⟩ := hQ2
  have N2 := Fr.app N0 N2q
  replace k : own_K p.tables e below (s₁.setTop (entryFrame m #[(.long a), (.long b), (.int fl)] maxLocals)) (T2.setTop (mkF m 8 #[.val (.long a), .second, .val (.long b), .second, .val (.int fl), .unset, .unset, .unset, .unset, .unset, .unset] [(.long (own_bound a (fl &&& (1 : Int32))))])) := fun t h => k t (st2 _ h)
  obtain ⟨ms, hms⟩ : ∃ z, z = (own_bound a (fl &&& (1 : Int32))) := ⟨_, rfl⟩
  rw [← hms] at k
  have hm1 : ¬ ms < (-1 : Int64) := by rw [hms]; exact own_bound_ge _ _
  replace k : own_K p.tables e below (s₁.setTop (entryFrame m #[(.long a), (.long b), (.int fl)] maxLocals)) (T2.setTop (mkF m 10 #[.val (.long a), .second, .val (.long b), .second, .val (.int fl), .val (.long ms), .second, .unset, .unset, .unset, .unset] [])) := fun t h => k t (XS.lstore X2.here hx rfl (hb hby at_8) rfl (l' := #[.val (.long a), .second, .val (.long b), .second, .val (.int fl), .val (.long ms), .second, .unset, .unset, .unset, .unset]) rfl h)
  replace k : own_K p.tables e below (s₁.setTop (entryFrame m #[(.long a), (.long b), (.int fl)] maxLocals)) (T2.setTop (mkF m 11 #[.val (.long a), .second, .val (.long b), .second, .val (.int fl), .val (.long ms), .second, .unset, .unset, .unset, .unset] [(.long b)])) := fun t h => k t (XS.lloadN X2.here hx rfl (hb hby at_10) rfl h)
  replace k : own_K p.tables e below (s₁.setTop (entryFrame m #[(.long a), (.long b), (.int fl)] maxLocals)) (T2.setTop (mkF m 13 #[.val (.long a), .second, .val (.long b), .second, .val (.int fl), .val (.long ms), .second, .unset, .unset, .unset, .unset] [(.int fl), (.long b)])) := fun t h => k t (XS.iload X2.here hx rfl (hb hby at_11) rfl h)
  replace k : own_K p.tables e below (s₁.setTop (entryFrame m #[(.long a), (.long b), (.int fl)] maxLocals)) (T2.setTop (mkF m 14 #[.val (.long a), .second, .val (.long b), .second, .val (.int fl), .val (.long ms), .second, .unset, .unset, .unset, .unset] [(.int (2 : Int32)), (.int fl), (.long b)])) := fun t h => k t (XS.iconst X2.here hx rfl (hb hby at_13) h)
  replace k : own_K p.tables e below (s₁.setTop (entryFrame m #[(.long a), (.long b), (.int fl)] maxLocals)) (T2.setTop (mkF m 15 #[.val (.long a), .second, .val (.long b), .second, .val (.int fl), .val (.long ms), .second, .unset, .unset, .unset, .unset] [(.int (fl &&& (2 : Int32))), (.long b)])) := fun t h => k t (XS.iand X2.here hx rfl (hb hby at_14) rfl h)
  obtain ⟨_, _, ⟨T4, L4, kk4, n4⟩, -, X4, ⟨Lc4, hQ4, l4, y4, z4⟩, st4⟩ := Jvm.LawKit.callS X2 hx (y := (⟨"com/example/oncelog/oncelog/log/RetentionKeepsAllPinLaw", "bound", "(JI)J"⟩ : MethodName)) hown (mvT hZ (hw _ (List.mem_of_getElem? (i := 0) rfl))) (mvT hZ (hw _ (List.mem_of_getElem? (i := 1) rfl))) (mvT hZ (hw _ (List.mem_of_getElem? (i := 2) rfl))) (mvT hZ (hw _ (List.mem_of_getElem? (i := 3) rfl))) (by decide) (backOf (W := 0) (rm1 l Z a0 hw [] b (fl &&& (2 : Int32)) h0 n0) hZ (hw _ (List.mem_of_getElem? (i := 3) rfl)) (hw _ (List.mem_of_getElem? (i := 2) rfl)) (by decide) (by decide)) (g := (mkF m 15 #[.val (.long a), .second, .val (.long b), .second, .val (.int fl), .val (.long ms), .second, .unset, .unset, .unset, .unset] [(.int (fl &&& (2 : Int32))), (.long b)])) rfl (by rw [hml]; rfl) (argsL := [(.long b), (.int (fl &&& (2 : Int32)))]) (rest := []) (lenOf own_pd1 rfl) rfl (by show 2 * 0 + _ ≤ _; exact Nat.le_of_eq rfl) (hb hby at_15) (fun _ _ => ⟨rfl, eq1, (by decide : 0 + 0 ≤ _), (by decide : 0 + 0 ≤ _)⟩)
  dsimp only [Pt.U, Pt.locs, Pt.cells, Pt.slots] at X4 l4 y4 z4 st4 hQ4
  subst l4 y4 z4
  obtain ⟨rfl, N4q, eq3⟩ := hQ4
  have N4 := Fr.app N2 N4q
  replace k : own_K p.tables e below (s₁.setTop (entryFrame m #[(.long a), (.long b), (.int fl)] maxLocals)) (T4.setTop (mkF m 18 #[.val (.long a), .second, .val (.long b), .second, .val (.int fl), .val (.long ms), .second, .unset, .unset, .unset, .unset] [(.long (own_bound b (fl &&& (2 : Int32))))])) := fun t h => k t (st4 _ h)
  obtain ⟨by1, hby1⟩ : ∃ z, z = (own_bound b (fl &&& (2 : Int32))) := ⟨_, rfl⟩
  rw [← hby1] at k
  have hb1 : ¬ by1 < (-1 : Int64) := by rw [hby1]; exact own_bound_ge _ _
  replace k : own_K p.tables e below (s₁.setTop (entryFrame m #[(.long a), (.long b), (.int fl)] maxLocals)) (T4.setTop (mkF m 20 #[.val (.long a), .second, .val (.long b), .second, .val (.int fl), .val (.long ms), .second, .val (.long by1), .second, .unset, .unset] [])) := fun t h => k t (XS.lstore X4.here hx rfl (hb hby at_18) rfl (l' := #[.val (.long a), .second, .val (.long b), .second, .val (.int fl), .val (.long ms), .second, .val (.long by1), .second, .unset, .unset]) rfl h)
  obtain ⟨T5, h5, X5, e5, E5, A5, D5, -, st5⟩ := newO X4 hx hZ hown (hw _ (List.mem_of_getElem? (i := 5) rfl)) (hw _ (List.mem_of_getElem? (i := 6) rfl)) (hw _ (List.mem_of_getElem? (i := 7) rfl)) eq3 (g := (mkF m 20 #[.val (.long a), .second, .val (.long b), .second, .val (.int fl), .val (.long ms), .second, .val (.long by1), .second, .unset, .unset] [])) rfl (hb hby at_20) (by decide) (by decide)
  obtain ⟨b5, g5⟩ : ∃ z, z = h0.size := ⟨_, rfl⟩
  rw [← g5] at A5 D5 st5
  have ge_b5 : n0 ≤ b5 := Nat.le_trans Z0 (Nat.le_of_eq g5.symm)
  have Z5 : n0 ≤ h5.size := Nat.le_trans Z0 E5.1
  replace k : own_K p.tables e below (s₁.setTop (entryFrame m #[(.long a), (.long b), (.int fl)] maxLocals)) (T5.setTop (mkF m 23 #[.val (.long a), .second, .val (.long b), .second, .val (.int fl), .val (.long ms), .second, .val (.long by1), .second, .unset, .unset] [(.ref b5)])) := fun t h => k t (st5 _ h)
  have Fm : Fld Z h5 b5 "com/example/oncelog/oncelog/log/Retention" "ms" "J" (.long (0 : Int64)) := D5 (Or.inr (hw _ (List.mem_of_getElem? (i := 21) rfl))) (ty := .long) (by decide)
  have Fb : Fld Z h5 b5 "com/example/oncelog/oncelog/log/Retention" "bytes" "J" (.long (0 : Int64)) := D5 (Or.inr (hw _ (List.mem_of_getElem? (i := 23) rfl))) (ty := .long) (by decide)
  have ne1 : ka ≠ b5 := fun q => absurd E1.lt (by rw [q, g5]; exact Nat.lt_irrefl _)
  replace S1 := S1.ext E5
  replace E1 := E1.ext E5
  replace G1 := G1.ext E5
  replace G2 := G2.ext E5
  replace k : own_K p.tables e below (s₁.setTop (entryFrame m #[(.long a), (.long b), (.int fl)] maxLocals)) (T5.setTop (mkF m 24 #[.val (.long a), .second, .val (.long b), .second, .val (.int fl), .val (.long ms), .second, .val (.long by1), .second, .unset, .unset] [(.ref b5), (.ref b5)])) := fun t h => k t (XS.dup X5.here hx rfl (hb hby at_23) rfl rfl h)
  replace k : own_K p.tables e below (s₁.setTop (entryFrame m #[(.long a), (.long b), (.int fl)] maxLocals)) (T5.setTop (mkF m 26 #[.val (.long a), .second, .val (.long b), .second, .val (.int fl), .val (.long ms), .second, .val (.long by1), .second, .unset, .unset] [(.long ms), (.ref b5), (.ref b5)])) := fun t h => k t (XS.lload X5.here hx rfl (hb hby at_24) rfl h)
  replace k : own_K p.tables e below (s₁.setTop (entryFrame m #[(.long a), (.long b), (.int fl)] maxLocals)) (T5.setTop (mkF m 28 #[.val (.long a), .second, .val (.long b), .second, .val (.int fl), .val (.long ms), .second, .val (.long by1), .second, .unset, .unset] [(.long by1), (.long ms), (.ref b5), (.ref b5)])) := fun t h => k t (XS.lload X5.here hx rfl (hb hby at_26) rfl h)
  obtain ⟨_, _, ⟨T6, L6, kk6, n6⟩, -, X6, ⟨Lc6, hQ6, l6, y6, z6⟩, st6⟩ := X5.specialBack hx (y := (⟨"com/example/oncelog/oncelog/log/Retention", "<init>", "(JJ)V"⟩ : MethodName)) rfl hown (mvT hZ (hw _ (List.mem_of_getElem? (i := 8) rfl))) (mvT hZ (hw _ (List.mem_of_getElem? (i := 9) rfl))) (mvT hZ (hw _ (List.mem_of_getElem? (i := 10) rfl))) (by decide) (backOf (W := 1) (rm3 l Z a0 hw [] b5 ms by1 (.long (0 : Int64)) (.long (0 : Int64)) h5 n0 A5 Fm Fb ge_b5 hm1 hb1) hZ (hw _ (List.mem_of_getElem? (i := 10) rfl)) (hw _ (List.mem_of_getElem? (i := 7) rfl)) (by decide) (by decide)) (g := (mkF m 28 #[.val (.long a), .second, .val (.long b), .second, .val (.int fl), .val (.long ms), .second, .val (.long by1), .second, .unset, .unset] [(.long by1), (.long ms), (.ref b5), (.ref b5)])) rfl (by rw [hml]; rfl) (Steps.refl _) (a := b5) (argsL := [(.long ms), (.long by1)]) (rest := [(.ref b5)]) (lenOf own_pd2 rfl) rfl (by show 2 * 0 + _ ≤ _; exact Nat.le_of_eq rfl) (hb hby at_28) (fun _ _ => ⟨rfl, e5, (by decide : 1 + 0 ≤ _), (by decide : 2 + 0 ≤ _)⟩)
  dsimp only [Pt.U, Pt.locs, Pt.cells, Pt.slots] at X6 l6 y6 z6 st6 hQ6
  subst l6 y6 z6
  obtain ⟨rfl, N6q, K2, E2, P1, P2⟩ := hQ6
  have N6 := Fr.app N4 N6q
  replace k : own_K p.tables e below (s₁.setTop (entryFrame m #[(.long a), (.long b), (.int fl)] maxLocals)) (T6.setTop (mkF m 31 #[.val (.long a), .second, .val (.long b), .second, .val (.int fl), .val (.long ms), .second, .val (.long by1), .second, .unset, .unset] [(.ref b5)])) := fun t h => k t (st6.trans h)
  replace S1 := own_staKeep S1 K2 (allS (own_exaNo A5) all0)
  replace E1 := E1.keep K2
  replace G1 := G1.keep K2 (ninS ne1 nin0)
  replace G2 := G2.keep K2 (ninS ne1 nin0)
  replace k : own_K p.tables e below (s₁.setTop (entryFrame m #[(.long a), (.long b), (.int fl)] maxLocals)) (T6.setTop (mkF m 33 #[.val (.long a), .second, .val (.long b), .second, .val (.int fl), .val (.long ms), .second, .val (.long by1), .second, .val (.ref b5), .unset] [])) := fun t h => k t (XS.astore X6.here hx rfl (hb hby at_31) rfl rfl (l' := #[.val (.long a), .second, .val (.long b), .second, .val (.int fl), .val (.long ms), .second, .val (.long by1), .second, .val (.ref b5), .unset]) rfl h)
  replace k : own_K p.tables e below (s₁.setTop (entryFrame m #[(.long a), (.long b), (.int fl)] maxLocals)) (T6.setTop (mkF m 35 #[.val (.long a), .second, .val (.long b), .second, .val (.int fl), .val (.long ms), .second, .val (.long by1), .second, .val (.ref b5), .unset] [(.long ms)])) := fun t h => k t (XS.lload X6.here hx rfl (hb hby at_33) rfl h)
  replace k : own_K p.tables e below (s₁.setTop (entryFrame m #[(.long a), (.long b), (.int fl)] maxLocals)) (T6.setTop (mkF m 38 #[.val (.long a), .second, .val (.long b), .second, .val (.int fl), .val (.long ms), .second, .val (.long by1), .second, .val (.ref b5), .unset] [(.long (-1 : Int64)), (.long ms)])) := fun t h => k t (X6.ldc2Long hx hown (mvT hZ (hw _ (List.mem_of_getElem? (i := 4) rfl))) (g := (mkF m 35 #[.val (.long a), .second, .val (.long b), .second, .val (.int fl), .val (.long ms), .second, .val (.long by1), .second, .val (.ref b5), .unset] [(.long ms)])) rfl (hb hby at_35) _ h)
  replace k : own_K p.tables e below (s₁.setTop (entryFrame m #[(.long a), (.long b), (.int fl)] maxLocals)) (T6.setTop (mkF m 39 #[.val (.long a), .second, .val (.long b), .second, .val (.int fl), .val (.long ms), .second, .val (.long by1), .second, .val (.ref b5), .unset] [(.int (lcmpW ms (-1 : Int64)))])) := fun t h => k t (XS.lcmp X6.here hx rfl (hb hby at_38) rfl h)
  by_cases cc7 : ms = (-1 : Int64)
  · replace k : own_K p.tables e below (s₁.setTop (entryFrame m #[(.long a), (.long b), (.int fl)] maxLocals)) (T6.setTop (mkF m 42 #[.val (.long a), .second, .val (.long b), .second, .val (.int fl), .val (.long ms), .second, .val (.long by1), .second, .val (.ref b5), .unset] [])) := fun t h => k t (XS.ifNo X6.here hx rfl (hb hby at_39) rfl ((if0 _ _).trans (teq ((lw_eq _ _).mpr cc7)).2) h)
    replace k : own_K p.tables e below (s₁.setTop (entryFrame m #[(.long a), (.long b), (.int fl)] maxLocals)) (T6.setTop (mkF m 44 #[.val (.long a), .second, .val (.long b), .second, .val (.int fl), .val (.long ms), .second, .val (.long by1), .second, .val (.ref b5), .unset] [(.long by1)])) := fun t h => k t (XS.lload X6.here hx rfl (hb hby at_42) rfl h)
    replace k : own_K p.tables e below (s₁.setTop (entryFrame m #[(.long a), (.long b), (.int fl)] maxLocals)) (T6.setTop (mkF m 47 #[.val (.long a), .second, .val (.long b), .second, .val (.int fl), .val (.long ms), .second, .val (.long by1), .second, .val (.ref b5), .unset] [(.long (-1 : Int64)), (.long by1)])) := fun t h => k t (X6.ldc2Long hx hown (mvT hZ (hw _ (List.mem_of_getElem? (i := 4) rfl))) (g := (mkF m 44 #[.val (.long a), .second, .val (.long b), .second, .val (.int fl), .val (.long ms), .second, .val (.long by1), .second, .val (.ref b5), .unset] [(.long by1)])) rfl (hb hby at_44) _ h)
    replace k : own_K p.tables e below (s₁.setTop (entryFrame m #[(.long a), (.long b), (.int fl)] maxLocals)) (T6.setTop (mkF m 48 #[.val (.long a), .second, .val (.long b), .second, .val (.int fl), .val (.long ms), .second, .val (.long by1), .second, .val (.ref b5), .unset] [(.int (lcmpW by1 (-1 : Int64)))])) := fun t h => k t (XS.lcmp X6.here hx rfl (hb hby at_47) rfl h)
    by_cases cc8 : by1 = (-1 : Int64)
    · replace k : own_K p.tables e below (s₁.setTop (entryFrame m #[(.long a), (.long b), (.int fl)] maxLocals)) (T6.setTop (mkF m 51 #[.val (.long a), .second, .val (.long b), .second, .val (.int fl), .val (.long ms), .second, .val (.long by1), .second, .val (.ref b5), .unset] [])) := fun t h => k t (XS.ifNo X6.here hx rfl (hb hby at_48) rfl ((if0 _ _).trans (teq ((lw_eq _ _).mpr cc8)).2) h)
      replace k : own_K p.tables e below (s₁.setTop (entryFrame m #[(.long a), (.long b), (.int fl)] maxLocals)) (T6.setTop (mkF m 52 #[.val (.long a), .second, .val (.long b), .second, .val (.int fl), .val (.long ms), .second, .val (.long by1), .second, .val (.ref b5), .unset] [(.int (1 : Int32))])) := fun t h => k t (XS.iconst X6.here hx rfl (hb hby at_51) h)
      replace k : own_K p.tables e below (s₁.setTop (entryFrame m #[(.long a), (.long b), (.int fl)] maxLocals)) (T6.setTop (mkF m 56 #[.val (.long a), .second, .val (.long b), .second, .val (.int fl), .val (.long ms), .second, .val (.long by1), .second, .val (.ref b5), .unset] [(.int (1 : Int32))])) := fun t h => k t (XS.goto X6.here hx rfl (pc0 := 52) (pc' := 56) rfl (hb hby at_52) (by decide) (by decide) h)
      replace k : own_K p.tables e below (s₁.setTop (entryFrame m #[(.long a), (.long b), (.int fl)] maxLocals)) (T6.setTop (mkF m 58 #[.val (.long a), .second, .val (.long b), .second, .val (.int fl), .val (.long ms), .second, .val (.long by1), .second, .val (.ref b5), .val (.int (1 : Int32))] [])) := fun t h => k t (XS.istore X6.here hx rfl (hb hby at_56) rfl (l' := #[.val (.long a), .second, .val (.long b), .second, .val (.int fl), .val (.long ms), .second, .val (.long by1), .second, .val (.ref b5), .val (.int (1 : Int32))]) rfl h)
      replace k : own_K p.tables e below (s₁.setTop (entryFrame m #[(.long a), (.long b), (.int fl)] maxLocals)) (T6.setTop (mkF m 60 #[.val (.long a), .second, .val (.long b), .second, .val (.int fl), .val (.long ms), .second, .val (.long by1), .second, .val (.ref b5), .val (.int (1 : Int32))] [(.ref b5)])) := fun t h => k t (XS.aload X6.here hx rfl (hb hby at_58) rfl rfl h)
      obtain ⟨cq10, kq10, q10a, q10b, q10c⟩ := isOf hZ rfl E2
      obtain ⟨_, _, ⟨T10, L10, kk10, n10⟩, -, X10, ⟨Lc10, hQ10, l10, y10, z10⟩, st10⟩ := X6.virtualBack hx (y := (⟨"com/example/oncelog/oncelog/log/Retention", "keepsAll", "()Z"⟩ : MethodName)) (z := (⟨"com/example/oncelog/oncelog/log/Retention", "keepsAll", "()Z"⟩ : MethodName)) hown (mvT hZ (hw _ (List.mem_of_getElem? (i := 24) rfl))) (mvT hZ (hw _ (List.mem_of_getElem? (i := 25) rfl))) (notFace_of_selects (args := #[]) (mvT hZ (hw _ (List.mem_of_getElem? (i := 27) rfl)))) (mvT hZ (hw _ (List.mem_of_getElem? (i := 27) rfl))) (mvT hZ (hw _ (List.mem_of_getElem? (i := 26) rfl))) (by decide) (backOf (W := 0) (rm4 l Z a0 hw [] b5 ms by1 T6.heap n0 P1 P2) hZ (hw _ (List.mem_of_getElem? (i := 28) rfl)) (hw _ (List.mem_of_getElem? (i := 7) rfl)) (by decide) (by decide)) q10a q10c (g := (mkF m 60 #[.val (.long a), .second, .val (.long b), .second, .val (.int fl), .val (.long ms), .second, .val (.long by1), .second, .val (.ref b5), .val (.int (1 : Int32))] [(.ref b5)])) rfl (by rw [hml]; rfl) (Steps.refl _) (argsL := []) (rest := []) (lenOf own_pd3 rfl) rfl (by show 2 * 0 + _ ≤ _; exact Nat.le_of_eq rfl) (hb hby at_60) (fun _ _ => ⟨rfl, rfl, (by decide : 1 + 0 ≤ _), (by decide : 2 + 0 ≤ _)⟩)
      dsimp only [Pt.U, Pt.locs, Pt.cells, Pt.slots] at X10 l10 y10 z10 st10 hQ10
      subst l10 y10 z10
      obtain ⟨rfl, N10q, eq9⟩ := hQ10
      have N10 := Fr.app N6 N10q
      replace k : own_K p.tables e below (s₁.setTop (entryFrame m #[(.long a), (.long b), (.int fl)] maxLocals)) (T10.setTop (mkF m 63 #[.val (.long a), .second, .val (.long b), .second, .val (.int fl), .val (.long ms), .second, .val (.long by1), .second, .val (.ref b5), .val (.int (1 : Int32))] [(.int (own_keep ms by1))])) := fun t h => k t (st10.trans h)
      replace k : own_K p.tables e below (s₁.setTop (entryFrame m #[(.long a), (.long b), (.int fl)] maxLocals)) (T10.setTop (mkF m 65 #[.val (.long a), .second, .val (.long b), .second, .val (.int fl), .val (.long ms), .second, .val (.long by1), .second, .val (.ref b5), .val (.int (1 : Int32))] [(.int (1 : Int32)), (.int (own_keep ms by1))])) := fun t h => k t (XS.iload X10.here hx rfl (hb hby at_63) rfl h)
      replace k : own_K p.tables e below (s₁.setTop (entryFrame m #[(.long a), (.long b), (.int fl)] maxLocals)) (T10.setTop (mkF m 68 #[.val (.long a), .second, .val (.long b), .second, .val (.int fl), .val (.long ms), .second, .val (.long by1), .second, .val (.ref b5), .val (.int (1 : Int32))] [])) := fun t h => k t (XS.icmpNo X10.here hx rfl (hb hby at_65) rfl (teq (by simp [own_keep, cc7, cc8])).2 h)
      replace k : own_K p.tables e below (s₁.setTop (entryFrame m #[(.long a), (.long b), (.int fl)] maxLocals)) (T10.setTop (mkF m 70 #[.val (.long a), .second, .val (.long b), .second, .val (.int fl), .val (.long ms), .second, .val (.long by1), .second, .val (.ref b5), .val (.int (1 : Int32))] [(.ref b5)])) := fun t h => k t (XS.aload X10.here hx rfl (hb hby at_68) rfl rfl h)
      obtain ⟨cq12, kq12, q12a, q12b, q12c⟩ := isOf hZ eq9 E2
      obtain ⟨_, _, ⟨T12, L12, kk12, n12⟩, -, X12, ⟨Lc12, hQ12, l12, y12, z12⟩, st12⟩ := X10.virtualBack hx (y := (⟨"com/example/oncelog/oncelog/log/Retention", "ms", "()J"⟩ : MethodName)) (z := (⟨"com/example/oncelog/oncelog/log/Retention", "ms", "()J"⟩ : MethodName)) hown (mvT hZ (hw _ (List.mem_of_getElem? (i := 29) rfl))) (mvT hZ (hw _ (List.mem_of_getElem? (i := 30) rfl))) (notFace_of_selects (args := #[]) (mvT hZ (hw _ (List.mem_of_getElem? (i := 32) rfl)))) (mvT hZ (hw _ (List.mem_of_getElem? (i := 32) rfl))) (mvT hZ (hw _ (List.mem_of_getElem? (i := 31) rfl))) (by decide) (backOf (W := 0) (rm5 l Z a0 hw [] b5 ms T6.heap n0 P1) hZ (hw _ (List.mem_of_getElem? (i := 33) rfl)) (hw _ (List.mem_of_getElem? (i := 7) rfl)) (by decide) (by decide)) q12a q12c (g := (mkF m 70 #[.val (.long a), .second, .val (.long b), .second, .val (.int fl), .val (.long ms), .second, .val (.long by1), .second, .val (.ref b5), .val (.int (1 : Int32))] [(.ref b5)])) rfl (by rw [hml]; rfl) (Steps.refl _) (argsL := []) (rest := []) (lenOf own_pd4 rfl) rfl (by show 2 * 0 + _ ≤ _; exact Nat.le_of_eq rfl) (hb hby at_70) (fun _ _ => ⟨rfl, eq9, (by decide : 1 + 0 ≤ _), (by decide : 2 + 0 ≤ _)⟩)
      dsimp only [Pt.U, Pt.locs, Pt.cells, Pt.slots] at X12 l12 y12 z12 st12 hQ12
      subst l12 y12 z12
      obtain ⟨rfl, N12q, eq11⟩ := hQ12
      have N12 := Fr.app N10 N12q
      replace k : own_K p.tables e below (s₁.setTop (entryFrame m #[(.long a), (.long b), (.int fl)] maxLocals)) (T12.setTop (mkF m 73 #[.val (.long a), .second, .val (.long b), .second, .val (.int fl), .val (.long ms), .second, .val (.long by1), .second, .val (.ref b5), .val (.int (1 : Int32))] [(.long ms)])) := fun t h => k t (st12.trans h)
      replace k : own_K p.tables e below (s₁.setTop (entryFrame m #[(.long a), (.long b), (.int fl)] maxLocals)) (T12.setTop (mkF m 75 #[.val (.long a), .second, .val (.long b), .second, .val (.int fl), .val (.long ms), .second, .val (.long by1), .second, .val (.ref b5), .val (.int (1 : Int32))] [(.long ms), (.long ms)])) := fun t h => k t (XS.lload X12.here hx rfl (hb hby at_73) rfl h)
      replace k : own_K p.tables e below (s₁.setTop (entryFrame m #[(.long a), (.long b), (.int fl)] maxLocals)) (T12.setTop (mkF m 76 #[.val (.long a), .second, .val (.long b), .second, .val (.int fl), .val (.long ms), .second, .val (.long by1), .second, .val (.ref b5), .val (.int (1 : Int32))] [(.int (lcmpW ms ms))])) := fun t h => k t (XS.lcmp X12.here hx rfl (hb hby at_75) rfl h)
      replace k : own_K p.tables e below (s₁.setTop (entryFrame m #[(.long a), (.long b), (.int fl)] maxLocals)) (T12.setTop (mkF m 79 #[.val (.long a), .second, .val (.long b), .second, .val (.int fl), .val (.long ms), .second, .val (.long by1), .second, .val (.ref b5), .val (.int (1 : Int32))] [])) := fun t h => k t (XS.ifNo X12.here hx rfl (hb hby at_76) rfl ((if0 _ _).trans (teq ((lw_eq _ _).mpr rfl)).2) h)
      replace k : own_K p.tables e below (s₁.setTop (entryFrame m #[(.long a), (.long b), (.int fl)] maxLocals)) (T12.setTop (mkF m 81 #[.val (.long a), .second, .val (.long b), .second, .val (.int fl), .val (.long ms), .second, .val (.long by1), .second, .val (.ref b5), .val (.int (1 : Int32))] [(.ref b5)])) := fun t h => k t (XS.aload X12.here hx rfl (hb hby at_79) rfl rfl h)
      obtain ⟨cq14, kq14, q14a, q14b, q14c⟩ := isOf hZ eq11 E2
      obtain ⟨_, _, ⟨T14, L14, kk14, n14⟩, -, X14, ⟨Lc14, hQ14, l14, y14, z14⟩, st14⟩ := X12.virtualBack hx (y := (⟨"com/example/oncelog/oncelog/log/Retention", "bytes", "()J"⟩ : MethodName)) (z := (⟨"com/example/oncelog/oncelog/log/Retention", "bytes", "()J"⟩ : MethodName)) hown (mvT hZ (hw _ (List.mem_of_getElem? (i := 34) rfl))) (mvT hZ (hw _ (List.mem_of_getElem? (i := 35) rfl))) (notFace_of_selects (args := #[]) (mvT hZ (hw _ (List.mem_of_getElem? (i := 37) rfl)))) (mvT hZ (hw _ (List.mem_of_getElem? (i := 37) rfl))) (mvT hZ (hw _ (List.mem_of_getElem? (i := 36) rfl))) (by decide) (backOf (W := 0) (rm6 l Z a0 hw [] b5 by1 T6.heap n0 P2) hZ (hw _ (List.mem_of_getElem? (i := 38) rfl)) (hw _ (List.mem_of_getElem? (i := 7) rfl)) (by decide) (by decide)) q14a q14c (g := (mkF m 81 #[.val (.long a), .second, .val (.long b), .second, .val (.int fl), .val (.long ms), .second, .val (.long by1), .second, .val (.ref b5), .val (.int (1 : Int32))] [(.ref b5)])) rfl (by rw [hml]; rfl) (Steps.refl _) (argsL := []) (rest := []) (lenOf own_pd4 rfl) rfl (by show 2 * 0 + _ ≤ _; exact Nat.le_of_eq rfl) (hb hby at_81) (fun _ _ => ⟨rfl, eq11, (by decide : 1 + 0 ≤ _), (by decide : 2 + 0 ≤ _)⟩)
      dsimp only [Pt.U, Pt.locs, Pt.cells, Pt.slots] at X14 l14 y14 z14 st14 hQ14
      subst l14 y14 z14
      obtain ⟨rfl, N14q, eq13⟩ := hQ14
      have N14 := Fr.app N12 N14q
      replace k : own_K p.tables e below (s₁.setTop (entryFrame m #[(.long a), (.long b), (.int fl)] maxLocals)) (T14.setTop (mkF m 84 #[.val (.long a), .second, .val (.long b), .second, .val (.int fl), .val (.long ms), .second, .val (.long by1), .second, .val (.ref b5), .val (.int (1 : Int32))] [(.long by1)])) := fun t h => k t (st14.trans h)
      replace k : own_K p.tables e below (s₁.setTop (entryFrame m #[(.long a), (.long b), (.int fl)] maxLocals)) (T14.setTop (mkF m 86 #[.val (.long a), .second, .val (.long b), .second, .val (.int fl), .val (.long ms), .second, .val (.long by1), .second, .val (.ref b5), .val (.int (1 : Int32))] [(.long by1), (.long by1)])) := fun t h => k t (XS.lload X14.here hx rfl (hb hby at_84) rfl h)
      replace k : own_K p.tables e below (s₁.setTop (entryFrame m #[(.long a), (.long b), (.int fl)] maxLocals)) (T14.setTop (mkF m 87 #[.val (.long a), .second, .val (.long b), .second, .val (.int fl), .val (.long ms), .second, .val (.long by1), .second, .val (.ref b5), .val (.int (1 : Int32))] [(.int (lcmpW by1 by1))])) := fun t h => k t (XS.lcmp X14.here hx rfl (hb hby at_86) rfl h)
      replace k : own_K p.tables e below (s₁.setTop (entryFrame m #[(.long a), (.long b), (.int fl)] maxLocals)) (T14.setTop (mkF m 90 #[.val (.long a), .second, .val (.long b), .second, .val (.int fl), .val (.long ms), .second, .val (.long by1), .second, .val (.ref b5), .val (.int (1 : Int32))] [])) := fun t h => k t (XS.ifNo X14.here hx rfl (hb hby at_87) rfl ((if0 _ _).trans (teq ((lw_eq _ _).mpr rfl)).2) h)
      obtain ⟨T15, X15, e15, st15⟩ := getS2 X14 hx hZ hown (host := "") (Or.inl (hw _ (List.mem_of_getElem? (i := 39) rfl))) Via.refl eq13 S1 (g := (mkF m 90 #[.val (.long a), .second, .val (.long b), .second, .val (.int fl), .val (.long ms), .second, .val (.long by1), .second, .val (.ref b5), .val (.int (1 : Int32))] [])) rfl (hb hby at_90)
      replace k : own_K p.tables e below (s₁.setTop (entryFrame m #[(.long a), (.long b), (.int fl)] maxLocals)) (T15.setTop (mkF m 93 #[.val (.long a), .second, .val (.long b), .second, .val (.int fl), .val (.long ms), .second, .val (.long by1), .second, .val (.ref b5), .val (.int (1 : Int32))] [(.ref ka)])) := fun t h => k t (st15 _ h)
      obtain ⟨cq17, kq17, q17a, q17b, q17c⟩ := isOf hZ e15 E1
      obtain ⟨_, _, ⟨T17, L17, kk17, n17⟩, -, X17, ⟨Lc17, hQ17, l17, y17, z17⟩, st17⟩ := X15.virtualBack hx (y := (⟨"com/example/oncelog/oncelog/log/Retention", "keepsAll", "()Z"⟩ : MethodName)) (z := (⟨"com/example/oncelog/oncelog/log/Retention", "keepsAll", "()Z"⟩ : MethodName)) hown (mvT hZ (hw _ (List.mem_of_getElem? (i := 24) rfl))) (mvT hZ (hw _ (List.mem_of_getElem? (i := 25) rfl))) (notFace_of_selects (args := #[]) (mvT hZ (hw _ (List.mem_of_getElem? (i := 27) rfl)))) (mvT hZ (hw _ (List.mem_of_getElem? (i := 27) rfl))) (mvT hZ (hw _ (List.mem_of_getElem? (i := 26) rfl))) (by decide) (backOf (W := 0) (rm4 l Z a0 hw [] ka (-1 : Int64) (-1 : Int64) T6.heap n0 G1 G2) hZ (hw _ (List.mem_of_getElem? (i := 28) rfl)) (hw _ (List.mem_of_getElem? (i := 7) rfl)) (by decide) (by decide)) q17a q17c (g := (mkF m 93 #[.val (.long a), .second, .val (.long b), .second, .val (.int fl), .val (.long ms), .second, .val (.long by1), .second, .val (.ref b5), .val (.int (1 : Int32))] [(.ref ka)])) rfl (by rw [hml]; rfl) (Steps.refl _) (argsL := []) (rest := []) (lenOf own_pd3 rfl) rfl (by show 2 * 0 + _ ≤ _; exact Nat.le_of_eq rfl) (hb hby at_93) (fun _ _ => ⟨rfl, e15, (by decide : 1 + 0 ≤ _), (by decide : 2 + 0 ≤ _)⟩)
      dsimp only [Pt.U, Pt.locs, Pt.cells, Pt.slots] at X17 l17 y17 z17 st17 hQ17
      subst l17 y17 z17
      obtain ⟨rfl, N17q, eq16⟩ := hQ17
      have N17 := Fr.app N14 N17q
      replace k : own_K p.tables e below (s₁.setTop (entryFrame m #[(.long a), (.long b), (.int fl)] maxLocals)) (T17.setTop (mkF m 96 #[.val (.long a), .second, .val (.long b), .second, .val (.int fl), .val (.long ms), .second, .val (.long by1), .second, .val (.ref b5), .val (.int (1 : Int32))] [(.int (own_keep (-1 : Int64) (-1 : Int64)))])) := fun t h => k t (st17.trans h)
      replace k : own_K p.tables e below (s₁.setTop (entryFrame m #[(.long a), (.long b), (.int fl)] maxLocals)) (T17.setTop (mkF m 99 #[.val (.long a), .second, .val (.long b), .second, .val (.int fl), .val (.long ms), .second, .val (.long by1), .second, .val (.ref b5), .val (.int (1 : Int32))] [])) := fun t h => k t (XS.ifNo X17.here hx rfl (hb hby at_96) rfl ((if0 _ _).trans (feq (by decide)).1) h)
      replace k : own_K p.tables e below (s₁.setTop (entryFrame m #[(.long a), (.long b), (.int fl)] maxLocals)) (T17.setTop (mkF m 100 #[.val (.long a), .second, .val (.long b), .second, .val (.int fl), .val (.long ms), .second, .val (.long by1), .second, .val (.ref b5), .val (.int (1 : Int32))] [(.int (1 : Int32))])) := fun t h => k t (XS.iconst X17.here hx rfl (hb hby at_99) h)
      replace k : own_K p.tables e below (s₁.setTop (entryFrame m #[(.long a), (.long b), (.int fl)] maxLocals)) (T17.setTop (mkF m 104 #[.val (.long a), .second, .val (.long b), .second, .val (.int fl), .val (.long ms), .second, .val (.long by1), .second, .val (.ref b5), .val (.int (1 : Int32))] [(.int (1 : Int32))])) := fun t h => k t (XS.goto X17.here hx rfl (pc0 := 100) (pc' := 104) rfl (hb hby at_100) (by decide) (by decide) h)
      obtain ⟨fs, hr, hrun, hended, hW, hsame⟩ := X17.leave (v := some (.int (1 : Int32))) (fun h => by rw [Bd.returns] at h; cases h)
      refine ⟨_, _, k _ (retOut X17 hx Bd.returns rfl (Or.inl ⟨rfl, by simp [ret], _, rfl⟩) (hb hby at_104) hr), hrun, hended, _, _, rfl, ?_, ⟨_, rfl⟩, hW, hsame.mono (by decide) (by decide)⟩
      show Q0 Z a b fl ka h0 n0 _ T17.heap _
      rw [eq16]
      exact ⟨rfl, N17⟩
    · replace k : own_K p.tables e below (s₁.setTop (entryFrame m #[(.long a), (.long b), (.int fl)] maxLocals)) (T6.setTop (mkF m 55 #[.val (.long a), .second, .val (.long b), .second, .val (.int fl), .val (.long ms), .second, .val (.long by1), .second, .val (.ref b5), .unset] [])) := fun t h => k t (XS.ifYes X6.here hx rfl (pc0 := 48) (pc' := 55) rfl (hb hby at_48) rfl ((if0 _ _).trans (feq (fun q => cc8 ((lw_eq _ _).mp q))).2) (by decide) (by decide) h)
      replace k : own_K p.tables e below (s₁.setTop (entryFrame m #[(.long a), (.long b), (.int fl)] maxLocals)) (T6.setTop (mkF m 56 #[.val (.long a), .second, .val (.long b), .second, .val (.int fl), .val (.long ms), .second, .val (.long by1), .second, .val (.ref b5), .unset] [(.int (0 : Int32))])) := fun t h => k t (XS.iconst X6.here hx rfl (hb hby at_55) h)
      replace k : own_K p.tables e below (s₁.setTop (entryFrame m #[(.long a), (.long b), (.int fl)] maxLocals)) (T6.setTop (mkF m 58 #[.val (.long a), .second, .val (.long b), .second, .val (.int fl), .val (.long ms), .second, .val (.long by1), .second, .val (.ref b5), .val (.int (0 : Int32))] [])) := fun t h => k t (XS.istore X6.here hx rfl (hb hby at_56) rfl (l' := #[.val (.long a), .second, .val (.long b), .second, .val (.int fl), .val (.long ms), .second, .val (.long by1), .second, .val (.ref b5), .val (.int (0 : Int32))]) rfl h)
      replace k : own_K p.tables e below (s₁.setTop (entryFrame m #[(.long a), (.long b), (.int fl)] maxLocals)) (T6.setTop (mkF m 60 #[.val (.long a), .second, .val (.long b), .second, .val (.int fl), .val (.long ms), .second, .val (.long by1), .second, .val (.ref b5), .val (.int (0 : Int32))] [(.ref b5)])) := fun t h => k t (XS.aload X6.here hx rfl (hb hby at_58) rfl rfl h)
      obtain ⟨cq19, kq19, q19a, q19b, q19c⟩ := isOf hZ rfl E2
      obtain ⟨_, _, ⟨T19, L19, kk19, n19⟩, -, X19, ⟨Lc19, hQ19, l19, y19, z19⟩, st19⟩ := X6.virtualBack hx (y := (⟨"com/example/oncelog/oncelog/log/Retention", "keepsAll", "()Z"⟩ : MethodName)) (z := (⟨"com/example/oncelog/oncelog/log/Retention", "keepsAll", "()Z"⟩ : MethodName)) hown (mvT hZ (hw _ (List.mem_of_getElem? (i := 24) rfl))) (mvT hZ (hw _ (List.mem_of_getElem? (i := 25) rfl))) (notFace_of_selects (args := #[]) (mvT hZ (hw _ (List.mem_of_getElem? (i := 27) rfl)))) (mvT hZ (hw _ (List.mem_of_getElem? (i := 27) rfl))) (mvT hZ (hw _ (List.mem_of_getElem? (i := 26) rfl))) (by decide) (backOf (W := 0) (rm4 l Z a0 hw [] b5 ms by1 T6.heap n0 P1 P2) hZ (hw _ (List.mem_of_getElem? (i := 28) rfl)) (hw _ (List.mem_of_getElem? (i := 7) rfl)) (by decide) (by decide)) q19a q19c (g := (mkF m 60 #[.val (.long a), .second, .val (.long b), .second, .val (.int fl), .val (.long ms), .second, .val (.long by1), .second, .val (.ref b5), .val (.int (0 : Int32))] [(.ref b5)])) rfl (by rw [hml]; rfl) (Steps.refl _) (argsL := []) (rest := []) (lenOf own_pd3 rfl) rfl (by show 2 * 0 + _ ≤ _; exact Nat.le_of_eq rfl) (hb hby at_60) (fun _ _ => ⟨rfl, rfl, (by decide : 1 + 0 ≤ _), (by decide : 2 + 0 ≤ _)⟩)
      dsimp only [Pt.U, Pt.locs, Pt.cells, Pt.slots] at X19 l19 y19 z19 st19 hQ19
      subst l19 y19 z19
      obtain ⟨rfl, N19q, eq18⟩ := hQ19
      have N19 := Fr.app N6 N19q
      replace k : own_K p.tables e below (s₁.setTop (entryFrame m #[(.long a), (.long b), (.int fl)] maxLocals)) (T19.setTop (mkF m 63 #[.val (.long a), .second, .val (.long b), .second, .val (.int fl), .val (.long ms), .second, .val (.long by1), .second, .val (.ref b5), .val (.int (0 : Int32))] [(.int (own_keep ms by1))])) := fun t h => k t (st19.trans h)
      replace k : own_K p.tables e below (s₁.setTop (entryFrame m #[(.long a), (.long b), (.int fl)] maxLocals)) (T19.setTop (mkF m 65 #[.val (.long a), .second, .val (.long b), .second, .val (.int fl), .val (.long ms), .second, .val (.long by1), .second, .val (.ref b5), .val (.int (0 : Int32))] [(.int (0 : Int32)), (.int (own_keep ms by1))])) := fun t h => k t (XS.iload X19.here hx rfl (hb hby at_63) rfl h)
      replace k : own_K p.tables e below (s₁.setTop (entryFrame m #[(.long a), (.long b), (.int fl)] maxLocals)) (T19.setTop (mkF m 68 #[.val (.long a), .second, .val (.long b), .second, .val (.int fl), .val (.long ms), .second, .val (.long by1), .second, .val (.ref b5), .val (.int (0 : Int32))] [])) := fun t h => k t (XS.icmpNo X19.here hx rfl (hb hby at_65) rfl (teq (by simp [own_keep, cc7, cc8])).2 h)
      replace k : own_K p.tables e below (s₁.setTop (entryFrame m #[(.long a), (.long b), (.int fl)] maxLocals)) (T19.setTop (mkF m 70 #[.val (.long a), .second, .val (.long b), .second, .val (.int fl), .val (.long ms), .second, .val (.long by1), .second, .val (.ref b5), .val (.int (0 : Int32))] [(.ref b5)])) := fun t h => k t (XS.aload X19.here hx rfl (hb hby at_68) rfl rfl h)
      obtain ⟨cq21, kq21, q21a, q21b, q21c⟩ := isOf hZ eq18 E2
      obtain ⟨_, _, ⟨T21, L21, kk21, n21⟩, -, X21, ⟨Lc21, hQ21, l21, y21, z21⟩, st21⟩ := X19.virtualBack hx (y := (⟨"com/example/oncelog/oncelog/log/Retention", "ms", "()J"⟩ : MethodName)) (z := (⟨"com/example/oncelog/oncelog/log/Retention", "ms", "()J"⟩ : MethodName)) hown (mvT hZ (hw _ (List.mem_of_getElem? (i := 29) rfl))) (mvT hZ (hw _ (List.mem_of_getElem? (i := 30) rfl))) (notFace_of_selects (args := #[]) (mvT hZ (hw _ (List.mem_of_getElem? (i := 32) rfl)))) (mvT hZ (hw _ (List.mem_of_getElem? (i := 32) rfl))) (mvT hZ (hw _ (List.mem_of_getElem? (i := 31) rfl))) (by decide) (backOf (W := 0) (rm5 l Z a0 hw [] b5 ms T6.heap n0 P1) hZ (hw _ (List.mem_of_getElem? (i := 33) rfl)) (hw _ (List.mem_of_getElem? (i := 7) rfl)) (by decide) (by decide)) q21a q21c (g := (mkF m 70 #[.val (.long a), .second, .val (.long b), .second, .val (.int fl), .val (.long ms), .second, .val (.long by1), .second, .val (.ref b5), .val (.int (0 : Int32))] [(.ref b5)])) rfl (by rw [hml]; rfl) (Steps.refl _) (argsL := []) (rest := []) (lenOf own_pd4 rfl) rfl (by show 2 * 0 + _ ≤ _; exact Nat.le_of_eq rfl) (hb hby at_70) (fun _ _ => ⟨rfl, eq18, (by decide : 1 + 0 ≤ _), (by decide : 2 + 0 ≤ _)⟩)
      dsimp only [Pt.U, Pt.locs, Pt.cells, Pt.slots] at X21 l21 y21 z21 st21 hQ21
      subst l21 y21 z21
      obtain ⟨rfl, N21q, eq20⟩ := hQ21
      have N21 := Fr.app N19 N21q
      replace k : own_K p.tables e below (s₁.setTop (entryFrame m #[(.long a), (.long b), (.int fl)] maxLocals)) (T21.setTop (mkF m 73 #[.val (.long a), .second, .val (.long b), .second, .val (.int fl), .val (.long ms), .second, .val (.long by1), .second, .val (.ref b5), .val (.int (0 : Int32))] [(.long ms)])) := fun t h => k t (st21.trans h)
      replace k : own_K p.tables e below (s₁.setTop (entryFrame m #[(.long a), (.long b), (.int fl)] maxLocals)) (T21.setTop (mkF m 75 #[.val (.long a), .second, .val (.long b), .second, .val (.int fl), .val (.long ms), .second, .val (.long by1), .second, .val (.ref b5), .val (.int (0 : Int32))] [(.long ms), (.long ms)])) := fun t h => k t (XS.lload X21.here hx rfl (hb hby at_73) rfl h)
      replace k : own_K p.tables e below (s₁.setTop (entryFrame m #[(.long a), (.long b), (.int fl)] maxLocals)) (T21.setTop (mkF m 76 #[.val (.long a), .second, .val (.long b), .second, .val (.int fl), .val (.long ms), .second, .val (.long by1), .second, .val (.ref b5), .val (.int (0 : Int32))] [(.int (lcmpW ms ms))])) := fun t h => k t (XS.lcmp X21.here hx rfl (hb hby at_75) rfl h)
      replace k : own_K p.tables e below (s₁.setTop (entryFrame m #[(.long a), (.long b), (.int fl)] maxLocals)) (T21.setTop (mkF m 79 #[.val (.long a), .second, .val (.long b), .second, .val (.int fl), .val (.long ms), .second, .val (.long by1), .second, .val (.ref b5), .val (.int (0 : Int32))] [])) := fun t h => k t (XS.ifNo X21.here hx rfl (hb hby at_76) rfl ((if0 _ _).trans (teq ((lw_eq _ _).mpr rfl)).2) h)
      replace k : own_K p.tables e below (s₁.setTop (entryFrame m #[(.long a), (.long b), (.int fl)] maxLocals)) (T21.setTop (mkF m 81 #[.val (.long a), .second, .val (.long b), .second, .val (.int fl), .val (.long ms), .second, .val (.long by1), .second, .val (.ref b5), .val (.int (0 : Int32))] [(.ref b5)])) := fun t h => k t (XS.aload X21.here hx rfl (hb hby at_79) rfl rfl h)
      obtain ⟨cq23, kq23, q23a, q23b, q23c⟩ := isOf hZ eq20 E2
      obtain ⟨_, _, ⟨T23, L23, kk23, n23⟩, -, X23, ⟨Lc23, hQ23, l23, y23, z23⟩, st23⟩ := X21.virtualBack hx (y := (⟨"com/example/oncelog/oncelog/log/Retention", "bytes", "()J"⟩ : MethodName)) (z := (⟨"com/example/oncelog/oncelog/log/Retention", "bytes", "()J"⟩ : MethodName)) hown (mvT hZ (hw _ (List.mem_of_getElem? (i := 34) rfl))) (mvT hZ (hw _ (List.mem_of_getElem? (i := 35) rfl))) (notFace_of_selects (args := #[]) (mvT hZ (hw _ (List.mem_of_getElem? (i := 37) rfl)))) (mvT hZ (hw _ (List.mem_of_getElem? (i := 37) rfl))) (mvT hZ (hw _ (List.mem_of_getElem? (i := 36) rfl))) (by decide) (backOf (W := 0) (rm6 l Z a0 hw [] b5 by1 T6.heap n0 P2) hZ (hw _ (List.mem_of_getElem? (i := 38) rfl)) (hw _ (List.mem_of_getElem? (i := 7) rfl)) (by decide) (by decide)) q23a q23c (g := (mkF m 81 #[.val (.long a), .second, .val (.long b), .second, .val (.int fl), .val (.long ms), .second, .val (.long by1), .second, .val (.ref b5), .val (.int (0 : Int32))] [(.ref b5)])) rfl (by rw [hml]; rfl) (Steps.refl _) (argsL := []) (rest := []) (lenOf own_pd4 rfl) rfl (by show 2 * 0 + _ ≤ _; exact Nat.le_of_eq rfl) (hb hby at_81) (fun _ _ => ⟨rfl, eq20, (by decide : 1 + 0 ≤ _), (by decide : 2 + 0 ≤ _)⟩)
      dsimp only [Pt.U, Pt.locs, Pt.cells, Pt.slots] at X23 l23 y23 z23 st23 hQ23
      subst l23 y23 z23
      obtain ⟨rfl, N23q, eq22⟩ := hQ23
      have N23 := Fr.app N21 N23q
      replace k : own_K p.tables e below (s₁.setTop (entryFrame m #[(.long a), (.long b), (.int fl)] maxLocals)) (T23.setTop (mkF m 84 #[.val (.long a), .second, .val (.long b), .second, .val (.int fl), .val (.long ms), .second, .val (.long by1), .second, .val (.ref b5), .val (.int (0 : Int32))] [(.long by1)])) := fun t h => k t (st23.trans h)
      replace k : own_K p.tables e below (s₁.setTop (entryFrame m #[(.long a), (.long b), (.int fl)] maxLocals)) (T23.setTop (mkF m 86 #[.val (.long a), .second, .val (.long b), .second, .val (.int fl), .val (.long ms), .second, .val (.long by1), .second, .val (.ref b5), .val (.int (0 : Int32))] [(.long by1), (.long by1)])) := fun t h => k t (XS.lload X23.here hx rfl (hb hby at_84) rfl h)
      replace k : own_K p.tables e below (s₁.setTop (entryFrame m #[(.long a), (.long b), (.int fl)] maxLocals)) (T23.setTop (mkF m 87 #[.val (.long a), .second, .val (.long b), .second, .val (.int fl), .val (.long ms), .second, .val (.long by1), .second, .val (.ref b5), .val (.int (0 : Int32))] [(.int (lcmpW by1 by1))])) := fun t h => k t (XS.lcmp X23.here hx rfl (hb hby at_86) rfl h)
      replace k : own_K p.tables e below (s₁.setTop (entryFrame m #[(.long a), (.long b), (.int fl)] maxLocals)) (T23.setTop (mkF m 90 #[.val (.long a), .second, .val (.long b), .second, .val (.int fl), .val (.long ms), .second, .val (.long by1), .second, .val (.ref b5), .val (.int (0 : Int32))] [])) := fun t h => k t (XS.ifNo X23.here hx rfl (hb hby at_87) rfl ((if0 _ _).trans (teq ((lw_eq _ _).mpr rfl)).2) h)
      obtain ⟨T24, X24, e24, st24⟩ := getS2 X23 hx hZ hown (host := "") (Or.inl (hw _ (List.mem_of_getElem? (i := 39) rfl))) Via.refl eq22 S1 (g := (mkF m 90 #[.val (.long a), .second, .val (.long b), .second, .val (.int fl), .val (.long ms), .second, .val (.long by1), .second, .val (.ref b5), .val (.int (0 : Int32))] [])) rfl (hb hby at_90)
      replace k : own_K p.tables e below (s₁.setTop (entryFrame m #[(.long a), (.long b), (.int fl)] maxLocals)) (T24.setTop (mkF m 93 #[.val (.long a), .second, .val (.long b), .second, .val (.int fl), .val (.long ms), .second, .val (.long by1), .second, .val (.ref b5), .val (.int (0 : Int32))] [(.ref ka)])) := fun t h => k t (st24 _ h)
      obtain ⟨cq26, kq26, q26a, q26b, q26c⟩ := isOf hZ e24 E1
      obtain ⟨_, _, ⟨T26, L26, kk26, n26⟩, -, X26, ⟨Lc26, hQ26, l26, y26, z26⟩, st26⟩ := X24.virtualBack hx (y := (⟨"com/example/oncelog/oncelog/log/Retention", "keepsAll", "()Z"⟩ : MethodName)) (z := (⟨"com/example/oncelog/oncelog/log/Retention", "keepsAll", "()Z"⟩ : MethodName)) hown (mvT hZ (hw _ (List.mem_of_getElem? (i := 24) rfl))) (mvT hZ (hw _ (List.mem_of_getElem? (i := 25) rfl))) (notFace_of_selects (args := #[]) (mvT hZ (hw _ (List.mem_of_getElem? (i := 27) rfl)))) (mvT hZ (hw _ (List.mem_of_getElem? (i := 27) rfl))) (mvT hZ (hw _ (List.mem_of_getElem? (i := 26) rfl))) (by decide) (backOf (W := 0) (rm4 l Z a0 hw [] ka (-1 : Int64) (-1 : Int64) T6.heap n0 G1 G2) hZ (hw _ (List.mem_of_getElem? (i := 28) rfl)) (hw _ (List.mem_of_getElem? (i := 7) rfl)) (by decide) (by decide)) q26a q26c (g := (mkF m 93 #[.val (.long a), .second, .val (.long b), .second, .val (.int fl), .val (.long ms), .second, .val (.long by1), .second, .val (.ref b5), .val (.int (0 : Int32))] [(.ref ka)])) rfl (by rw [hml]; rfl) (Steps.refl _) (argsL := []) (rest := []) (lenOf own_pd3 rfl) rfl (by show 2 * 0 + _ ≤ _; exact Nat.le_of_eq rfl) (hb hby at_93) (fun _ _ => ⟨rfl, e24, (by decide : 1 + 0 ≤ _), (by decide : 2 + 0 ≤ _)⟩)
      dsimp only [Pt.U, Pt.locs, Pt.cells, Pt.slots] at X26 l26 y26 z26 st26 hQ26
      subst l26 y26 z26
      obtain ⟨rfl, N26q, eq25⟩ := hQ26
      have N26 := Fr.app N23 N26q
      replace k : own_K p.tables e below (s₁.setTop (entryFrame m #[(.long a), (.long b), (.int fl)] maxLocals)) (T26.setTop (mkF m 96 #[.val (.long a), .second, .val (.long b), .second, .val (.int fl), .val (.long ms), .second, .val (.long by1), .second, .val (.ref b5), .val (.int (0 : Int32))] [(.int (own_keep (-1 : Int64) (-1 : Int64)))])) := fun t h => k t (st26.trans h)
      replace k : own_K p.tables e below (s₁.setTop (entryFrame m #[(.long a), (.long b), (.int fl)] maxLocals)) (T26.setTop (mkF m 99 #[.val (.long a), .second, .val (.long b), .second, .val (.int fl), .val (.long ms), .second, .val (.long by1), .second, .val (.ref b5), .val (.int (0 : Int32))] [])) := fun t h => k t (XS.ifNo X26.here hx rfl (hb hby at_96) rfl ((if0 _ _).trans (feq (by decide)).1) h)
      replace k : own_K p.tables e below (s₁.setTop (entryFrame m #[(.long a), (.long b), (.int fl)] maxLocals)) (T26.setTop (mkF m 100 #[.val (.long a), .second, .val (.long b), .second, .val (.int fl), .val (.long ms), .second, .val (.long by1), .second, .val (.ref b5), .val (.int (0 : Int32))] [(.int (1 : Int32))])) := fun t h => k t (XS.iconst X26.here hx rfl (hb hby at_99) h)
      replace k : own_K p.tables e below (s₁.setTop (entryFrame m #[(.long a), (.long b), (.int fl)] maxLocals)) (T26.setTop (mkF m 104 #[.val (.long a), .second, .val (.long b), .second, .val (.int fl), .val (.long ms), .second, .val (.long by1), .second, .val (.ref b5), .val (.int (0 : Int32))] [(.int (1 : Int32))])) := fun t h => k t (XS.goto X26.here hx rfl (pc0 := 100) (pc' := 104) rfl (hb hby at_100) (by decide) (by decide) h)
      obtain ⟨fs, hr, hrun, hended, hW, hsame⟩ := X26.leave (v := some (.int (1 : Int32))) (fun h => by rw [Bd.returns] at h; cases h)
      refine ⟨_, _, k _ (retOut X26 hx Bd.returns rfl (Or.inl ⟨rfl, by simp [ret], _, rfl⟩) (hb hby at_104) hr), hrun, hended, _, _, rfl, ?_, ⟨_, rfl⟩, hW, hsame.mono (by decide) (by decide)⟩
      show Q0 Z a b fl ka h0 n0 _ T26.heap _
      rw [eq25]
      exact ⟨rfl, N26⟩
  · replace k : own_K p.tables e below (s₁.setTop (entryFrame m #[(.long a), (.long b), (.int fl)] maxLocals)) (T6.setTop (mkF m 55 #[.val (.long a), .second, .val (.long b), .second, .val (.int fl), .val (.long ms), .second, .val (.long by1), .second, .val (.ref b5), .unset] [])) := fun t h => k t (XS.ifYes X6.here hx rfl (pc0 := 39) (pc' := 55) rfl (hb hby at_39) rfl ((if0 _ _).trans (feq (fun q => cc7 ((lw_eq _ _).mp q))).2) (by decide) (by decide) h)
    replace k : own_K p.tables e below (s₁.setTop (entryFrame m #[(.long a), (.long b), (.int fl)] maxLocals)) (T6.setTop (mkF m 56 #[.val (.long a), .second, .val (.long b), .second, .val (.int fl), .val (.long ms), .second, .val (.long by1), .second, .val (.ref b5), .unset] [(.int (0 : Int32))])) := fun t h => k t (XS.iconst X6.here hx rfl (hb hby at_55) h)
    replace k : own_K p.tables e below (s₁.setTop (entryFrame m #[(.long a), (.long b), (.int fl)] maxLocals)) (T6.setTop (mkF m 58 #[.val (.long a), .second, .val (.long b), .second, .val (.int fl), .val (.long ms), .second, .val (.long by1), .second, .val (.ref b5), .val (.int (0 : Int32))] [])) := fun t h => k t (XS.istore X6.here hx rfl (hb hby at_56) rfl (l' := #[.val (.long a), .second, .val (.long b), .second, .val (.int fl), .val (.long ms), .second, .val (.long by1), .second, .val (.ref b5), .val (.int (0 : Int32))]) rfl h)
    replace k : own_K p.tables e below (s₁.setTop (entryFrame m #[(.long a), (.long b), (.int fl)] maxLocals)) (T6.setTop (mkF m 60 #[.val (.long a), .second, .val (.long b), .second, .val (.int fl), .val (.long ms), .second, .val (.long by1), .second, .val (.ref b5), .val (.int (0 : Int32))] [(.ref b5)])) := fun t h => k t (XS.aload X6.here hx rfl (hb hby at_58) rfl rfl h)
    obtain ⟨cq28, kq28, q28a, q28b, q28c⟩ := isOf hZ rfl E2
    obtain ⟨_, _, ⟨T28, L28, kk28, n28⟩, -, X28, ⟨Lc28, hQ28, l28, y28, z28⟩, st28⟩ := X6.virtualBack hx (y := (⟨"com/example/oncelog/oncelog/log/Retention", "keepsAll", "()Z"⟩ : MethodName)) (z := (⟨"com/example/oncelog/oncelog/log/Retention", "keepsAll", "()Z"⟩ : MethodName)) hown (mvT hZ (hw _ (List.mem_of_getElem? (i := 24) rfl))) (mvT hZ (hw _ (List.mem_of_getElem? (i := 25) rfl))) (notFace_of_selects (args := #[]) (mvT hZ (hw _ (List.mem_of_getElem? (i := 27) rfl)))) (mvT hZ (hw _ (List.mem_of_getElem? (i := 27) rfl))) (mvT hZ (hw _ (List.mem_of_getElem? (i := 26) rfl))) (by decide) (backOf (W := 0) (rm4 l Z a0 hw [] b5 ms by1 T6.heap n0 P1 P2) hZ (hw _ (List.mem_of_getElem? (i := 28) rfl)) (hw _ (List.mem_of_getElem? (i := 7) rfl)) (by decide) (by decide)) q28a q28c (g := (mkF m 60 #[.val (.long a), .second, .val (.long b), .second, .val (.int fl), .val (.long ms), .second, .val (.long by1), .second, .val (.ref b5), .val (.int (0 : Int32))] [(.ref b5)])) rfl (by rw [hml]; rfl) (Steps.refl _) (argsL := []) (rest := []) (lenOf own_pd3 rfl) rfl (by show 2 * 0 + _ ≤ _; exact Nat.le_of_eq rfl) (hb hby at_60) (fun _ _ => ⟨rfl, rfl, (by decide : 1 + 0 ≤ _), (by decide : 2 + 0 ≤ _)⟩)
    dsimp only [Pt.U, Pt.locs, Pt.cells, Pt.slots] at X28 l28 y28 z28 st28 hQ28
    subst l28 y28 z28
    obtain ⟨rfl, N28q, eq27⟩ := hQ28
    have N28 := Fr.app N6 N28q
    replace k : own_K p.tables e below (s₁.setTop (entryFrame m #[(.long a), (.long b), (.int fl)] maxLocals)) (T28.setTop (mkF m 63 #[.val (.long a), .second, .val (.long b), .second, .val (.int fl), .val (.long ms), .second, .val (.long by1), .second, .val (.ref b5), .val (.int (0 : Int32))] [(.int (own_keep ms by1))])) := fun t h => k t (st28.trans h)
    replace k : own_K p.tables e below (s₁.setTop (entryFrame m #[(.long a), (.long b), (.int fl)] maxLocals)) (T28.setTop (mkF m 65 #[.val (.long a), .second, .val (.long b), .second, .val (.int fl), .val (.long ms), .second, .val (.long by1), .second, .val (.ref b5), .val (.int (0 : Int32))] [(.int (0 : Int32)), (.int (own_keep ms by1))])) := fun t h => k t (XS.iload X28.here hx rfl (hb hby at_63) rfl h)
    replace k : own_K p.tables e below (s₁.setTop (entryFrame m #[(.long a), (.long b), (.int fl)] maxLocals)) (T28.setTop (mkF m 68 #[.val (.long a), .second, .val (.long b), .second, .val (.int fl), .val (.long ms), .second, .val (.long by1), .second, .val (.ref b5), .val (.int (0 : Int32))] [])) := fun t h => k t (XS.icmpNo X28.here hx rfl (hb hby at_65) rfl (teq (by simp [own_keep, cc7])).2 h)
    replace k : own_K p.tables e below (s₁.setTop (entryFrame m #[(.long a), (.long b), (.int fl)] maxLocals)) (T28.setTop (mkF m 70 #[.val (.long a), .second, .val (.long b), .second, .val (.int fl), .val (.long ms), .second, .val (.long by1), .second, .val (.ref b5), .val (.int (0 : Int32))] [(.ref b5)])) := fun t h => k t (XS.aload X28.here hx rfl (hb hby at_68) rfl rfl h)
    obtain ⟨cq30, kq30, q30a, q30b, q30c⟩ := isOf hZ eq27 E2
    obtain ⟨_, _, ⟨T30, L30, kk30, n30⟩, -, X30, ⟨Lc30, hQ30, l30, y30, z30⟩, st30⟩ := X28.virtualBack hx (y := (⟨"com/example/oncelog/oncelog/log/Retention", "ms", "()J"⟩ : MethodName)) (z := (⟨"com/example/oncelog/oncelog/log/Retention", "ms", "()J"⟩ : MethodName)) hown (mvT hZ (hw _ (List.mem_of_getElem? (i := 29) rfl))) (mvT hZ (hw _ (List.mem_of_getElem? (i := 30) rfl))) (notFace_of_selects (args := #[]) (mvT hZ (hw _ (List.mem_of_getElem? (i := 32) rfl)))) (mvT hZ (hw _ (List.mem_of_getElem? (i := 32) rfl))) (mvT hZ (hw _ (List.mem_of_getElem? (i := 31) rfl))) (by decide) (backOf (W := 0) (rm5 l Z a0 hw [] b5 ms T6.heap n0 P1) hZ (hw _ (List.mem_of_getElem? (i := 33) rfl)) (hw _ (List.mem_of_getElem? (i := 7) rfl)) (by decide) (by decide)) q30a q30c (g := (mkF m 70 #[.val (.long a), .second, .val (.long b), .second, .val (.int fl), .val (.long ms), .second, .val (.long by1), .second, .val (.ref b5), .val (.int (0 : Int32))] [(.ref b5)])) rfl (by rw [hml]; rfl) (Steps.refl _) (argsL := []) (rest := []) (lenOf own_pd4 rfl) rfl (by show 2 * 0 + _ ≤ _; exact Nat.le_of_eq rfl) (hb hby at_70) (fun _ _ => ⟨rfl, eq27, (by decide : 1 + 0 ≤ _), (by decide : 2 + 0 ≤ _)⟩)
    dsimp only [Pt.U, Pt.locs, Pt.cells, Pt.slots] at X30 l30 y30 z30 st30 hQ30
    subst l30 y30 z30
    obtain ⟨rfl, N30q, eq29⟩ := hQ30
    have N30 := Fr.app N28 N30q
    replace k : own_K p.tables e below (s₁.setTop (entryFrame m #[(.long a), (.long b), (.int fl)] maxLocals)) (T30.setTop (mkF m 73 #[.val (.long a), .second, .val (.long b), .second, .val (.int fl), .val (.long ms), .second, .val (.long by1), .second, .val (.ref b5), .val (.int (0 : Int32))] [(.long ms)])) := fun t h => k t (st30.trans h)
    replace k : own_K p.tables e below (s₁.setTop (entryFrame m #[(.long a), (.long b), (.int fl)] maxLocals)) (T30.setTop (mkF m 75 #[.val (.long a), .second, .val (.long b), .second, .val (.int fl), .val (.long ms), .second, .val (.long by1), .second, .val (.ref b5), .val (.int (0 : Int32))] [(.long ms), (.long ms)])) := fun t h => k t (XS.lload X30.here hx rfl (hb hby at_73) rfl h)
    replace k : own_K p.tables e below (s₁.setTop (entryFrame m #[(.long a), (.long b), (.int fl)] maxLocals)) (T30.setTop (mkF m 76 #[.val (.long a), .second, .val (.long b), .second, .val (.int fl), .val (.long ms), .second, .val (.long by1), .second, .val (.ref b5), .val (.int (0 : Int32))] [(.int (lcmpW ms ms))])) := fun t h => k t (XS.lcmp X30.here hx rfl (hb hby at_75) rfl h)
    replace k : own_K p.tables e below (s₁.setTop (entryFrame m #[(.long a), (.long b), (.int fl)] maxLocals)) (T30.setTop (mkF m 79 #[.val (.long a), .second, .val (.long b), .second, .val (.int fl), .val (.long ms), .second, .val (.long by1), .second, .val (.ref b5), .val (.int (0 : Int32))] [])) := fun t h => k t (XS.ifNo X30.here hx rfl (hb hby at_76) rfl ((if0 _ _).trans (teq ((lw_eq _ _).mpr rfl)).2) h)
    replace k : own_K p.tables e below (s₁.setTop (entryFrame m #[(.long a), (.long b), (.int fl)] maxLocals)) (T30.setTop (mkF m 81 #[.val (.long a), .second, .val (.long b), .second, .val (.int fl), .val (.long ms), .second, .val (.long by1), .second, .val (.ref b5), .val (.int (0 : Int32))] [(.ref b5)])) := fun t h => k t (XS.aload X30.here hx rfl (hb hby at_79) rfl rfl h)
    obtain ⟨cq32, kq32, q32a, q32b, q32c⟩ := isOf hZ eq29 E2
    obtain ⟨_, _, ⟨T32, L32, kk32, n32⟩, -, X32, ⟨Lc32, hQ32, l32, y32, z32⟩, st32⟩ := X30.virtualBack hx (y := (⟨"com/example/oncelog/oncelog/log/Retention", "bytes", "()J"⟩ : MethodName)) (z := (⟨"com/example/oncelog/oncelog/log/Retention", "bytes", "()J"⟩ : MethodName)) hown (mvT hZ (hw _ (List.mem_of_getElem? (i := 34) rfl))) (mvT hZ (hw _ (List.mem_of_getElem? (i := 35) rfl))) (notFace_of_selects (args := #[]) (mvT hZ (hw _ (List.mem_of_getElem? (i := 37) rfl)))) (mvT hZ (hw _ (List.mem_of_getElem? (i := 37) rfl))) (mvT hZ (hw _ (List.mem_of_getElem? (i := 36) rfl))) (by decide) (backOf (W := 0) (rm6 l Z a0 hw [] b5 by1 T6.heap n0 P2) hZ (hw _ (List.mem_of_getElem? (i := 38) rfl)) (hw _ (List.mem_of_getElem? (i := 7) rfl)) (by decide) (by decide)) q32a q32c (g := (mkF m 81 #[.val (.long a), .second, .val (.long b), .second, .val (.int fl), .val (.long ms), .second, .val (.long by1), .second, .val (.ref b5), .val (.int (0 : Int32))] [(.ref b5)])) rfl (by rw [hml]; rfl) (Steps.refl _) (argsL := []) (rest := []) (lenOf own_pd4 rfl) rfl (by show 2 * 0 + _ ≤ _; exact Nat.le_of_eq rfl) (hb hby at_81) (fun _ _ => ⟨rfl, eq29, (by decide : 1 + 0 ≤ _), (by decide : 2 + 0 ≤ _)⟩)
    dsimp only [Pt.U, Pt.locs, Pt.cells, Pt.slots] at X32 l32 y32 z32 st32 hQ32
    subst l32 y32 z32
    obtain ⟨rfl, N32q, eq31⟩ := hQ32
    have N32 := Fr.app N30 N32q
    replace k : own_K p.tables e below (s₁.setTop (entryFrame m #[(.long a), (.long b), (.int fl)] maxLocals)) (T32.setTop (mkF m 84 #[.val (.long a), .second, .val (.long b), .second, .val (.int fl), .val (.long ms), .second, .val (.long by1), .second, .val (.ref b5), .val (.int (0 : Int32))] [(.long by1)])) := fun t h => k t (st32.trans h)
    replace k : own_K p.tables e below (s₁.setTop (entryFrame m #[(.long a), (.long b), (.int fl)] maxLocals)) (T32.setTop (mkF m 86 #[.val (.long a), .second, .val (.long b), .second, .val (.int fl), .val (.long ms), .second, .val (.long by1), .second, .val (.ref b5), .val (.int (0 : Int32))] [(.long by1), (.long by1)])) := fun t h => k t (XS.lload X32.here hx rfl (hb hby at_84) rfl h)
    replace k : own_K p.tables e below (s₁.setTop (entryFrame m #[(.long a), (.long b), (.int fl)] maxLocals)) (T32.setTop (mkF m 87 #[.val (.long a), .second, .val (.long b), .second, .val (.int fl), .val (.long ms), .second, .val (.long by1), .second, .val (.ref b5), .val (.int (0 : Int32))] [(.int (lcmpW by1 by1))])) := fun t h => k t (XS.lcmp X32.here hx rfl (hb hby at_86) rfl h)
    replace k : own_K p.tables e below (s₁.setTop (entryFrame m #[(.long a), (.long b), (.int fl)] maxLocals)) (T32.setTop (mkF m 90 #[.val (.long a), .second, .val (.long b), .second, .val (.int fl), .val (.long ms), .second, .val (.long by1), .second, .val (.ref b5), .val (.int (0 : Int32))] [])) := fun t h => k t (XS.ifNo X32.here hx rfl (hb hby at_87) rfl ((if0 _ _).trans (teq ((lw_eq _ _).mpr rfl)).2) h)
    obtain ⟨T33, X33, e33, st33⟩ := getS2 X32 hx hZ hown (host := "") (Or.inl (hw _ (List.mem_of_getElem? (i := 39) rfl))) Via.refl eq31 S1 (g := (mkF m 90 #[.val (.long a), .second, .val (.long b), .second, .val (.int fl), .val (.long ms), .second, .val (.long by1), .second, .val (.ref b5), .val (.int (0 : Int32))] [])) rfl (hb hby at_90)
    replace k : own_K p.tables e below (s₁.setTop (entryFrame m #[(.long a), (.long b), (.int fl)] maxLocals)) (T33.setTop (mkF m 93 #[.val (.long a), .second, .val (.long b), .second, .val (.int fl), .val (.long ms), .second, .val (.long by1), .second, .val (.ref b5), .val (.int (0 : Int32))] [(.ref ka)])) := fun t h => k t (st33 _ h)
    obtain ⟨cq35, kq35, q35a, q35b, q35c⟩ := isOf hZ e33 E1
    obtain ⟨_, _, ⟨T35, L35, kk35, n35⟩, -, X35, ⟨Lc35, hQ35, l35, y35, z35⟩, st35⟩ := X33.virtualBack hx (y := (⟨"com/example/oncelog/oncelog/log/Retention", "keepsAll", "()Z"⟩ : MethodName)) (z := (⟨"com/example/oncelog/oncelog/log/Retention", "keepsAll", "()Z"⟩ : MethodName)) hown (mvT hZ (hw _ (List.mem_of_getElem? (i := 24) rfl))) (mvT hZ (hw _ (List.mem_of_getElem? (i := 25) rfl))) (notFace_of_selects (args := #[]) (mvT hZ (hw _ (List.mem_of_getElem? (i := 27) rfl)))) (mvT hZ (hw _ (List.mem_of_getElem? (i := 27) rfl))) (mvT hZ (hw _ (List.mem_of_getElem? (i := 26) rfl))) (by decide) (backOf (W := 0) (rm4 l Z a0 hw [] ka (-1 : Int64) (-1 : Int64) T6.heap n0 G1 G2) hZ (hw _ (List.mem_of_getElem? (i := 28) rfl)) (hw _ (List.mem_of_getElem? (i := 7) rfl)) (by decide) (by decide)) q35a q35c (g := (mkF m 93 #[.val (.long a), .second, .val (.long b), .second, .val (.int fl), .val (.long ms), .second, .val (.long by1), .second, .val (.ref b5), .val (.int (0 : Int32))] [(.ref ka)])) rfl (by rw [hml]; rfl) (Steps.refl _) (argsL := []) (rest := []) (lenOf own_pd3 rfl) rfl (by show 2 * 0 + _ ≤ _; exact Nat.le_of_eq rfl) (hb hby at_93) (fun _ _ => ⟨rfl, e33, (by decide : 1 + 0 ≤ _), (by decide : 2 + 0 ≤ _)⟩)
    dsimp only [Pt.U, Pt.locs, Pt.cells, Pt.slots] at X35 l35 y35 z35 st35 hQ35
    subst l35 y35 z35
    obtain ⟨rfl, N35q, eq34⟩ := hQ35
    have N35 := Fr.app N32 N35q
    replace k : own_K p.tables e below (s₁.setTop (entryFrame m #[(.long a), (.long b), (.int fl)] maxLocals)) (T35.setTop (mkF m 96 #[.val (.long a), .second, .val (.long b), .second, .val (.int fl), .val (.long ms), .second, .val (.long by1), .second, .val (.ref b5), .val (.int (0 : Int32))] [(.int (own_keep (-1 : Int64) (-1 : Int64)))])) := fun t h => k t (st35.trans h)
    replace k : own_K p.tables e below (s₁.setTop (entryFrame m #[(.long a), (.long b), (.int fl)] maxLocals)) (T35.setTop (mkF m 99 #[.val (.long a), .second, .val (.long b), .second, .val (.int fl), .val (.long ms), .second, .val (.long by1), .second, .val (.ref b5), .val (.int (0 : Int32))] [])) := fun t h => k t (XS.ifNo X35.here hx rfl (hb hby at_96) rfl ((if0 _ _).trans (feq (by decide)).1) h)
    replace k : own_K p.tables e below (s₁.setTop (entryFrame m #[(.long a), (.long b), (.int fl)] maxLocals)) (T35.setTop (mkF m 100 #[.val (.long a), .second, .val (.long b), .second, .val (.int fl), .val (.long ms), .second, .val (.long by1), .second, .val (.ref b5), .val (.int (0 : Int32))] [(.int (1 : Int32))])) := fun t h => k t (XS.iconst X35.here hx rfl (hb hby at_99) h)
    replace k : own_K p.tables e below (s₁.setTop (entryFrame m #[(.long a), (.long b), (.int fl)] maxLocals)) (T35.setTop (mkF m 104 #[.val (.long a), .second, .val (.long b), .second, .val (.int fl), .val (.long ms), .second, .val (.long by1), .second, .val (.ref b5), .val (.int (0 : Int32))] [(.int (1 : Int32))])) := fun t h => k t (XS.goto X35.here hx rfl (pc0 := 100) (pc' := 104) rfl (hb hby at_100) (by decide) (by decide) h)
    obtain ⟨fs, hr, hrun, hended, hW, hsame⟩ := X35.leave (v := some (.int (1 : Int32))) (fun h => by rw [Bd.returns] at h; cases h)
    refine ⟨_, _, k _ (retOut X35 hx Bd.returns rfl (Or.inl ⟨rfl, by simp [ret], _, rfl⟩) (hb hby at_104) hr), hrun, hended, _, _, rfl, ?_, ⟨_, rfl⟩, hW, hsame.mono (by decide) (by decide)⟩
    show Q0 Z a b fl ka h0 n0 _ T35.heap _
    rw [eq34]
    exact ⟨rfl, N35⟩
set_option maxRecDepth 65536 in
set_option maxHeartbeats 40000000 in
theorem comes_1 {Post : Tables → Env → Array Value → State → Outcome → State → Prop} (hpost : ∀ tb e args s v u, (limb_1_1.after args s (.returned v) u = true ∧ limb_1_2.after args s (.returned v) u = true ∧ True) → FrameEnd s (.returned v) u (Jvm.fieldLocs frame_1_writes args s ++ Jvm.arrayLocs frame_1_arrays args s ++ Jvm.staticLocs frame_1_statics s) 16 128 → Post tb e args s (.returned v) u) :
    ArmFor flags0 classFile x code maxLocals ret World_1 tables_1 room_1 Calls_1 rest_1 Pre_1 Post := by
  intro l hfl _ _ p e ha hc hk s m args below hf hA hF happ hP
  obtain ⟨hcalls, hrest, hpre⟩ := hP
  obtain ⟨-, -, -, hnamed, -, -, -, hat⟩ := (Spec.applies_iff hf).mp happ
  obtain ⟨hg, hn⟩ := and_e (Cond.before_iff.mp (show (Jvm.Cond.and given_1 narrow_1).before args s = true from hpre))
  obtain ⟨hcount, hg⟩ := and_e hg
  obtain ⟨w0, w1, w2, rfl⟩ : ∃ w0 w1 w2 : Value, args = #[w0, w1, w2] := by
    have hs : args.size = 3 := by simpa [Cond.value, given_1] using hcount
    obtain ⟨L⟩ := args
    match L, hs with
    | [w0, w1, w2], _ => exact ⟨w0, w1, w2, rfl⟩
  have hw := fun d (hd : d ∈ tables_1) => atoms_spec (ws := Jvm.Cond.code x code maxLocals ret :: tables_1) hat d (List.mem_cons_of_mem _ hd)
  have hfit : Fit s := fun {y c} hc i hi => by
    obtain ⟨ha, rfl⟩ := Array.getElem?_eq_some_iff.mp hc
    have q := List.all_eq_true.mp ((Array.all_eq_true_iff_forall_mem.mp hF) _ (Array.getElem_mem ha)) i (List.mem_range.mpr hi)
    simpa [Array.getElem?_eq_getElem hi] using q
  obtain ⟨hg0, hg⟩ := and_e hg
  obtain ⟨i0, hi0⟩ := isL_v hg0
  obtain rfl : w0 = (.long i0) := Option.some.inj hi0
  obtain ⟨hg1, hg⟩ := and_e hg
  obtain ⟨i1, hi1⟩ := isL_v hg1
  obtain rfl : w1 = (.long i1) := Option.some.inj hi1
  obtain ⟨i2, hi2⟩ := is_v hg
  obtain rfl : w2 = (.int i2) := Option.some.inj hi2
  obtain ⟨r0, hn⟩ := and_e hn
  obtain ⟨r1, r2⟩ := and_e hn
  obtain ⟨ka, S1, E1, ev⟩ := own_stat r0 (hw _ (List.mem_of_getElem? (i := 7) rfl)) (hw _ (List.mem_of_getElem? (i := 40) rfl))
  have G1 := own_fldJ ev r1
  have G2 := own_fldJ ev r2
  obtain ⟨n, o, h1, h2, h3, _, L, rfl, ⟨rfl, N⟩, hq⟩ := rm0 l s _ hw tables_1 i0 i1 i2 ka s.heap s.heap.size (Nat.le_refl _) S1 E1 G1 G2 p e ha hc hk s m _ below hf ((Spec.applies_iff_loose hf).mp happ).1 ⟨rfl, State.Warmed39.refl s, rfl⟩ trivial
  refine ⟨n, _, h1, h2, h3, hpost _ _ _ _ _ _ ⟨Cond.after_iff.mpr rfl, Cond.after_iff.mpr (eq_i res_at (Term.int_eval (1)) rfl), trivial⟩ ⟨hq.1, hq.2.1, (hq.2.2.sift fun y hy => Or.inr (N y hy)).mono (by decide) (by decide)⟩⟩
theorem main_1_1 : Claimed_1_1 := comes_1 fun _ _ _ _ _ _ h hF => ⟨h.1, hF⟩
theorem main_1_2 : Claimed_1_2 := comes_1 fun _ _ _ _ _ _ h hF => ⟨h.2.1, hF⟩
end Jvm.Pilot.@@N@@
namespace Jvm.Pilot.@@N@@
open Jvm Jvm.ClassFile Sem Op Lib Jvm.Free Jvm.Stand Jvm.Pilot.@@N@@.Jvm.D
/-! MADE BY PROGRAM (witnessworld.py) out of the Statement's table words and the real class files: 10 classes; the members and pool entries that the words name. The judged class is class 1, her method 2. -/
namespace start1
open Jvm.ClassFile
def u (s : String) : CpInfo := .utf8 (stringToUtf16 s)
/-- a pool by its gaps: so many unusable entries, then the entry; so many at the end -/
def gap : Nat → List CpInfo → List CpInfo
  | 0, r => r
  | n + 1, r => .unusable :: gap n r
def poolList (es : List (Nat × CpInfo)) (last : Nat) : List CpInfo := es.foldr (fun e r => gap e.1 (e.2 :: r)) (gap last [])
def pool (es : List (Nat × CpInfo)) (last : Nat) : Array CpInfo := ⟨poolList es last⟩
def fileOf (pool : Array CpInfo) (this : Nat) (attrs : Array Attribute := #[]) (ms : Array MethodInfo := #[]) (fl : Nat := 33) (sup : Nat := 0) (ifs : Array Nat := #[]) (fds : Array FieldInfo := #[]) : ClassFile where
  minorVersion := 0
  majorVersion := 65
  constantPool := pool
  accessFlags := fl
  thisClass := this
  superClass := sup
  interfaces := ifs
  fields := fds
  methods := ms
  attributes := attrs
def plain (name : String) (sup : Option ClassId) : Class where
  name := name
  kind := .ordinary
  loader := none
  accessFlags := 33
  super := sup
  interfaces := #[]
  cf := none
  fields := #[]
  methods := #[]
  instanceTypes := #[]
  staticTypes := #[]
  resolved := #[]
  callSites := []
  init := .initialized
  statics := none
  mirror := none

def pool0 : Array CpInfo := pool [(5, u "<init>"), (0, u "()V"), (1, .class_ 10), (1, u "java/lang/Object")] 113

def k0c0 : Code := { maxStack := 0, maxLocals := 1, code := object_method_1_code, exceptionTable := #[], attributes := #[] }
def k0m0 : Method := { name := "<init>", desc := "()V", sig := { parameters := [], returnType := none }, accessFlags := 1, code := some k0c0 }
/-- java/lang/Object -/
def k0 : Class := { plain "java/lang/Object" none with
  accessFlags := 33
  interfaces := #[]
  cf := some (fileOf pool0 8 #[] #[{ accessFlags := 1, nameIndex := 5, descriptorIndex := 6, attributes := #[] }] 33 0 #[] #[])
  fields := #[]
  methods := #[k0m0]
  instanceTypes := #[]
  staticTypes := #[]
  resolved := Array.replicate 124 none
  statics := none }

def pool1 : Array CpInfo := pool [(2, .class_ 4), (1, u "java/lang/Object"), (0, u "<init>"), (0, u "()V"), (0, .long 18446744073709551615), (3, .long 9223372036854775807), (1, .methodref 14 15), (0, .class_ 16), (0, .nameAndType 17 18), (0, u "com/example/oncelog/oncelog/log/RetentionKeepsAllPinLaw"), (0, u "bound"), (0, u "(JI)J"), (0, .class_ 20), (0, u "com/example/oncelog/oncelog/log/Retention"), (0, .methodref 19 22), (0, .nameAndType 5 23), (0, u "(JJ)V"), (0, .methodref 19 25), (0, .nameAndType 26 27), (0, u "keepsAll"), (0, u "()Z"), (0, .methodref 19 29), (0, .nameAndType 30 31), (0, u "ms"), (0, u "()J"), (0, .methodref 19 33), (0, .nameAndType 34 31), (0, u "bytes"), (0, .fieldref 19 36), (0, .nameAndType 37 38), (0, u "KEEP_ALL"), (0, u "Lcom/example/oncelog/oncelog/log/Retention;"), (3, u "law"), (0, u "(JJI)Z")] 2

def k1m0 : Method := { name := "<init>", desc := "()V", sig := { parameters := [], returnType := none }, accessFlags := 1, code := none }
def k1c1 : Code := { maxStack := 4, maxLocals := 3, code := method_2_code, exceptionTable := #[], attributes := #[] }
def k1m1 : Method := { name := "bound", desc := "(JI)J", sig := { parameters := [.long, .int], returnType := some .long }, accessFlags := 10, code := some k1c1 }
def k1c2 : Code := { maxStack := 6, maxLocals := 11, code := code, exceptionTable := #[], attributes := #[] }
def k1m2 : Method := { name := "law", desc := "(JJI)Z", sig := { parameters := [.long, .long, .int], returnType := some .boolean }, accessFlags := 9, code := some k1c2 }
/-- com/example/oncelog/oncelog/log/RetentionKeepsAllPinLaw -/
def k1 : Class := { plain "com/example/oncelog/oncelog/log/RetentionKeepsAllPinLaw" (some 0) with
  accessFlags := 49
  interfaces := #[]
  cf := some (fileOf pool1 14 #[] #[{ accessFlags := 1, nameIndex := 5, descriptorIndex := 6, attributes := #[] }, { accessFlags := 10, nameIndex := 17, descriptorIndex := 18, attributes := #[] }, { accessFlags := 9, nameIndex := 42, descriptorIndex := 43, attributes := #[] }] 49 2 #[] #[])
  fields := #[]
  methods := #[k1m0, k1m1, k1m2]
  instanceTypes := #[]
  staticTypes := #[]
  resolved := Array.replicate 46 none
  statics := none }

def pool2 : Array CpInfo := pool [(1, .methodref 2 3), (0, .class_ 4), (0, .nameAndType 5 6), (0, u "java/lang/Object"), (0, u "<init>"), (0, u "()V"), (0, .class_ 8), (0, u "java/lang/Record")] 13

def k2c0 : Code := { maxStack := 1, maxLocals := 1, code := jdk_30_method_1_code, exceptionTable := #[], attributes := #[] }
def k2m0 : Method := { name := "<init>", desc := "()V", sig := { parameters := [], returnType := none }, accessFlags := 4, code := some k2c0 }
/-- java/lang/Record -/
def k2 : Class := { plain "java/lang/Record" (some 0) with
  accessFlags := 1057
  interfaces := #[]
  cf := some (fileOf pool2 7 #[] #[{ accessFlags := 4, nameIndex := 5, descriptorIndex := 6, attributes := #[] }] 1057 2 #[] #[])
  fields := #[]
  methods := #[k2m0]
  instanceTypes := #[]
  staticTypes := #[]
  resolved := Array.replicate 22 none
  statics := none }

def pool3 : Array CpInfo := pool [(1, .methodref 2 3), (0, .class_ 4), (0, .nameAndType 5 6), (0, u "java/lang/Record"), (0, u "<init>"), (0, u "()V"), (0, .class_ 8), (0, u "com/example/oncelog/oncelog/log/Retention"), (0, .long 18446744073709551615), (10, .fieldref 7 21), (0, .nameAndType 22 23), (0, u "ms"), (0, u "J"), (0, .fieldref 7 25), (0, .nameAndType 26 23), (0, u "bytes"), (14, u "(JJ)V"), (2, u "KEEP_ALL"), (0, u "Lcom/example/oncelog/oncelog/log/Retention;"), (0, u "UNBOUNDED"), (5, u "keepsAll"), (0, u "()Z"), (3, u "()J"), (4, .class_ 63), (0, u "com/example/oncelog/oncelog/log/Retention$Deleted"), (0, .class_ 65), (0, u "com/example/oncelog/oncelog/log/Retention$Rule")] 29

def k3c0 : Code := { maxStack := 6, maxLocals := 5, code := prog_147_method_1_code, exceptionTable := #[], attributes := #[] }
def k3m0 : Method := { name := "<init>", desc := "(JJ)V", sig := { parameters := [.long, .long], returnType := none }, accessFlags := 1, code := some k3c0 }
def k3c1 : Code := { maxStack := 4, maxLocals := 1, code := prog_147_method_2_code, exceptionTable := #[], attributes := #[] }
def k3m1 : Method := { name := "keepsAll", desc := "()Z", sig := { parameters := [], returnType := some .boolean }, accessFlags := 1, code := some k3c1 }
def k3c2 : Code := { maxStack := 2, maxLocals := 1, code := prog_147_method_6_code, exceptionTable := #[], attributes := #[] }
def k3m2 : Method := { name := "ms", desc := "()J", sig := { parameters := [], returnType := some .long }, accessFlags := 1, code := some k3c2 }
def k3c3 : Code := { maxStack := 2, maxLocals := 1, code := prog_147_method_7_code, exceptionTable := #[], attributes := #[] }
def k3m3 : Method := { name := "bytes", desc := "()J", sig := { parameters := [], returnType := some .long }, accessFlags := 1, code := some k3c3 }
/-- com/example/oncelog/oncelog/log/Retention -/
def k3 : Class := { plain "com/example/oncelog/oncelog/log/Retention" (some 2) with
  accessFlags := 49
  interfaces := #[]
  cf := some (fileOf pool3 7 #[.nestMembers #[62, 64]] #[{ accessFlags := 1, nameIndex := 5, descriptorIndex := 41, attributes := #[] }, { accessFlags := 1, nameIndex := 52, descriptorIndex := 53, attributes := #[] }, { accessFlags := 1, nameIndex := 22, descriptorIndex := 57, attributes := #[] }, { accessFlags := 1, nameIndex := 26, descriptorIndex := 57, attributes := #[] }] 49 2 #[] #[{ accessFlags := 18, nameIndex := 22, descriptorIndex := 23, attributes := #[] }, { accessFlags := 18, nameIndex := 26, descriptorIndex := 23, attributes := #[] }, { accessFlags := 25, nameIndex := 46, descriptorIndex := 23, attributes := #[] }, { accessFlags := 25, nameIndex := 44, descriptorIndex := 45, attributes := #[] }])
  fields := #[{ name := "ms", type := .long, accessFlags := 18, slot := 0, constantValue := 0 }, { name := "bytes", type := .long, accessFlags := 18, slot := 1, constantValue := 0 }, { name := "UNBOUNDED", type := .long, accessFlags := 25, slot := 0, constantValue := 0 }, { name := "KEEP_ALL", type := (.object "com/example/oncelog/oncelog/log/Retention"), accessFlags := 25, slot := 1, constantValue := 0 }]
  methods := #[k3m0, k3m1, k3m2, k3m3]
  instanceTypes := #[.long, .long]
  staticTypes := #[.long, (.object "com/example/oncelog/oncelog/log/Retention")]
  resolved := Array.replicate 95 none
  statics := some 0 }

def pool4 : Array CpInfo := pool [(1, u "java/lang/Cloneable"), (0, .class_ 1), (0, u "java/lang/Object"), (0, .class_ 3)] 3

/-- java/lang/Cloneable -/
def k4 : Class := { plain "java/lang/Cloneable" (some 0) with
  accessFlags := 1537
  interfaces := #[]
  cf := some (fileOf pool4 2 #[] #[] 1537 4 #[] #[])
  fields := #[]
  methods := #[]
  instanceTypes := #[]
  staticTypes := #[]
  resolved := Array.replicate 8 none
  statics := none }

def pool5 : Array CpInfo := pool [(1, u "java/io/Serializable"), (0, .class_ 1), (0, u "java/lang/Object"), (0, .class_ 3)] 3

/-- java/io/Serializable -/
def k5 : Class := { plain "java/io/Serializable" (some 0) with
  accessFlags := 1537
  interfaces := #[]
  cf := some (fileOf pool5 2 #[] #[] 1537 4 #[] #[])
  fields := #[]
  methods := #[]
  instanceTypes := #[]
  staticTypes := #[]
  resolved := Array.replicate 8 none
  statics := none }

/-- the primitive byte -/
def k6 : Class := { plain "byte" none with kind := .primitive 'B', accessFlags := 0x411 }
/-- [B -/
def k7 : Class := { plain "[B" (some 0) with kind := .array 6 .byte, interfaces := #[4, 5], accessFlags := 1041 }

/-- the primitive int -/
def k8 : Class := { plain "int" none with kind := .primitive 'I', accessFlags := 0x411 }
/-- [I -/
def k9 : Class := { plain "[I" (some 0) with kind := .array 8 .int, interfaces := #[4, 5], accessFlags := 1041 }

def heap : Heap := #[{ cls := 3, slots := #[.long 0, .ref 1], vm := .statics 3 },
  { cls := 3, slots := #[.long (-1), .long (-1)], vm := .none }]
def classes : Array Class := #[k0, k1, k2, k3, k4, k5, k6, k7, k8, k9]
def interned : List (Array UInt16 × Addr) := []
def slotsUsed : Nat := 4
def theMethod : MethodId := ⟨1, 2⟩
def args0 : Array Value := #[.long 5, .long 7, .int 1]
def aboutOver (below : List Frame) : State where
  vm := { classes := classes, interned := interned.toArray }
  heap := heap
  slotsUsed := slotsUsed
  threads := #[{ frames := .invoking theMethod args0 :: below }]
def below0 : List Frame := [.native { method := ⟨0, 0⟩, args := #[] }]
def about1 : State := aboutOver below0
def p0 : Program := .bare "" "" ""
def e0 : Env := launch0.env 0 0 0
theorem w_frames : about1.frames = Frame.invoking theMethod args0 :: below0 := rfl
set_option maxRecDepth 65536 in
theorem w_args : argsFit about1.vm theMethod args0 = true := by decide +kernel
set_option maxRecDepth 65536 in
theorem w_heap : heapFits about1 = true := by decide +kernel
set_option maxRecDepth 65536 in
theorem w_runnable : about1.curStatus? = some .runnable := by decide +kernel
set_option maxRecDepth 65536 in
theorem w_alone : about1.alone = true := by decide +kernel
set_option maxRecDepth 65536 in
theorem w_named : about1.methodNamed? x = some theMethod := by decide +kernel
set_option maxRecDepth 65536 in
theorem w_hears : about1.hears theMethod below0 = true := by decide +kernel
set_option maxRecDepth 65536 in
theorem w_ripe : about1.ripe theMethod args0 below0 = true := by decide +kernel
theorem w_running : about1.status = .running := rfl
set_option maxRecDepth 65536 in
theorem w_room : about1.hasRoom e0.platform room_1 = true :=
  launch0.hasRoom_least _ room_1 (by decide +kernel) (by decide +kernel) (by decide +kernel) (by decide +kernel) (by decide +kernel) (by decide +kernel)
theorem allAtoms_all (ts : List Jvm.Cond) (a : Array Jvm.Value) (st : Jvm.State) : (allAtoms ts).before a st = ts.all (fun c => c.before a st) := by
  induction ts with
  | nil => rfl
  | cons c t ih =>
    show (Jvm.Cond.and c (allAtoms t)).before a st = _
    rw [Jvm.Cond.before_and, ih, List.all_cons]
def words1 : List Jvm.Cond := Jvm.Cond.code x code maxLocals ret :: tables_1
/-- a 'code' word, met by the world's own term for the bytes: nothing is compared byte by byte -/
theorem code_word {y : MethodName} {bytes : ByteArray} {mx : Nat} {rt : Option FieldType} {a : Array Value} {s : State} {m : MethodId} {meth : Method} {c : Code} (h1 : s.methodNamed? y = some m) (h2 : s.vm.method? m = some meth) (h3 : meth.code = some c) (h4 : c.code = bytes)
    (h5 : (c.maxLocals == mx && c.exceptionTable.isEmpty && decide (c.maxStack ≤ mostOperands) && decide (meth.sig.returnType = rt) && !meth.locks && decide (parseMethodDescriptor y.desc = some meth.sig)) = true) : (Jvm.Cond.code y bytes mx rt).before a s = true := by
  simp only [Bool.and_eq_true, beq_iff_eq, Bool.not_eq_true', decide_eq_true_eq] at h5
  obtain ⟨⟨⟨⟨⟨g1, g2⟩, g3⟩, g4⟩, g5⟩, g6⟩ := h5
  simp [Cond.before, Cond.holds, Cond.value, h1, h2, h3, h4, g1, g2, g3, g4, g5, g6]
def isCode : Jvm.Cond → Bool
  | .code _ _ _ _ => true
  | _ => false
theorem all_split {L : List Jvm.Cond} {P : Jvm.Cond → Bool} (h1 : L.all (fun c => isCode c || P c) = true) (h2 : ∀ c ∈ L.filter isCode, P c = true) : L.all P = true := by
  refine List.all_eq_true.mpr fun c hc => ?_
  have h := List.all_eq_true.mp h1 c hc
  rcases Bool.eq_false_or_eq_true (isCode c) with hi | hi
  · exact h2 c (List.mem_filter.mpr ⟨hc, hi⟩)
  · simpa [hi] using h
set_option maxRecDepth 65536 in
theorem w_c0 : (Jvm.Cond.code x code maxLocals ret).before args0 about1 = true := code_word (m := ⟨1, 2⟩) (meth := k1m2) (c := k1c2) (by decide +kernel) rfl rfl rfl (by decide +kernel)
set_option maxRecDepth 65536 in
theorem w_c1 : (Jvm.Cond.code ({ cls := "com/example/oncelog/oncelog/log/RetentionKeepsAllPinLaw", name := "bound", desc := "(JI)J" } : Jvm.MethodName) method_2_code (3 : Nat) (Option.some Jvm.ClassFile.FieldType.long)).before args0 about1 = true := code_word (m := ⟨1, 1⟩) (meth := k1m1) (c := k1c1) (by decide +kernel) rfl rfl rfl (by decide +kernel)
set_option maxRecDepth 65536 in
theorem w_c2 : (Jvm.Cond.code ({ cls := "com/example/oncelog/oncelog/log/Retention", name := "<init>", desc := "(JJ)V" } : Jvm.MethodName) prog_147_method_1_code (5 : Nat) (Option.none : Option Jvm.ClassFile.FieldType)).before args0 about1 = true := code_word (m := ⟨3, 0⟩) (meth := k3m0) (c := k3c0) (by decide +kernel) rfl rfl rfl (by decide +kernel)
set_option maxRecDepth 65536 in
theorem w_c3 : (Jvm.Cond.code ({ cls := "java/lang/Record", name := "<init>", desc := "()V" } : Jvm.MethodName) jdk_30_method_1_code (1 : Nat) (Option.none : Option Jvm.ClassFile.FieldType)).before args0 about1 = true := code_word (m := ⟨2, 0⟩) (meth := k2m0) (c := k2c0) (by decide +kernel) rfl rfl rfl (by decide +kernel)
set_option maxRecDepth 65536 in
theorem w_c4 : (Jvm.Cond.code ({ cls := "java/lang/Object", name := "<init>", desc := "()V" } : Jvm.MethodName) object_method_1_code (1 : Nat) (Option.none : Option Jvm.ClassFile.FieldType)).before args0 about1 = true := code_word (m := ⟨0, 0⟩) (meth := k0m0) (c := k0c0) (by decide +kernel) rfl rfl rfl (by decide +kernel)
set_option maxRecDepth 65536 in
theorem w_c5 : (Jvm.Cond.code ({ cls := "com/example/oncelog/oncelog/log/Retention", name := "keepsAll", desc := "()Z" } : Jvm.MethodName) prog_147_method_2_code (1 : Nat) (Option.some Jvm.ClassFile.FieldType.boolean)).before args0 about1 = true := code_word (m := ⟨3, 1⟩) (meth := k3m1) (c := k3c1) (by decide +kernel) rfl rfl rfl (by decide +kernel)
set_option maxRecDepth 65536 in
theorem w_c6 : (Jvm.Cond.code ({ cls := "com/example/oncelog/oncelog/log/Retention", name := "ms", desc := "()J" } : Jvm.MethodName) prog_147_method_6_code (1 : Nat) (Option.some Jvm.ClassFile.FieldType.long)).before args0 about1 = true := code_word (m := ⟨3, 2⟩) (meth := k3m2) (c := k3c2) (by decide +kernel) rfl rfl rfl (by decide +kernel)
set_option maxRecDepth 65536 in
theorem w_c7 : (Jvm.Cond.code ({ cls := "com/example/oncelog/oncelog/log/Retention", name := "bytes", desc := "()J" } : Jvm.MethodName) prog_147_method_7_code (1 : Nat) (Option.some Jvm.ClassFile.FieldType.long)).before args0 about1 = true := code_word (m := ⟨3, 3⟩) (meth := k3m3) (c := k3c3) (by decide +kernel) rfl rfl rfl (by decide +kernel)
def codes1 : List Jvm.Cond := [Jvm.Cond.code x code maxLocals ret, Jvm.Cond.code ({ cls := "com/example/oncelog/oncelog/log/RetentionKeepsAllPinLaw", name := "bound", desc := "(JI)J" } : Jvm.MethodName) method_2_code (3 : Nat) (Option.some Jvm.ClassFile.FieldType.long), Jvm.Cond.code ({ cls := "com/example/oncelog/oncelog/log/Retention", name := "<init>", desc := "(JJ)V" } : Jvm.MethodName) prog_147_method_1_code (5 : Nat) (Option.none : Option Jvm.ClassFile.FieldType), Jvm.Cond.code ({ cls := "java/lang/Record", name := "<init>", desc := "()V" } : Jvm.MethodName) jdk_30_method_1_code (1 : Nat) (Option.none : Option Jvm.ClassFile.FieldType), Jvm.Cond.code ({ cls := "java/lang/Object", name := "<init>", desc := "()V" } : Jvm.MethodName) object_method_1_code (1 : Nat) (Option.none : Option Jvm.ClassFile.FieldType), Jvm.Cond.code ({ cls := "com/example/oncelog/oncelog/log/Retention", name := "keepsAll", desc := "()Z" } : Jvm.MethodName) prog_147_method_2_code (1 : Nat) (Option.some Jvm.ClassFile.FieldType.boolean), Jvm.Cond.code ({ cls := "com/example/oncelog/oncelog/log/Retention", name := "ms", desc := "()J" } : Jvm.MethodName) prog_147_method_6_code (1 : Nat) (Option.some Jvm.ClassFile.FieldType.long), Jvm.Cond.code ({ cls := "com/example/oncelog/oncelog/log/Retention", name := "bytes", desc := "()J" } : Jvm.MethodName) prog_147_method_7_code (1 : Nat) (Option.some Jvm.ClassFile.FieldType.long)]
set_option maxRecDepth 65536 in
theorem codes_eq : words1.filter isCode = codes1 := rfl
theorem w_codes : ∀ c ∈ words1.filter isCode, c.before args0 about1 = true := by
  rw [codes_eq]
  intro c hc
  simp only [codes1, List.mem_cons, List.not_mem_nil, or_false] at hc
  rcases hc with rfl | rfl | rfl | rfl | rfl | rfl | rfl | rfl
  · exact w_c0
  · exact w_c1
  · exact w_c2
  · exact w_c3
  · exact w_c4
  · exact w_c5
  · exact w_c6
  · exact w_c7
set_option maxRecDepth 65536 in
theorem w_t1 : (words1.take 24).all (fun c => isCode c || c.before args0 about1) = true := by decide +kernel
set_option maxRecDepth 65536 in
theorem w_t2 : (words1.drop 24).all (fun c => isCode c || c.before args0 about1) = true := by decide +kernel
theorem w_tables : (allAtoms (Jvm.Cond.code x code maxLocals ret :: tables_1)).before args0 about1 = true := by
  rw [allAtoms_all]
  show words1.all (fun c => c.before args0 about1) = true
  refine all_split ?_ w_codes
  rw [← List.take_append_drop 24 words1, List.all_append, w_t1, w_t2]
  rfl
set_option maxRecDepth 65536 in
theorem w_case : (Jvm.Cond.and given_1 narrow_1).before args0 about1 = true := by decide +kernel
theorem w_applies : (headSpec (Jvm.Cond.code x code maxLocals ret :: tables_1) room_1).applies x e0.platform about1 = true :=
  (Spec.applies_iff w_frames).mpr ⟨w_running, w_runnable, w_alone, w_named, w_hears, w_ripe, w_room, w_tables⟩
theorem atStart : AtStart classFile x code maxLocals ret World_1 tables_1 room_1 Calls_1 rest_1 Pre_1 launch0 p0 e0 about1 theMethod args0 below0 :=
  ⟨lists_1, trivial, launch0.admits_env _ _ _, launch0.least_env, fairChoices_fair.cas, fairChoices_fair.clock, w_frames, w_args, w_heap, w_applies, trivial, trivial, w_case⟩
end start1
theorem witness_1 : WitnessClaimed_1 := ⟨start1.p0, start1.e0, start1.about1, start1.theMethod, start1.args0, start1.below0, start1.atStart⟩
end Jvm.Pilot.@@N@@
