import JvmDerived
import JvmDerived.Pilot.@@N@@Statement
import JvmDerived.Pilot.@@N@@Code
set_option linter.unusedVariables false
set_option linter.unusedSimpArgs false
namespace Jvm.Pilot.@@N@@
open Jvm Jvm.ClassFile Sem Op Lib Jvm.Free Jvm.Stand Jvm.LawKit Jvm.RoadKit Bundle Jvm.Pilot.@@N@@.Jvm.D
/-- what is reached from S1 is reached from S0 -/
abbrev own_K (tb : Tables) (e : Env) (below : List Frame) (S0 S1 : State) : Prop := ∀ t, Steps tb e below S1 t → Steps tb e below S0 t
section Own
variable {p : Program} {l : Launch} {e : Env} {R : Room} {s : State} {m : MethodId} {args : Array Value} {below : List Frame} {meth : Method} {c : Code} {T : State} {locs : List Loc} {cells slots : Nat} {Z : State} {h h' : Heap}
theorem own_lremM {g : JFrame} {target : State} (X : Stand p l e R s m args below meth c T locs cells slots) (hx : p.tables.exec = Jvm.exec) (hg : g.method = m) {x y : Int64} {rest : List Value} (hd : decode c.code g.pc = .ok (.lrem, 1)) (hs : g.stack = .long y :: .long x :: rest) (hy : y ≠ 0)
    (hr : Steps p.tables e below (T.setTop { g with pc := g.pc + 1, stack := .long (x % y) :: rest }) target) : Steps p.tables e below (T.setTop g) target := by
  have q : x - x / y * y = x % y := lrem_mod x y
  exact XS.lrem X.here hx hg hd hs hy (by rw [q]; exact hr)
/-- a static field rides over a write to cells that hold no statics -/
theorem own_staKeep {C n d : String} {w : Value} {ws : List Addr} (F : Sta Z h C n d w) (K : Keep h h' ws) (q : ∀ x ∈ ws, ∀ cell : Cell, h[x]? = some cell → cell.vm.isStatics = false) : Sta Z h' C n d w := by
  obtain ⟨cf, i, k, f, st, cell, h1, h2, h3, h4, h5, h6, h7⟩ := F
  refine ⟨cf, i, k, f, st, cell, h1, h2, h3, h4, K.2.1 st cell h5 (fun hm => ?_), h6, h7⟩
  rw [q st hm cell h5] at h6; cases h6
theorem own_exaNo {a : Addr} {C : String} (E : Exa Z h a C) : ∀ cell : Cell, h[a]? = some cell → cell.vm.isStatics = false := fun cell q => by
  obtain ⟨c1, _, h1, -, -, h4, -⟩ := E
  cases h1.symm.trans q; exact h4
theorem own_selPriv {y : MethodName} {n : Nat} (wi : (Jvm.Cond.instantiable y.cls n).before args s = true) (wp : s.PrivateAt y) (hinst : (Jvm.Cond.instanceMethod y).before args s = true) (hy : y.cls ≠ "java/lang/invoke/MethodHandle" ∧ y.cls ≠ "java/lang/invoke/VarHandle") : (Jvm.Cond.selects y.cls y y).before args s = true := by
  obtain ⟨c, k, h1, h2, -, h4, -⟩ := Cond.instantiable_spec wi
  exact selects_self_of_private h1 h2 (Bool.or_eq_false_iff.mp h4).1 wp hinst hy
/-- a static that holds an object exactly of a class, out of the case's words -/
theorem own_stat {C n d D : String} (hx : (Jvm.Cond.exactly (.static C n d) D).value args Z none Z [] = some true) (w1 : (Jvm.Cond.initialized C).before args Z = true) (w2 : (Jvm.Cond.laysStatic C n d).before args Z = true) :
    ∃ a, Sta Z Z.heap C n d (.ref a) ∧ Exa Z Z.heap a D ∧ (Term.static C n d).eval args Z none [] Z = some (.ref a) := by
  obtain ⟨a, ev⟩ := exa_v hx
  exact ⟨a, Sta.start ev (Or.inr ⟨w1, w2⟩), Exa.start ev hx, ev⟩
theorem own_fldI {t : Term} {a : Addr} {O n d : String} {k : Int32} (ev : t.eval args Z none [] Z = some (.ref a)) (hq : (Jvm.Cond.eq (.field t O n d) (.int k)).value args Z none Z [] = some true) : Fld Z Z.heap a O n d (.int k) := by
  have q := Cond.eq_int (Cond.before_iff.mpr hq) rfl
  rw [fld_at ev] at q
  exact Fld.start q
theorem own_fldJ {t : Term} {a : Addr} {O n d : String} {k : Int64} (ev : t.eval args Z none [] Z = some (.ref a)) (hq : (Jvm.Cond.eq (.field t O n d) (.long k)).value args Z none Z [] = some true) : Fld Z Z.heap a O n d (.long k) := by
  have q := Cond.eq_long (Cond.before_iff.mpr hq) rfl
  rw [fld_at ev] at q
  exact Fld.start q
end Own
theorem own_t1 : (1 : Int64).toInt = 1 := by decide
theorem own_t100 : (100 : Int64).toInt = 100 := by decide
theorem own_t2m : (2000000 : Int64).toInt = 2000000 := by decide
theorem own_t1m : (1000000 : Int64).toInt = 1000000 := by decide
theorem own_t990 : (990000 : Int64).toInt = 990000 := by decide
theorem own_tday : (86400000 : Int64).toInt = 86400000 := by decide
theorem own_tmax : (9223372036854 : Int64).toInt = 9223372036854 := by decide
theorem own_bounds (q : Int64) : ¬ ((1 : Int64) + (q &&& (9223372036854775807 : Int64)) % (86400000 : Int64)) < (1 : Int64) ∧ ¬ (86400000 : Int64) < ((1 : Int64) + (q &&& (9223372036854775807 : Int64)) % (86400000 : Int64)) := by
  have h1 := c_maskL q 9223372036854775807 63 (by decide) (by decide)
  have h2 := c_lrem (q &&& 9223372036854775807) 86400000 86400000 (by decide)
  rw [lrem_mod] at h2
  have h3 := c_ladd 1 ((q &&& 9223372036854775807) % 86400000)
  have h4 := rng64 ((1 : Int64) + (q &&& (9223372036854775807 : Int64)) % (86400000 : Int64))
  have h5 := own_t1
  have h6 := own_tday
  rw [Int64.lt_iff_toInt_lt, Int64.lt_iff_toInt_lt]
  omega
theorem own_val (m : Int64) (h1 : ¬ m < (1 : Int64)) (h2 : ¬ (86400000 : Int64) < m) : (((m * (1000000 : Int64)) - ((m * (1000000 : Int64)) / (100 : Int64))) - (2000000 : Int64)) = ((m * (990000 : Int64)) - (2000000 : Int64)) := by
  rw [Int64.lt_iff_toInt_lt] at h1 h2
  rw [← Int64.toInt_inj]
  have a1 := c_lmul m 1000000
  have a2 := c_lmul m 990000
  have a3 := c_ldiv (m * 1000000) 100 100 (by decide) (by decide)
  have a4 := c_lsub (m * 1000000) ((m * 1000000) / 100)
  have a5 := c_lsub ((m * 1000000) - ((m * 1000000) / 100)) 2000000
  have a6 := c_lsub (m * 990000) 2000000
  rw [own_t1m] at a1
  rw [own_t990] at a2
  rw [own_t2m] at a5 a6
  rw [own_t1] at h1
  rw [own_tday] at h2
  have r1 := rng64 (m * 1000000)
  have r2 := rng64 (m * 990000)
  have r4 := rng64 ((m * 1000000) - ((m * 1000000) / 100))
  have r5 := rng64 (((m * 1000000) - ((m * 1000000) / 100)) - 2000000)
  have r6 := rng64 ((m * 990000) - 2000000)
  have s1 : (m * 1000000).toInt = m.toInt * 1000000 := by clear a2 a3 a4 a5 a6 r2 r4 r5 r6; omega
  have s2 : (m * 990000).toInt = m.toInt * 990000 := by clear a1 a3 a4 a5 a6 r1 r4 r5 r6 s1; omega
  have s3 : (m * 1000000 / 100).toInt = m.toInt * 10000 := by rw [a3.1 (by omega), s1]; omega
  rw [s1, s3] at a4
  have s4 : (m * 1000000 - m * 1000000 / 100).toInt = m.toInt * 990000 := by clear a1 a2 a3 a5 a6 r1 r2 r5 r6 s1 s2 s3; omega
  rw [s4] at a5
  rw [s2] at a6
  have s5 : (m * 1000000 - m * 1000000 / 100 - 2000000).toInt = m.toInt * 990000 - 2000000 := by clear a1 a2 a3 a4 a6 r1 r2 r4 r6 s1 s2 s3 s4; omega
  have s6 : (m * 990000 - 2000000).toInt = m.toInt * 990000 - 2000000 := by clear a1 a2 a3 a4 a5 r1 r2 r4 r5 s1 s2 s3 s4 s5; omega
  rw [s5, s6]
theorem own_n1 : ¬ (1000000 : Int64) = (1 : Int64) := by decide
theorem own_small (m : Int64) (h1 : ¬ m < (1 : Int64)) (h2 : ¬ (86400000 : Int64) < m) : ¬ (9223372036854 : Int64) < m ∧ ¬ m < (-(9223372036854 : Int64)) := by
  have t : (-(9223372036854 : Int64)).toInt = -9223372036854 := by decide
  have h5 := own_t1
  have h6 := own_tday
  have h7 := own_tmax
  rw [Int64.lt_iff_toInt_lt] at h1 h2
  rw [Int64.lt_iff_toInt_lt, Int64.lt_iff_toInt_lt]
  omega
theorem own_pn0 : plainName "com/example/ferrolho/ferrolho/lock/LeaseTime" = true := by first | (simp [plainName, overriddenIn]; done) | decide +kernel
theorem own_d1_0 : decode prog_20_method_1_code 0 = .ok (.aload_n 0, 1) := by decide +kernel
theorem own_d1_1 : decode prog_20_method_1_code 1 = .ok (.invokespecial 1, 3) := by decide +kernel
theorem own_d1_4 : decode prog_20_method_1_code 4 = .ok (.lload_n 1, 1) := by decide +kernel
theorem own_d1_5 : decode prog_20_method_1_code 5 = .ok (.lconst 1, 1) := by decide +kernel
theorem own_d1_6 : decode prog_20_method_1_code 6 = .ok (.lcmp, 1) := by decide +kernel
theorem own_d1_7 : decode prog_20_method_1_code 7 = .ok (.ifCond .lt 11, 3) := by decide +kernel
theorem own_d1_10 : decode prog_20_method_1_code 10 = .ok (.lload_n 1, 1) := by decide +kernel
theorem own_d1_11 : decode prog_20_method_1_code 11 = .ok (.ldc2_w 9, 3) := by decide +kernel
theorem own_d1_14 : decode prog_20_method_1_code 14 = .ok (.lcmp, 1) := by decide +kernel
theorem own_d1_15 : decode prog_20_method_1_code 15 = .ok (.ifCond .le 17, 3) := by decide +kernel
theorem own_d1_32 : decode prog_20_method_1_code 32 = .ok (.aload_n 0, 1) := by decide +kernel
theorem own_d1_33 : decode prog_20_method_1_code 33 = .ok (.lload_n 1, 1) := by decide +kernel
theorem own_d1_34 : decode prog_20_method_1_code 34 = .ok (.putfield 20, 3) := by decide +kernel
theorem own_d1_37 : decode prog_20_method_1_code 37 = .ok (.return_, 1) := by decide +kernel
theorem own_ef1 (m : MethodId) (y0 : Addr) (y1 : Int64) : entryFrame m #[(.ref y0), (.long y1)] 3 = mkF m 0 #[.val (.ref y0), .val (.long y1), .second] [] := by first | (simp [entryFrame, mkF, argsToLocals, Value.category]; done) | rfl
def Q1 (Z : State) (a1 : Addr) (q : Int64) (u : Value) (h0 : Heap) (n0 : Nat) (v : Option Value) (h : Heap) (L : List Loc) : Prop := v = none ∧ Fr n0 L ∧ Keep h0 h [a1] ∧ Exa Z h a1 "com/example/ferrolho/ferrolho/lock/LeaseTime" ∧ Fld Z h a1 "com/example/ferrolho/ferrolho/lock/LeaseTime" "millis" "J" (.long q)
set_option maxRecDepth 65536 in
set_option maxHeartbeats 40000000 in
theorem rm1 (l : Launch) (Z : State) (a0 : Array Value) (hw : ∀ d ∈ tables_1, d.before a0 Z = true) (ws : List Jvm.Cond) (a1 : Addr) (q : Int64) (u : Value) (h0 : Heap) (n0 : Nat) (E1 : Exa Z h0 a1 "com/example/ferrolho/ferrolho/lock/LeaseTime") (F1 : Fld Z h0 a1 "com/example/ferrolho/ferrolho/lock/LeaseTime" "millis" "J" u) (g1 : n0 ≤ a1) (c1 : ¬ q < (1 : Int64)) (c2 : ¬ (86400000 : Int64) < q) :
    MetFree l (⟨"com/example/ferrolho/ferrolho/lock/LeaseTime", "<init>", "(J)V"⟩ : MethodName) (head1 (Jvm.Cond.code (⟨"com/example/ferrolho/ferrolho/lock/LeaseTime", "<init>", "(J)V"⟩ : MethodName) prog_20_method_1_code 3 none :: ws) ({ frames := 1, cells := 0, slots := 0, locals := 12 } : Room)) (fun aaz U => aaz = #[(.ref a1), (.long q)] ∧ Z.Warmed39 U.vm ∧ U.heap = h0) (fun _ _ _ _ _ => True) (fun _ U o U' => ∃ v L, o = .returned v ∧ Q1 Z a1 q u h0 n0 v U'.heap L ∧ FrameEnd U o U' L ({ frames := 1, cells := 0, slots := 0, locals := 12 } : Room).cells ({ frames := 1, cells := 0, slots := 0, locals := 12 } : Room).slots) := by
  refine MetFree.of_bodySF (plainFor_of_name own_pn0) hisR ?_
  intro p e s m args below meth c s₁ Bd hml0 hP hK
  obtain ⟨rfl, hZ, hh⟩ := hP
  have hx := Bd.exec
  have hby := Bd.bytes
  have hml : c.maxLocals = 3 := hml0
  have hown : s.vm.findClass "com/example/ferrolho/ferrolho/lock/LeaseTime" = some m.cls := findClass_of_methodNamed Bd.named
  have hnm := (name_of_methodNamed Bd.named Bd.method).1
  have X0 : Stand p l e ({ frames := 1, cells := 0, slots := 0, locals := 12 } : Room) s m #[(.ref a1), (.long q)] below meth c s₁ [] 0 0 := Stand.of_body Bd
  have e0 : s₁.heap = h0 := by rw [← hh, Bd.state]; rfl
  have N0 := Fr.nil n0
  have k : own_K p.tables e below (s₁.setTop (entryFrame m #[(.ref a1), (.long q)] 3)) (s₁.setTop (mkF m 0 #[.val (.ref a1), .val (.long q), .second] [])) := fun t h => castTop (own_ef1 m a1 q) h
  replace k : own_K p.tables e below (s₁.setTop (entryFrame m #[(.ref a1), (.long q)] 3)) (s₁.setTop (mkF m 1 #[.val (.ref a1), .val (.long q), .second] [(.ref a1)])) := fun t h => k t (XS.aloadN X0.here hx rfl (hb hby own_d1_0) rfl rfl h)
  obtain ⟨T1, X1, e1, st1⟩ := initO X0 hx hZ hown (hw _ (List.mem_of_getElem? (i := 8) rfl)) (hw _ (List.mem_of_getElem? (i := 9) rfl)) (hw _ (List.mem_of_getElem? (i := 10) rfl)) e0 (g := (mkF m 1 #[.val (.ref a1), .val (.long q), .second] [(.ref a1)])) rfl (by rw [hml]; rfl) rfl (hb hby own_d1_1) (by decide) (W := 0) (by show 2 * 0 + _ ≤ _; exact Nat.le_of_eq rfl) (by decide)
  replace k : own_K p.tables e below (s₁.setTop (entryFrame m #[(.ref a1), (.long q)] 3)) (T1.setTop (mkF m 4 #[.val (.ref a1), .val (.long q), .second] [])) := fun t h => k t (st1 _ h)
  replace k : own_K p.tables e below (s₁.setTop (entryFrame m #[(.ref a1), (.long q)] 3)) (T1.setTop (mkF m 5 #[.val (.ref a1), .val (.long q), .second] [(.long q)])) := fun t h => k t (XS.lloadN X1.here hx rfl (hb hby own_d1_4) rfl h)
  replace k : own_K p.tables e below (s₁.setTop (entryFrame m #[(.ref a1), (.long q)] 3)) (T1.setTop (mkF m 6 #[.val (.ref a1), .val (.long q), .second] [(.long (1 : Int64)), (.long q)])) := fun t h => k t (XS.lconst X1.here hx rfl (hb hby own_d1_5) h)
  replace k : own_K p.tables e below (s₁.setTop (entryFrame m #[(.ref a1), (.long q)] 3)) (T1.setTop (mkF m 7 #[.val (.ref a1), .val (.long q), .second] [(.int (lcmpW q (1 : Int64)))])) := fun t h => k t (XS.lcmp X1.here hx rfl (hb hby own_d1_6) rfl h)
  replace k : own_K p.tables e below (s₁.setTop (entryFrame m #[(.ref a1), (.long q)] 3)) (T1.setTop (mkF m 10 #[.val (.ref a1), .val (.long q), .second] [])) := fun t h => k t (XS.ifNo X1.here hx rfl (hb hby own_d1_7) rfl ((if0 _ _).trans (flt (fun q => c1 ((lw_lt _ _).mp q))).1) h)
  replace k : own_K p.tables e below (s₁.setTop (entryFrame m #[(.ref a1), (.long q)] 3)) (T1.setTop (mkF m 11 #[.val (.ref a1), .val (.long q), .second] [(.long q)])) := fun t h => k t (XS.lloadN X1.here hx rfl (hb hby own_d1_10) rfl h)
  replace k : own_K p.tables e below (s₁.setTop (entryFrame m #[(.ref a1), (.long q)] 3)) (T1.setTop (mkF m 14 #[.val (.ref a1), .val (.long q), .second] [(.long (86400000 : Int64)), (.long q)])) := fun t h => k t (X1.ldc2Long hx hown (mvT hZ (hw _ (List.mem_of_getElem? (i := 11) rfl))) (g := (mkF m 11 #[.val (.ref a1), .val (.long q), .second] [(.long q)])) rfl (hb hby own_d1_11) _ h)
  replace k : own_K p.tables e below (s₁.setTop (entryFrame m #[(.ref a1), (.long q)] 3)) (T1.setTop (mkF m 15 #[.val (.ref a1), .val (.long q), .second] [(.int (lcmpW q (86400000 : Int64)))])) := fun t h => k t (XS.lcmp X1.here hx rfl (hb hby own_d1_14) rfl h)
  replace k : own_K p.tables e below (s₁.setTop (entryFrame m #[(.ref a1), (.long q)] 3)) (T1.setTop (mkF m 32 #[.val (.ref a1), .val (.long q), .second] [])) := fun t h => k t (XS.ifYes X1.here hx rfl (pc0 := 15) (pc' := 32) rfl (hb hby own_d1_15) rfl ((if0 _ _).trans (flt (fun q => c2 ((lw_gt _ _).mp q))).2.2.2) (by decide) (by decide) h)
  replace k : own_K p.tables e below (s₁.setTop (entryFrame m #[(.ref a1), (.long q)] 3)) (T1.setTop (mkF m 33 #[.val (.ref a1), .val (.long q), .second] [(.ref a1)])) := fun t h => k t (XS.aloadN X1.here hx rfl (hb hby own_d1_32) rfl rfl h)
  replace k : own_K p.tables e below (s₁.setTop (entryFrame m #[(.ref a1), (.long q)] 3)) (T1.setTop (mkF m 34 #[.val (.ref a1), .val (.long q), .second] [(.long q), (.ref a1)])) := fun t h => k t (XS.lloadN X1.here hx rfl (hb hby own_d1_33) rfl h)
  obtain ⟨T2, h2, X2, e2, W2, st2⟩ := putF X1 hx hZ hown (host := "") (Or.inl (hw _ (List.mem_of_getElem? (i := 12) rfl))) Via.refl e1 F1 E1 (Or.inr ⟨(hw _ (List.mem_of_getElem? (i := 13) rfl)), rfl, hnm⟩) (hw _ (List.mem_of_getElem? (i := 3) rfl)) (ty := .long) (by decide) rfl rfl (g := (mkF m 34 #[.val (.ref a1), .val (.long q), .second] [(.long q), (.ref a1)])) rfl rfl (hb hby own_d1_34)
  have N2 := Fr.snoc X2 N0 g1
  replace k : own_K p.tables e below (s₁.setTop (entryFrame m #[(.ref a1), (.long q)] 3)) (T2.setTop (mkF m 37 #[.val (.ref a1), .val (.long q), .second] [])) := fun t h => k t (st2 _ h)
  have K1 : Keep h0 h2 [a1] := (Keep.refl h0 [a1]).wr W2 (Or.inl (List.mem_of_getElem? (i := 0) rfl))
  have F2 := F1.same W2
  have E2 := E1.wr W2
  obtain ⟨fs, hr, hrun, hended, hW, hsame⟩ := X2.leave (v := none) (fun _ => rfl)
  refine ⟨_, _, k _ (X2.returnOut hx Bd.returns (hb hby own_d1_37) hr), hrun, hended, _, _, rfl, ?_, ⟨_, rfl⟩, hW, hsame.mono (by decide) (by decide)⟩
  show Q1 Z a1 q u h0 n0 _ T2.heap _
  rw [e2]
  exact ⟨rfl, N2, K1, E2, F2⟩
theorem own_pn1 : plainName "java/util/concurrent/TimeUnit" = true := by first | (simp [plainName, overriddenIn]; done) | decide +kernel
theorem own_d4_0 : decode jdk_2799_method_7_code 0 = .ok (.aload_n 0, 1) := by decide +kernel
theorem own_d4_1 : decode jdk_2799_method_7_code 1 = .ok (.getfield 44, 3) := by decide +kernel
theorem own_d4_4 : decode jdk_2799_method_7_code 4 = .ok (.dup2, 1) := by decide +kernel
theorem own_d4_5 : decode jdk_2799_method_7_code 5 = .ok (.lstore_n 3, 1) := by decide +kernel
theorem own_d4_6 : decode jdk_2799_method_7_code 6 = .ok (.lconst 1, 1) := by decide +kernel
theorem own_d4_7 : decode jdk_2799_method_7_code 7 = .ok (.lcmp, 1) := by decide +kernel
theorem own_d4_8 : decode jdk_2799_method_7_code 8 = .ok (.ifCond .ne 5, 3) := by decide +kernel
theorem own_d4_13 : decode jdk_2799_method_7_code 13 = .ok (.lload_n 1, 1) := by decide +kernel
theorem own_d4_14 : decode jdk_2799_method_7_code 14 = .ok (.aload_n 0, 1) := by decide +kernel
theorem own_d4_15 : decode jdk_2799_method_7_code 15 = .ok (.getfield 52, 3) := by decide +kernel
theorem own_d4_18 : decode jdk_2799_method_7_code 18 = .ok (.dup2, 1) := by decide +kernel
theorem own_d4_19 : decode jdk_2799_method_7_code 19 = .ok (.lstore 5, 2) := by decide +kernel
theorem own_d4_21 : decode jdk_2799_method_7_code 21 = .ok (.lcmp, 1) := by decide +kernel
theorem own_d4_22 : decode jdk_2799_method_7_code 22 = .ok (.ifCond .le 7, 3) := by decide +kernel
theorem own_d4_29 : decode jdk_2799_method_7_code 29 = .ok (.lload_n 1, 1) := by decide +kernel
theorem own_d4_30 : decode jdk_2799_method_7_code 30 = .ok (.lload 5, 2) := by decide +kernel
theorem own_d4_32 : decode jdk_2799_method_7_code 32 = .ok (.lneg, 1) := by decide +kernel
theorem own_d4_33 : decode jdk_2799_method_7_code 33 = .ok (.lcmp, 1) := by decide +kernel
theorem own_d4_34 : decode jdk_2799_method_7_code 34 = .ok (.ifCond .ge 7, 3) := by decide +kernel
theorem own_d4_41 : decode jdk_2799_method_7_code 41 = .ok (.lload_n 1, 1) := by decide +kernel
theorem own_d4_42 : decode jdk_2799_method_7_code 42 = .ok (.lload_n 3, 1) := by decide +kernel
theorem own_d4_43 : decode jdk_2799_method_7_code 43 = .ok (.lmul, 1) := by decide +kernel
theorem own_d4_44 : decode jdk_2799_method_7_code 44 = .ok (.lreturn, 1) := by decide +kernel
theorem own_ef4 (m : MethodId) (y0 : Addr) (y1 : Int64) : entryFrame m #[(.ref y0), (.long y1)] 7 = mkF m 0 #[.val (.ref y0), .val (.long y1), .second, .unset, .unset, .unset, .unset] [] := by first | (simp [entryFrame, mkF, argsToLocals, Value.category]; done) | rfl
def Q4 (Z : State) (a1 : Addr) (q : Int64) (h0 : Heap) (n0 : Nat) (v : Option Value) (h : Heap) (L : List Loc) : Prop := v = some (.long (q * (1000000 : Int64))) ∧ Fr n0 L ∧ h = h0
set_option maxRecDepth 65536 in
set_option maxHeartbeats 40000000 in
theorem rm4 (l : Launch) (Z : State) (a0 : Array Value) (hw : ∀ d ∈ tables_1, d.before a0 Z = true) (ws : List Jvm.Cond) (a1 : Addr) (q : Int64) (h0 : Heap) (n0 : Nat) (Fs : Fld Z h0 a1 "java/util/concurrent/TimeUnit" "scale" "J" (.long (1000000 : Int64))) (Fx : Fld Z h0 a1 "java/util/concurrent/TimeUnit" "maxNanos" "J" (.long (9223372036854 : Int64))) (c2 : ¬ (9223372036854 : Int64) < q) (c3 : ¬ q < (-(9223372036854 : Int64))) :
    MetFree l (⟨"java/util/concurrent/TimeUnit", "toNanos", "(J)J"⟩ : MethodName) (head1 (Jvm.Cond.code (⟨"java/util/concurrent/TimeUnit", "toNanos", "(J)J"⟩ : MethodName) jdk_2799_method_7_code 7 (some .long) :: ws) ({ frames := 0, cells := 0, slots := 0, locals := 0 } : Room)) (fun aaz U => aaz = #[(.ref a1), (.long q)] ∧ Z.Warmed39 U.vm ∧ U.heap = h0) (fun _ _ _ _ _ => True) (fun _ U o U' => ∃ v L, o = .returned v ∧ Q4 Z a1 q h0 n0 v U'.heap L ∧ FrameEnd U o U' L ({ frames := 0, cells := 0, slots := 0, locals := 0 } : Room).cells ({ frames := 0, cells := 0, slots := 0, locals := 0 } : Room).slots) := by
  refine MetFree.of_bodySF (plainFor_of_name own_pn1) hisR ?_
  intro p e s m args below meth c s₁ Bd hml0 hP hK
  obtain ⟨rfl, hZ, hh⟩ := hP
  have hx := Bd.exec
  have hby := Bd.bytes
  have hml : c.maxLocals = 7 := hml0
  have hown : s.vm.findClass "java/util/concurrent/TimeUnit" = some m.cls := findClass_of_methodNamed Bd.named
  have hnm := (name_of_methodNamed Bd.named Bd.method).1
  have X0 : Stand p l e ({ frames := 0, cells := 0, slots := 0, locals := 0 } : Room) s m #[(.ref a1), (.long q)] below meth c s₁ [] 0 0 := Stand.of_body Bd
  have e0 : s₁.heap = h0 := by rw [← hh, Bd.state]; rfl
  have N0 := Fr.nil n0
  have k : own_K p.tables e below (s₁.setTop (entryFrame m #[(.ref a1), (.long q)] 7)) (s₁.setTop (mkF m 0 #[.val (.ref a1), .val (.long q), .second, .unset, .unset, .unset, .unset] [])) := fun t h => castTop (own_ef4 m a1 q) h
  replace k : own_K p.tables e below (s₁.setTop (entryFrame m #[(.ref a1), (.long q)] 7)) (s₁.setTop (mkF m 1 #[.val (.ref a1), .val (.long q), .second, .unset, .unset, .unset, .unset] [(.ref a1)])) := fun t h => k t (XS.aloadN X0.here hx rfl (hb hby own_d4_0) rfl rfl h)
  obtain ⟨T1, X1, e1, st1⟩ := getF X0 hx hZ hown (host := "") (Or.inl (hw _ (List.mem_of_getElem? (i := 28) rfl))) Via.refl e0 Fs (g := (mkF m 1 #[.val (.ref a1), .val (.long q), .second, .unset, .unset, .unset, .unset] [(.ref a1)])) rfl rfl (hb hby own_d4_1)
  replace k : own_K p.tables e below (s₁.setTop (entryFrame m #[(.ref a1), (.long q)] 7)) (T1.setTop (mkF m 4 #[.val (.ref a1), .val (.long q), .second, .unset, .unset, .unset, .unset] [(.long (1000000 : Int64))])) := fun t h => k t (st1 _ h)
  replace k : own_K p.tables e below (s₁.setTop (entryFrame m #[(.ref a1), (.long q)] 7)) (T1.setTop (mkF m 5 #[.val (.ref a1), .val (.long q), .second, .unset, .unset, .unset, .unset] [(.long (1000000 : Int64)), (.long (1000000 : Int64))])) := fun t h => k t (Jvm.Free.XT.dup2L X1.here hx rfl (hb hby own_d4_4) rfl h)
  replace k : own_K p.tables e below (s₁.setTop (entryFrame m #[(.ref a1), (.long q)] 7)) (T1.setTop (mkF m 6 #[.val (.ref a1), .val (.long q), .second, .val (.long (1000000 : Int64)), .second, .unset, .unset] [(.long (1000000 : Int64))])) := fun t h => k t (XS.lstoreN X1.here hx rfl (hb hby own_d4_5) rfl (l' := #[.val (.ref a1), .val (.long q), .second, .val (.long (1000000 : Int64)), .second, .unset, .unset]) rfl h)
  replace k : own_K p.tables e below (s₁.setTop (entryFrame m #[(.ref a1), (.long q)] 7)) (T1.setTop (mkF m 7 #[.val (.ref a1), .val (.long q), .second, .val (.long (1000000 : Int64)), .second, .unset, .unset] [(.long (1 : Int64)), (.long (1000000 : Int64))])) := fun t h => k t (XS.lconst X1.here hx rfl (hb hby own_d4_6) h)
  replace k : own_K p.tables e below (s₁.setTop (entryFrame m #[(.ref a1), (.long q)] 7)) (T1.setTop (mkF m 8 #[.val (.ref a1), .val (.long q), .second, .val (.long (1000000 : Int64)), .second, .unset, .unset] [(.int (lcmpW (1000000 : Int64) (1 : Int64)))])) := fun t h => k t (XS.lcmp X1.here hx rfl (hb hby own_d4_7) rfl h)
  replace k : own_K p.tables e below (s₁.setTop (entryFrame m #[(.ref a1), (.long q)] 7)) (T1.setTop (mkF m 13 #[.val (.ref a1), .val (.long q), .second, .val (.long (1000000 : Int64)), .second, .unset, .unset] [])) := fun t h => k t (XS.ifYes X1.here hx rfl (pc0 := 8) (pc' := 13) rfl (hb hby own_d4_8) rfl ((if0 _ _).trans (feq (fun q => own_n1 ((lw_eq _ _).mp q))).2) (by decide) (by decide) h)
  replace k : own_K p.tables e below (s₁.setTop (entryFrame m #[(.ref a1), (.long q)] 7)) (T1.setTop (mkF m 14 #[.val (.ref a1), .val (.long q), .second, .val (.long (1000000 : Int64)), .second, .unset, .unset] [(.long q)])) := fun t h => k t (XS.lloadN X1.here hx rfl (hb hby own_d4_13) rfl h)
  replace k : own_K p.tables e below (s₁.setTop (entryFrame m #[(.ref a1), (.long q)] 7)) (T1.setTop (mkF m 15 #[.val (.ref a1), .val (.long q), .second, .val (.long (1000000 : Int64)), .second, .unset, .unset] [(.ref a1), (.long q)])) := fun t h => k t (XS.aloadN X1.here hx rfl (hb hby own_d4_14) rfl rfl h)
  obtain ⟨T2, X2, e2, st2⟩ := getF X1 hx hZ hown (host := "") (Or.inl (hw _ (List.mem_of_getElem? (i := 30) rfl))) Via.refl e1 Fx (g := (mkF m 15 #[.val (.ref a1), .val (.long q), .second, .val (.long (1000000 : Int64)), .second, .unset, .unset] [(.ref a1), (.long q)])) rfl rfl (hb hby own_d4_15)
  replace k : own_K p.tables e below (s₁.setTop (entryFrame m #[(.ref a1), (.long q)] 7)) (T2.setTop (mkF m 18 #[.val (.ref a1), .val (.long q), .second, .val (.long (1000000 : Int64)), .second, .unset, .unset] [(.long (9223372036854 : Int64)), (.long q)])) := fun t h => k t (st2 _ h)
  replace k : own_K p.tables e below (s₁.setTop (entryFrame m #[(.ref a1), (.long q)] 7)) (T2.setTop (mkF m 19 #[.val (.ref a1), .val (.long q), .second, .val (.long (1000000 : Int64)), .second, .unset, .unset] [(.long (9223372036854 : Int64)), (.long (9223372036854 : Int64)), (.long q)])) := fun t h => k t (Jvm.Free.XT.dup2L X2.here hx rfl (hb hby own_d4_18) rfl h)
  replace k : own_K p.tables e below (s₁.setTop (entryFrame m #[(.ref a1), (.long q)] 7)) (T2.setTop (mkF m 21 #[.val (.ref a1), .val (.long q), .second, .val (.long (1000000 : Int64)), .second, .val (.long (9223372036854 : Int64)), .second] [(.long (9223372036854 : Int64)), (.long q)])) := fun t h => k t (XS.lstore X2.here hx rfl (hb hby own_d4_19) rfl (l' := #[.val (.ref a1), .val (.long q), .second, .val (.long (1000000 : Int64)), .second, .val (.long (9223372036854 : Int64)), .second]) rfl h)
  replace k : own_K p.tables e below (s₁.setTop (entryFrame m #[(.ref a1), (.long q)] 7)) (T2.setTop (mkF m 22 #[.val (.ref a1), .val (.long q), .second, .val (.long (1000000 : Int64)), .second, .val (.long (9223372036854 : Int64)), .second] [(.int (lcmpW q (9223372036854 : Int64)))])) := fun t h => k t (XS.lcmp X2.here hx rfl (hb hby own_d4_21) rfl h)
  replace k : own_K p.tables e below (s₁.setTop (entryFrame m #[(.ref a1), (.long q)] 7)) (T2.setTop (mkF m 29 #[.val (.ref a1), .val (.long q), .second, .val (.long (1000000 : Int64)), .second, .val (.long (9223372036854 : Int64)), .second] [])) := fun t h => k t (XS.ifYes X2.here hx rfl (pc0 := 22) (pc' := 29) rfl (hb hby own_d4_22) rfl ((if0 _ _).trans (flt (fun q => c2 ((lw_gt _ _).mp q))).2.2.2) (by decide) (by decide) h)
  replace k : own_K p.tables e below (s₁.setTop (entryFrame m #[(.ref a1), (.long q)] 7)) (T2.setTop (mkF m 30 #[.val (.ref a1), .val (.long q), .second, .val (.long (1000000 : Int64)), .second, .val (.long (9223372036854 : Int64)), .second] [(.long q)])) := fun t h => k t (XS.lloadN X2.here hx rfl (hb hby own_d4_29) rfl h)
  replace k : own_K p.tables e below (s₁.setTop (entryFrame m #[(.ref a1), (.long q)] 7)) (T2.setTop (mkF m 32 #[.val (.ref a1), .val (.long q), .second, .val (.long (1000000 : Int64)), .second, .val (.long (9223372036854 : Int64)), .second] [(.long (9223372036854 : Int64)), (.long q)])) := fun t h => k t (XS.lload X2.here hx rfl (hb hby own_d4_30) rfl h)
  replace k : own_K p.tables e below (s₁.setTop (entryFrame m #[(.ref a1), (.long q)] 7)) (T2.setTop (mkF m 33 #[.val (.ref a1), .val (.long q), .second, .val (.long (1000000 : Int64)), .second, .val (.long (9223372036854 : Int64)), .second] [(.long (-(9223372036854 : Int64))), (.long q)])) := fun t h => k t (XS.lneg X2.here hx rfl (hb hby own_d4_32) rfl h)
  replace k : own_K p.tables e below (s₁.setTop (entryFrame m #[(.ref a1), (.long q)] 7)) (T2.setTop (mkF m 34 #[.val (.ref a1), .val (.long q), .second, .val (.long (1000000 : Int64)), .second, .val (.long (9223372036854 : Int64)), .second] [(.int (lcmpW q (-(9223372036854 : Int64))))])) := fun t h => k t (XS.lcmp X2.here hx rfl (hb hby own_d4_33) rfl h)
  replace k : own_K p.tables e below (s₁.setTop (entryFrame m #[(.ref a1), (.long q)] 7)) (T2.setTop (mkF m 41 #[.val (.ref a1), .val (.long q), .second, .val (.long (1000000 : Int64)), .second, .val (.long (9223372036854 : Int64)), .second] [])) := fun t h => k t (XS.ifYes X2.here hx rfl (pc0 := 34) (pc' := 41) rfl (hb hby own_d4_34) rfl ((if0 _ _).trans (flt (fun q => c3 ((lw_lt _ _).mp q))).2.1) (by decide) (by decide) h)
  replace k : own_K p.tables e below (s₁.setTop (entryFrame m #[(.ref a1), (.long q)] 7)) (T2.setTop (mkF m 42 #[.val (.ref a1), .val (.long q), .second, .val (.long (1000000 : Int64)), .second, .val (.long (9223372036854 : Int64)), .second] [(.long q)])) := fun t h => k t (XS.lloadN X2.here hx rfl (hb hby own_d4_41) rfl h)
  replace k : own_K p.tables e below (s₁.setTop (entryFrame m #[(.ref a1), (.long q)] 7)) (T2.setTop (mkF m 43 #[.val (.ref a1), .val (.long q), .second, .val (.long (1000000 : Int64)), .second, .val (.long (9223372036854 : Int64)), .second] [(.long (1000000 : Int64)), (.long q)])) := fun t h => k t (XS.lloadN X2.here hx rfl (hb hby own_d4_42) rfl h)
  replace k : own_K p.tables e below (s₁.setTop (entryFrame m #[(.ref a1), (.long q)] 7)) (T2.setTop (mkF m 44 #[.val (.ref a1), .val (.long q), .second, .val (.long (1000000 : Int64)), .second, .val (.long (9223372036854 : Int64)), .second] [(.long (q * (1000000 : Int64)))])) := fun t h => k t (XS.lmul X2.here hx rfl (hb hby own_d4_43) rfl h)
  obtain ⟨fs, hr, hrun, hended, hW, hsame⟩ := X2.leave (v := some (.long (q * (1000000 : Int64)))) (fun h => by rw [Bd.returns] at h; cases h)
  refine ⟨_, _, k _ (retOut X2 hx Bd.returns rfl (Or.inr (Or.inl ⟨rfl, rfl, _, rfl⟩)) (hb hby own_d4_44) hr), hrun, hended, _, _, rfl, ?_, ⟨_, rfl⟩, hW, hsame.mono (by decide) (by decide)⟩
  show Q4 Z a1 q h0 n0 _ T2.heap _
  rw [e2]
  exact ⟨rfl, N0, rfl⟩
theorem own_pd0 : parseMethodDescriptor "(J)J" = some ⟨[.long], some .long⟩ := by decide +kernel
theorem own_d3_0 : decode prog_20_method_3_code 0 = .ok (.getstatic 24, 3) := by decide +kernel
theorem own_d3_3 : decode prog_20_method_3_code 3 = .ok (.aload_n 0, 1) := by decide +kernel
theorem own_d3_4 : decode prog_20_method_3_code 4 = .ok (.getfield 20, 3) := by decide +kernel
theorem own_d3_7 : decode prog_20_method_3_code 7 = .ok (.invokevirtual 30, 3) := by decide +kernel
theorem own_d3_10 : decode prog_20_method_3_code 10 = .ok (.lstore_n 1, 1) := by decide +kernel
theorem own_d3_11 : decode prog_20_method_3_code 11 = .ok (.lload_n 1, 1) := by decide +kernel
theorem own_d3_12 : decode prog_20_method_3_code 12 = .ok (.lload_n 1, 1) := by decide +kernel
theorem own_d3_13 : decode prog_20_method_3_code 13 = .ok (.ldc2_w 34, 3) := by decide +kernel
theorem own_d3_16 : decode prog_20_method_3_code 16 = .ok (.ldiv, 1) := by decide +kernel
theorem own_d3_17 : decode prog_20_method_3_code 17 = .ok (.lsub, 1) := by decide +kernel
theorem own_d3_18 : decode prog_20_method_3_code 18 = .ok (.getstatic 36, 3) := by decide +kernel
theorem own_d3_21 : decode prog_20_method_3_code 21 = .ok (.lsub, 1) := by decide +kernel
theorem own_d3_22 : decode prog_20_method_3_code 22 = .ok (.lreturn, 1) := by decide +kernel
theorem own_ef3 (m : MethodId) (y0 : Addr) : entryFrame m #[(.ref y0)] 3 = mkF m 0 #[.val (.ref y0), .unset, .unset] [] := by first | (simp [entryFrame, mkF, argsToLocals, Value.category]; done) | rfl
def Q3 (Z : State) (a1 : Addr) (q : Int64) (ms : Addr) (h0 : Heap) (n0 : Nat) (v : Option Value) (h : Heap) (L : List Loc) : Prop := v = some (.long (((q * (1000000 : Int64)) - ((q * (1000000 : Int64)) / (100 : Int64))) - (2000000 : Int64))) ∧ Fr n0 L ∧ h = h0
set_option maxRecDepth 65536 in
set_option maxHeartbeats 40000000 in
theorem rm3 (l : Launch) (Z : State) (a0 : Array Value) (hw : ∀ d ∈ tables_1, d.before a0 Z = true) (ws : List Jvm.Cond) (a1 : Addr) (q : Int64) (ms : Addr) (h0 : Heap) (n0 : Nat) (S1 : Sta Z h0 "java/util/concurrent/TimeUnit" "MILLISECONDS" "Ljava/util/concurrent/TimeUnit;" (.ref ms)) (EM : Exa Z h0 ms "java/util/concurrent/TimeUnit") (Fs : Fld Z h0 ms "java/util/concurrent/TimeUnit" "scale" "J" (.long (1000000 : Int64))) (Fx : Fld Z h0 ms "java/util/concurrent/TimeUnit" "maxNanos" "J" (.long (9223372036854 : Int64))) (S2 : Sta Z h0 "com/example/ferrolho/ferrolho/lock/LeaseTime" "DRIFT_NANOS" "J" (.long (2000000 : Int64))) (F1 : Fld Z h0 a1 "com/example/ferrolho/ferrolho/lock/LeaseTime" "millis" "J" (.long q)) (c2 : ¬ (9223372036854 : Int64) < q) (c3 : ¬ q < (-(9223372036854 : Int64))) :
    MetFree l (⟨"com/example/ferrolho/ferrolho/lock/LeaseTime", "getValidNanos", "()J"⟩ : MethodName) (head1 (Jvm.Cond.code (⟨"com/example/ferrolho/ferrolho/lock/LeaseTime", "getValidNanos", "()J"⟩ : MethodName) prog_20_method_3_code 3 (some .long) :: ws) ({ frames := 1, cells := 0, slots := 0, locals := 18 } : Room)) (fun aaz U => aaz = #[(.ref a1)] ∧ Z.Warmed39 U.vm ∧ U.heap = h0) (fun _ _ _ _ _ => True) (fun _ U o U' => ∃ v L, o = .returned v ∧ Q3 Z a1 q ms h0 n0 v U'.heap L ∧ FrameEnd U o U' L ({ frames := 1, cells := 0, slots := 0, locals := 18 } : Room).cells ({ frames := 1, cells := 0, slots := 0, locals := 18 } : Room).slots) := by
  refine MetFree.of_bodySF (plainFor_of_name own_pn0) hisR ?_
  intro p e s m args below meth c s₁ Bd hml0 hP hK
  obtain ⟨rfl, hZ, hh⟩ := hP
  have hx := Bd.exec
  have hby := Bd.bytes
  have hml : c.maxLocals = 3 := hml0
  have hown : s.vm.findClass "com/example/ferrolho/ferrolho/lock/LeaseTime" = some m.cls := findClass_of_methodNamed Bd.named
  have hnm := (name_of_methodNamed Bd.named Bd.method).1
  have X0 : Stand p l e ({ frames := 1, cells := 0, slots := 0, locals := 18 } : Room) s m #[(.ref a1)] below meth c s₁ [] 0 0 := Stand.of_body Bd
  have e0 : s₁.heap = h0 := by rw [← hh, Bd.state]; rfl
  have N0 := Fr.nil n0
  have k : own_K p.tables e below (s₁.setTop (entryFrame m #[(.ref a1)] 3)) (s₁.setTop (mkF m 0 #[.val (.ref a1), .unset, .unset] [])) := fun t h => castTop (own_ef3 m a1) h
  obtain ⟨T1, X1, e1, st1⟩ := getS2 X0 hx hZ hown (host := "") (Or.inl (hw _ (List.mem_of_getElem? (i := 21) rfl))) Via.refl e0 S1 (g := (mkF m 0 #[.val (.ref a1), .unset, .unset] [])) rfl (hb hby own_d3_0)
  replace k : own_K p.tables e below (s₁.setTop (entryFrame m #[(.ref a1)] 3)) (T1.setTop (mkF m 3 #[.val (.ref a1), .unset, .unset] [(.ref ms)])) := fun t h => k t (st1 _ h)
  replace k : own_K p.tables e below (s₁.setTop (entryFrame m #[(.ref a1)] 3)) (T1.setTop (mkF m 4 #[.val (.ref a1), .unset, .unset] [(.ref a1), (.ref ms)])) := fun t h => k t (XS.aloadN X1.here hx rfl (hb hby own_d3_3) rfl rfl h)
  obtain ⟨T2, X2, e2, st2⟩ := getF X1 hx hZ hown (host := "") (Or.inl (hw _ (List.mem_of_getElem? (i := 12) rfl))) Via.refl e1 F1 (g := (mkF m 4 #[.val (.ref a1), .unset, .unset] [(.ref a1), (.ref ms)])) rfl rfl (hb hby own_d3_4)
  replace k : own_K p.tables e below (s₁.setTop (entryFrame m #[(.ref a1)] 3)) (T2.setTop (mkF m 7 #[.val (.ref a1), .unset, .unset] [(.long q), (.ref ms)])) := fun t h => k t (st2 _ h)
  obtain ⟨cq4, kq4, q4a, q4b, q4c⟩ := isOf hZ e2 EM
  obtain ⟨_, _, ⟨T4, L4, kk4, n4⟩, -, X4, ⟨Lc4, hQ4, l4, y4, z4⟩, st4⟩ := X2.virtualBack hx (y := (⟨"java/util/concurrent/TimeUnit", "toNanos", "(J)J"⟩ : MethodName)) (z := (⟨"java/util/concurrent/TimeUnit", "toNanos", "(J)J"⟩ : MethodName)) hown (mvT hZ (hw _ (List.mem_of_getElem? (i := 23) rfl))) (mvT hZ (hw _ (List.mem_of_getElem? (i := 24) rfl))) (notFace_of_selects (args := #[]) (mvT hZ (hw _ (List.mem_of_getElem? (i := 26) rfl)))) (mvT hZ (hw _ (List.mem_of_getElem? (i := 26) rfl))) (mvT hZ (hw _ (List.mem_of_getElem? (i := 25) rfl))) (by decide) (backOf (W := 0) (rm4 l Z a0 hw [] ms q h0 n0 Fs Fx c2 c3) hZ (hw _ (List.mem_of_getElem? (i := 27) rfl)) (hw _ (List.mem_of_getElem? (i := 22) rfl)) (by decide) (by decide)) q4a q4c (g := (mkF m 7 #[.val (.ref a1), .unset, .unset] [(.long q), (.ref ms)])) rfl (by rw [hml]; rfl) (Steps.refl _) (argsL := [(.long q)]) (rest := []) (lenOf own_pd0 rfl) rfl (by show 2 * 0 + _ ≤ _; exact Nat.le_of_eq rfl) (hb hby own_d3_7) (fun _ _ => ⟨rfl, e2, (by decide : 0 + 0 ≤ _), (by decide : 0 + 0 ≤ _)⟩)
  dsimp only [Pt.U, Pt.locs, Pt.cells, Pt.slots] at X4 l4 y4 z4 st4 hQ4
  subst l4 y4 z4
  obtain ⟨rfl, N4q, eq3⟩ := hQ4
  have N4 := Fr.app N0 N4q
  replace k : own_K p.tables e below (s₁.setTop (entryFrame m #[(.ref a1)] 3)) (T4.setTop (mkF m 10 #[.val (.ref a1), .unset, .unset] [(.long (q * (1000000 : Int64)))])) := fun t h => k t (st4.trans h)
  replace k : own_K p.tables e below (s₁.setTop (entryFrame m #[(.ref a1)] 3)) (T4.setTop (mkF m 11 #[.val (.ref a1), .val (.long (q * (1000000 : Int64))), .second] [])) := fun t h => k t (XS.lstoreN X4.here hx rfl (hb hby own_d3_10) rfl (l' := #[.val (.ref a1), .val (.long (q * (1000000 : Int64))), .second]) rfl h)
  replace k : own_K p.tables e below (s₁.setTop (entryFrame m #[(.ref a1)] 3)) (T4.setTop (mkF m 12 #[.val (.ref a1), .val (.long (q * (1000000 : Int64))), .second] [(.long (q * (1000000 : Int64)))])) := fun t h => k t (XS.lloadN X4.here hx rfl (hb hby own_d3_11) rfl h)
  replace k : own_K p.tables e below (s₁.setTop (entryFrame m #[(.ref a1)] 3)) (T4.setTop (mkF m 13 #[.val (.ref a1), .val (.long (q * (1000000 : Int64))), .second] [(.long (q * (1000000 : Int64))), (.long (q * (1000000 : Int64)))])) := fun t h => k t (XS.lloadN X4.here hx rfl (hb hby own_d3_12) rfl h)
  replace k : own_K p.tables e below (s₁.setTop (entryFrame m #[(.ref a1)] 3)) (T4.setTop (mkF m 16 #[.val (.ref a1), .val (.long (q * (1000000 : Int64))), .second] [(.long (100 : Int64)), (.long (q * (1000000 : Int64))), (.long (q * (1000000 : Int64)))])) := fun t h => k t (X4.ldc2Long hx hown (mvT hZ (hw _ (List.mem_of_getElem? (i := 32) rfl))) (g := (mkF m 13 #[.val (.ref a1), .val (.long (q * (1000000 : Int64))), .second] [(.long (q * (1000000 : Int64))), (.long (q * (1000000 : Int64)))])) rfl (hb hby own_d3_13) _ h)
  replace k : own_K p.tables e below (s₁.setTop (entryFrame m #[(.ref a1)] 3)) (T4.setTop (mkF m 17 #[.val (.ref a1), .val (.long (q * (1000000 : Int64))), .second] [(.long ((q * (1000000 : Int64)) / (100 : Int64))), (.long (q * (1000000 : Int64)))])) := fun t h => k t (XS.ldiv X4.here hx rfl (hb hby own_d3_16) rfl (by decide) h)
  replace k : own_K p.tables e below (s₁.setTop (entryFrame m #[(.ref a1)] 3)) (T4.setTop (mkF m 18 #[.val (.ref a1), .val (.long (q * (1000000 : Int64))), .second] [(.long ((q * (1000000 : Int64)) - ((q * (1000000 : Int64)) / (100 : Int64))))])) := fun t h => k t (XS.lsub X4.here hx rfl (hb hby own_d3_17) rfl h)
  obtain ⟨T5, X5, e5, st5⟩ := getS2 X4 hx hZ hown (host := "") (Or.inl (hw _ (List.mem_of_getElem? (i := 33) rfl))) Via.refl eq3 S2 (g := (mkF m 18 #[.val (.ref a1), .val (.long (q * (1000000 : Int64))), .second] [(.long ((q * (1000000 : Int64)) - ((q * (1000000 : Int64)) / (100 : Int64))))])) rfl (hb hby own_d3_18)
  replace k : own_K p.tables e below (s₁.setTop (entryFrame m #[(.ref a1)] 3)) (T5.setTop (mkF m 21 #[.val (.ref a1), .val (.long (q * (1000000 : Int64))), .second] [(.long (2000000 : Int64)), (.long ((q * (1000000 : Int64)) - ((q * (1000000 : Int64)) / (100 : Int64))))])) := fun t h => k t (st5 _ h)
  replace k : own_K p.tables e below (s₁.setTop (entryFrame m #[(.ref a1)] 3)) (T5.setTop (mkF m 22 #[.val (.ref a1), .val (.long (q * (1000000 : Int64))), .second] [(.long (((q * (1000000 : Int64)) - ((q * (1000000 : Int64)) / (100 : Int64))) - (2000000 : Int64)))])) := fun t h => k t (XS.lsub X5.here hx rfl (hb hby own_d3_21) rfl h)
  obtain ⟨fs, hr, hrun, hended, hW, hsame⟩ := X5.leave (v := some (.long (((q * (1000000 : Int64)) - ((q * (1000000 : Int64)) / (100 : Int64))) - (2000000 : Int64)))) (fun h => by rw [Bd.returns] at h; cases h)
  refine ⟨_, _, k _ (retOut X5 hx Bd.returns rfl (Or.inr (Or.inl ⟨rfl, rfl, _, rfl⟩)) (hb hby own_d3_22) hr), hrun, hended, _, _, rfl, ?_, ⟨_, rfl⟩, hW, hsame.mono (by decide) (by decide)⟩
  show Q3 Z a1 q ms h0 n0 _ T5.heap _
  rw [e5]
  exact ⟨rfl, N4, rfl⟩
theorem own_pn2 : plainName "com/example/ferrolho/ferrolho/lock/LeaseTimeGetValidNanosPinLaw" = true := by first | (simp [plainName, overriddenIn]; done) | decide +kernel
theorem own_pd1 : parseMethodDescriptor "(J)V" = some ⟨[.long], none⟩ := by decide +kernel
theorem own_pd2 : parseMethodDescriptor "()J" = some ⟨[], some .long⟩ := by decide +kernel
theorem own_ef0 (m : MethodId) (y0 : Int64) : entryFrame m #[(.long y0)] maxLocals = mkF m 0 #[.val (.long y0), .second, .unset, .unset, .unset, .unset, .unset] [] := by first | (simp [entryFrame, mkF, argsToLocals, Value.category, maxLocals]; done) | rfl
def Q0 (Z : State) (q : Int64) (ms : Addr) (h0 : Heap) (n0 : Nat) (v : Option Value) (h : Heap) (L : List Loc) : Prop := v = some (.int 1) ∧ Fr n0 L
set_option maxRecDepth 65536 in
set_option maxHeartbeats 40000000 in
theorem rm0 (l : Launch) (Z : State) (a0 : Array Value) (hw : ∀ d ∈ tables_1, d.before a0 Z = true) (ws : List Jvm.Cond) (q : Int64) (ms : Addr) (h0 : Heap) (n0 : Nat) (Z0 : n0 ≤ h0.size) (S1 : Sta Z h0 "java/util/concurrent/TimeUnit" "MILLISECONDS" "Ljava/util/concurrent/TimeUnit;" (.ref ms)) (EM : Exa Z h0 ms "java/util/concurrent/TimeUnit") (Fs : Fld Z h0 ms "java/util/concurrent/TimeUnit" "scale" "J" (.long (1000000 : Int64))) (Fx : Fld Z h0 ms "java/util/concurrent/TimeUnit" "maxNanos" "J" (.long (9223372036854 : Int64))) (S2 : Sta Z h0 "com/example/ferrolho/ferrolho/lock/LeaseTime" "DRIFT_NANOS" "J" (.long (2000000 : Int64))) :
    MetFree l x (head1 (Jvm.Cond.code x code maxLocals ret :: ws) room_1) (fun aaz U => aaz = #[(.long q)] ∧ Z.Warmed39 U.vm ∧ U.heap = h0) (fun _ _ _ _ _ => True) (fun _ U o U' => ∃ v L, o = .returned v ∧ Q0 Z q ms h0 n0 v U'.heap L ∧ FrameEnd U o U' L room_1.cells room_1.slots) := by
  refine MetFree.of_bodySF (plainFor_of_name own_pn2) hisR ?_
  intro p e s m args below meth c s₁ Bd hml0 hP hK
  obtain ⟨rfl, hZ, hh⟩ := hP
  have hx := Bd.exec
  have hby := Bd.bytes
  have hml : c.maxLocals = 7 := hml0
  have hown : s.vm.findClass "com/example/ferrolho/ferrolho/lock/LeaseTimeGetValidNanosPinLaw" = some m.cls := findClass_of_methodNamed Bd.named
  have hnm := (name_of_methodNamed Bd.named Bd.method).1
  have X0 : Stand p l e room_1 s m #[(.long q)] below meth c s₁ [] 0 0 := Stand.of_body Bd
  have e0 : s₁.heap = h0 := by rw [← hh, Bd.state]; rfl
  have N0 := Fr.nil n0
  have k : own_K p.tables e below (s₁.setTop (entryFrame m #[(.long q)] maxLocals)) (s₁.setTop (mkF m 0 #[.val (.long q), .second, .unset, .unset, .unset, .unset, .unset] [])) := fun t h => castTop (own_ef0 m q) h
  replace k : own_K p.tables e below (s₁.setTop (entryFrame m #[(.long q)] maxLocals)) (s₁.setTop (mkF m 1 #[.val (.long q), .second, .unset, .unset, .unset, .unset, .unset] [(.long (1 : Int64))])) := fun t h => k t (XS.lconst X0.here hx rfl (hb hby at_0) h)
  replace k : own_K p.tables e below (s₁.setTop (entryFrame m #[(.long q)] maxLocals)) (s₁.setTop (mkF m 2 #[.val (.long q), .second, .unset, .unset, .unset, .unset, .unset] [(.long q), (.long (1 : Int64))])) := fun t h => k t (XS.lloadN X0.here hx rfl (hb hby at_1) rfl h)
  replace k : own_K p.tables e below (s₁.setTop (entryFrame m #[(.long q)] maxLocals)) (s₁.setTop (mkF m 5 #[.val (.long q), .second, .unset, .unset, .unset, .unset, .unset] [(.long (9223372036854775807 : Int64)), (.long q), (.long (1 : Int64))])) := fun t h => k t (X0.ldc2Long hx hown (mvT hZ (hw _ (List.mem_of_getElem? (i := 0) rfl))) (g := (mkF m 2 #[.val (.long q), .second, .unset, .unset, .unset, .unset, .unset] [(.long q), (.long (1 : Int64))])) rfl (hb hby at_2) _ h)
  replace k : own_K p.tables e below (s₁.setTop (entryFrame m #[(.long q)] maxLocals)) (s₁.setTop (mkF m 6 #[.val (.long q), .second, .unset, .unset, .unset, .unset, .unset] [(.long (q &&& (9223372036854775807 : Int64))), (.long (1 : Int64))])) := fun t h => k t (XS.land X0.here hx rfl (hb hby at_5) rfl h)
  replace k : own_K p.tables e below (s₁.setTop (entryFrame m #[(.long q)] maxLocals)) (s₁.setTop (mkF m 9 #[.val (.long q), .second, .unset, .unset, .unset, .unset, .unset] [(.long (86400000 : Int64)), (.long (q &&& (9223372036854775807 : Int64))), (.long (1 : Int64))])) := fun t h => k t (X0.ldc2Long hx hown (mvT hZ (hw _ (List.mem_of_getElem? (i := 1) rfl))) (g := (mkF m 6 #[.val (.long q), .second, .unset, .unset, .unset, .unset, .unset] [(.long (q &&& (9223372036854775807 : Int64))), (.long (1 : Int64))])) rfl (hb hby at_6) _ h)
  replace k : own_K p.tables e below (s₁.setTop (entryFrame m #[(.long q)] maxLocals)) (s₁.setTop (mkF m 10 #[.val (.long q), .second, .unset, .unset, .unset, .unset, .unset] [(.long ((q &&& (9223372036854775807 : Int64)) % (86400000 : Int64))), (.long (1 : Int64))])) := fun t h => k t (own_lremM X0 hx rfl (hb hby at_9) rfl (by decide) h)
  replace k : own_K p.tables e below (s₁.setTop (entryFrame m #[(.long q)] maxLocals)) (s₁.setTop (mkF m 11 #[.val (.long q), .second, .unset, .unset, .unset, .unset, .unset] [(.long ((1 : Int64) + ((q &&& (9223372036854775807 : Int64)) % (86400000 : Int64))))])) := fun t h => k t (XS.ladd X0.here hx rfl (hb hby at_10) rfl h)
  obtain ⟨mm, hmm⟩ : ∃ z, z = ((1 : Int64) + ((q &&& (9223372036854775807 : Int64)) % (86400000 : Int64))) := ⟨_, rfl⟩
  rw [← hmm] at k
  replace k : own_K p.tables e below (s₁.setTop (entryFrame m #[(.long q)] maxLocals)) (s₁.setTop (mkF m 12 #[.val (.long q), .second, .val (.long mm), .second, .unset, .unset, .unset] [])) := fun t h => k t (XS.lstoreN X0.here hx rfl (hb hby at_11) rfl (l' := #[.val (.long q), .second, .val (.long mm), .second, .unset, .unset, .unset]) rfl h)
  obtain ⟨T1, h1, X1, e1, E1, A1, D1, -, st1⟩ := newO X0 hx hZ hown (hw _ (List.mem_of_getElem? (i := 2) rfl)) (hw _ (List.mem_of_getElem? (i := 3) rfl)) (hw _ (List.mem_of_getElem? (i := 4) rfl)) e0 (g := (mkF m 12 #[.val (.long q), .second, .val (.long mm), .second, .unset, .unset, .unset] [])) rfl (hb hby at_12) (by decide) (by decide)
  obtain ⟨b1, g1⟩ : ∃ z, z = h0.size := ⟨_, rfl⟩
  rw [← g1] at A1 D1 st1
  have ge_b1 : n0 ≤ b1 := Nat.le_trans Z0 (Nat.le_of_eq g1.symm)
  have Z1 : n0 ≤ h1.size := Nat.le_trans Z0 E1.1
  replace k : own_K p.tables e below (s₁.setTop (entryFrame m #[(.long q)] maxLocals)) (T1.setTop (mkF m 15 #[.val (.long q), .second, .val (.long mm), .second, .unset, .unset, .unset] [(.ref b1)])) := fun t h => k t (st1 _ h)
  have Fm : Fld Z h1 b1 "com/example/ferrolho/ferrolho/lock/LeaseTime" "millis" "J" (.long (0 : Int64)) := D1 (Or.inr (hw _ (List.mem_of_getElem? (i := 13) rfl))) (ty := .long) (by decide)
  replace S1 := S1.ext E1
  replace EM := EM.ext E1
  replace Fs := Fs.ext E1
  replace Fx := Fx.ext E1
  replace S2 := S2.ext E1
  have ne1 : ms ≠ b1 := Exa.ne EM A1 (by decide)
  replace k : own_K p.tables e below (s₁.setTop (entryFrame m #[(.long q)] maxLocals)) (T1.setTop (mkF m 16 #[.val (.long q), .second, .val (.long mm), .second, .unset, .unset, .unset] [(.ref b1), (.ref b1)])) := fun t h => k t (XS.dup X1.here hx rfl (hb hby at_15) rfl rfl h)
  replace k : own_K p.tables e below (s₁.setTop (entryFrame m #[(.long q)] maxLocals)) (T1.setTop (mkF m 17 #[.val (.long q), .second, .val (.long mm), .second, .unset, .unset, .unset] [(.long mm), (.ref b1), (.ref b1)])) := fun t h => k t (XS.lloadN X1.here hx rfl (hb hby at_16) rfl h)
  obtain ⟨hc1, hc2⟩ := own_bounds q
  rw [← hmm] at hc1 hc2
  obtain ⟨hc3, hc4⟩ := own_small mm hc1 hc2
  obtain ⟨_, _, ⟨T2, L2, kk2, n2⟩, -, X2, ⟨Lc2, hQ2, l2, y2, z2⟩, st2⟩ := X1.specialBack hx (y := (⟨"com/example/ferrolho/ferrolho/lock/LeaseTime", "<init>", "(J)V"⟩ : MethodName)) rfl hown (mvT hZ (hw _ (List.mem_of_getElem? (i := 5) rfl))) (mvT hZ (hw _ (List.mem_of_getElem? (i := 6) rfl))) (mvT hZ (hw _ (List.mem_of_getElem? (i := 7) rfl))) (by decide) (backOf (W := 1) (rm1 l Z a0 hw [] b1 mm (.long (0 : Int64)) h1 n0 A1 Fm ge_b1 hc1 hc2) hZ (hw _ (List.mem_of_getElem? (i := 7) rfl)) (hw _ (List.mem_of_getElem? (i := 4) rfl)) (by decide) (by decide)) (g := (mkF m 17 #[.val (.long q), .second, .val (.long mm), .second, .unset, .unset, .unset] [(.long mm), (.ref b1), (.ref b1)])) rfl (by rw [hml]; rfl) (Steps.refl _) (a := b1) (argsL := [(.long mm)]) (rest := [(.ref b1)]) (lenOf own_pd1 rfl) rfl (by show 2 * 0 + _ ≤ _; exact Nat.le_of_eq rfl) (hb hby at_17) (fun _ _ => ⟨rfl, e1, (by decide : 1 + 0 ≤ _), (by decide : 1 + 0 ≤ _)⟩)
  dsimp only [Pt.U, Pt.locs, Pt.cells, Pt.slots] at X2 l2 y2 z2 st2 hQ2
  subst l2 y2 z2
  obtain ⟨rfl, N2q, K2, E2, F2⟩ := hQ2
  have N2 := Fr.app N0 N2q
  replace k : own_K p.tables e below (s₁.setTop (entryFrame m #[(.long q)] maxLocals)) (T2.setTop (mkF m 20 #[.val (.long q), .second, .val (.long mm), .second, .unset, .unset, .unset] [(.ref b1)])) := fun t h => k t (st2.trans h)
  replace S1 := own_staKeep S1 K2 (allS (own_exaNo A1) all0)
  replace S2 := own_staKeep S2 K2 (allS (own_exaNo A1) all0)
  replace EM := EM.keep K2
  replace Fs := Fs.keep K2 (ninS ne1 nin0)
  replace Fx := Fx.keep K2 (ninS ne1 nin0)
  replace k : own_K p.tables e below (s₁.setTop (entryFrame m #[(.long q)] maxLocals)) (T2.setTop (mkF m 22 #[.val (.long q), .second, .val (.long mm), .second, .val (.ref b1), .unset, .unset] [])) := fun t h => k t (XS.astore X2.here hx rfl (hb hby at_20) rfl rfl (l' := #[.val (.long q), .second, .val (.long mm), .second, .val (.ref b1), .unset, .unset]) rfl h)
  replace k : own_K p.tables e below (s₁.setTop (entryFrame m #[(.long q)] maxLocals)) (T2.setTop (mkF m 23 #[.val (.long q), .second, .val (.long mm), .second, .val (.ref b1), .unset, .unset] [(.long mm)])) := fun t h => k t (XS.lloadN X2.here hx rfl (hb hby at_22) rfl h)
  replace k : own_K p.tables e below (s₁.setTop (entryFrame m #[(.long q)] maxLocals)) (T2.setTop (mkF m 26 #[.val (.long q), .second, .val (.long mm), .second, .val (.ref b1), .unset, .unset] [(.long (990000 : Int64)), (.long mm)])) := fun t h => k t (X2.ldc2Long hx hown (mvT hZ (hw _ (List.mem_of_getElem? (i := 14) rfl))) (g := (mkF m 23 #[.val (.long q), .second, .val (.long mm), .second, .val (.ref b1), .unset, .unset] [(.long mm)])) rfl (hb hby at_23) _ h)
  replace k : own_K p.tables e below (s₁.setTop (entryFrame m #[(.long q)] maxLocals)) (T2.setTop (mkF m 27 #[.val (.long q), .second, .val (.long mm), .second, .val (.ref b1), .unset, .unset] [(.long (mm * (990000 : Int64)))])) := fun t h => k t (XS.lmul X2.here hx rfl (hb hby at_26) rfl h)
  replace k : own_K p.tables e below (s₁.setTop (entryFrame m #[(.long q)] maxLocals)) (T2.setTop (mkF m 30 #[.val (.long q), .second, .val (.long mm), .second, .val (.ref b1), .unset, .unset] [(.long (2000000 : Int64)), (.long (mm * (990000 : Int64)))])) := fun t h => k t (X2.ldc2Long hx hown (mvT hZ (hw _ (List.mem_of_getElem? (i := 15) rfl))) (g := (mkF m 27 #[.val (.long q), .second, .val (.long mm), .second, .val (.ref b1), .unset, .unset] [(.long (mm * (990000 : Int64)))])) rfl (hb hby at_27) _ h)
  replace k : own_K p.tables e below (s₁.setTop (entryFrame m #[(.long q)] maxLocals)) (T2.setTop (mkF m 31 #[.val (.long q), .second, .val (.long mm), .second, .val (.ref b1), .unset, .unset] [(.long ((mm * (990000 : Int64)) - (2000000 : Int64)))])) := fun t h => k t (XS.lsub X2.here hx rfl (hb hby at_30) rfl h)
  replace k : own_K p.tables e below (s₁.setTop (entryFrame m #[(.long q)] maxLocals)) (T2.setTop (mkF m 33 #[.val (.long q), .second, .val (.long mm), .second, .val (.ref b1), .val (.long ((mm * (990000 : Int64)) - (2000000 : Int64))), .second] [])) := fun t h => k t (XS.lstore X2.here hx rfl (hb hby at_31) rfl (l' := #[.val (.long q), .second, .val (.long mm), .second, .val (.ref b1), .val (.long ((mm * (990000 : Int64)) - (2000000 : Int64))), .second]) rfl h)
  replace k : own_K p.tables e below (s₁.setTop (entryFrame m #[(.long q)] maxLocals)) (T2.setTop (mkF m 35 #[.val (.long q), .second, .val (.long mm), .second, .val (.ref b1), .val (.long ((mm * (990000 : Int64)) - (2000000 : Int64))), .second] [(.ref b1)])) := fun t h => k t (XS.aload X2.here hx rfl (hb hby at_33) rfl rfl h)
  obtain ⟨cq4, kq4, q4a, q4b, q4c⟩ := isOf hZ rfl E2
  obtain ⟨_, _, ⟨T4, L4, kk4, n4⟩, -, X4, ⟨Lc4, hQ4, l4, y4, z4⟩, st4⟩ := X2.virtualBack hx (y := (⟨"com/example/ferrolho/ferrolho/lock/LeaseTime", "getValidNanos", "()J"⟩ : MethodName)) (z := (⟨"com/example/ferrolho/ferrolho/lock/LeaseTime", "getValidNanos", "()J"⟩ : MethodName)) hown (mvT hZ (hw _ (List.mem_of_getElem? (i := 16) rfl))) (mvT hZ (hw _ (List.mem_of_getElem? (i := 17) rfl))) (notFace_of_selects (args := #[]) (mvT hZ (hw _ (List.mem_of_getElem? (i := 19) rfl)))) (mvT hZ (hw _ (List.mem_of_getElem? (i := 19) rfl))) (mvT hZ (hw _ (List.mem_of_getElem? (i := 18) rfl))) (by decide) (backOf (W := 0) (rm3 l Z a0 hw [] b1 mm ms T2.heap n0 S1 EM Fs Fx S2 F2 hc3 hc4) hZ (hw _ (List.mem_of_getElem? (i := 20) rfl)) (hw _ (List.mem_of_getElem? (i := 4) rfl)) (by decide) (by decide)) q4a q4c (g := (mkF m 35 #[.val (.long q), .second, .val (.long mm), .second, .val (.ref b1), .val (.long ((mm * (990000 : Int64)) - (2000000 : Int64))), .second] [(.ref b1)])) rfl (by rw [hml]; rfl) (Steps.refl _) (argsL := []) (rest := []) (lenOf own_pd2 rfl) rfl (by show 2 * 0 + _ ≤ _; exact Nat.le_of_eq rfl) (hb hby at_35) (fun _ _ => ⟨rfl, rfl, (by decide : 1 + 0 ≤ _), (by decide : 1 + 0 ≤ _)⟩)
  dsimp only [Pt.U, Pt.locs, Pt.cells, Pt.slots] at X4 l4 y4 z4 st4 hQ4
  subst l4 y4 z4
  obtain ⟨rfl, N4q, eq3⟩ := hQ4
  have N4 := Fr.app N2 N4q
  replace k : own_K p.tables e below (s₁.setTop (entryFrame m #[(.long q)] maxLocals)) (T4.setTop (mkF m 38 #[.val (.long q), .second, .val (.long mm), .second, .val (.ref b1), .val (.long ((mm * (990000 : Int64)) - (2000000 : Int64))), .second] [(.long (((mm * (1000000 : Int64)) - ((mm * (1000000 : Int64)) / (100 : Int64))) - (2000000 : Int64)))])) := fun t h => k t (st4.trans h)
  replace k : own_K p.tables e below (s₁.setTop (entryFrame m #[(.long q)] maxLocals)) (T4.setTop (mkF m 40 #[.val (.long q), .second, .val (.long mm), .second, .val (.ref b1), .val (.long ((mm * (990000 : Int64)) - (2000000 : Int64))), .second] [(.long ((mm * (990000 : Int64)) - (2000000 : Int64))), (.long (((mm * (1000000 : Int64)) - ((mm * (1000000 : Int64)) / (100 : Int64))) - (2000000 : Int64)))])) := fun t h => k t (XS.lload X4.here hx rfl (hb hby at_38) rfl h)
  replace k : own_K p.tables e below (s₁.setTop (entryFrame m #[(.long q)] maxLocals)) (T4.setTop (mkF m 41 #[.val (.long q), .second, .val (.long mm), .second, .val (.ref b1), .val (.long ((mm * (990000 : Int64)) - (2000000 : Int64))), .second] [(.int (lcmpW (((mm * (1000000 : Int64)) - ((mm * (1000000 : Int64)) / (100 : Int64))) - (2000000 : Int64)) ((mm * (990000 : Int64)) - (2000000 : Int64))))])) := fun t h => k t (XS.lcmp X4.here hx rfl (hb hby at_40) rfl h)
  replace k : own_K p.tables e below (s₁.setTop (entryFrame m #[(.long q)] maxLocals)) (T4.setTop (mkF m 44 #[.val (.long q), .second, .val (.long mm), .second, .val (.ref b1), .val (.long ((mm * (990000 : Int64)) - (2000000 : Int64))), .second] [])) := fun t h => k t (XS.ifNo X4.here hx rfl (hb hby at_41) rfl ((if0 _ _).trans (teq ((lw_eq _ _).mpr (own_val mm hc1 hc2))).2) h)
  replace k : own_K p.tables e below (s₁.setTop (entryFrame m #[(.long q)] maxLocals)) (T4.setTop (mkF m 45 #[.val (.long q), .second, .val (.long mm), .second, .val (.ref b1), .val (.long ((mm * (990000 : Int64)) - (2000000 : Int64))), .second] [(.int (1 : Int32))])) := fun t h => k t (XS.iconst X4.here hx rfl (hb hby at_44) h)
  replace k : own_K p.tables e below (s₁.setTop (entryFrame m #[(.long q)] maxLocals)) (T4.setTop (mkF m 49 #[.val (.long q), .second, .val (.long mm), .second, .val (.ref b1), .val (.long ((mm * (990000 : Int64)) - (2000000 : Int64))), .second] [(.int (1 : Int32))])) := fun t h => k t (XS.goto X4.here hx rfl (pc0 := 45) (pc' := 49) rfl (hb hby at_45) (by decide) (by decide) h)
  obtain ⟨fs, hr, hrun, hended, hW, hsame⟩ := X4.leave (v := some (.int (1 : Int32))) (fun h => by rw [Bd.returns] at h; cases h)
  refine ⟨_, _, k _ (retOut X4 hx Bd.returns rfl (Or.inl ⟨rfl, by simp [ret], _, rfl⟩) (hb hby at_49) hr), hrun, hended, _, _, rfl, ?_, ⟨_, rfl⟩, hW, hsame.mono (by decide) (by decide)⟩
  show Q0 Z q ms h0 n0 _ T4.heap _
  rw [eq3]
  exact ⟨rfl, N4⟩
set_option maxRecDepth 65536 in
set_option maxHeartbeats 40000000 in
theorem comes_1 {Post : Tables → Env → Array Value → State → Outcome → State → Prop} (hpost : ∀ tb e args s v u, (limb_1_1.after args s (.returned v) u = true ∧ limb_1_2.after args s (.returned v) u = true ∧ True) → FrameEnd s (.returned v) u (Jvm.fieldLocs frame_1_writes args s ++ Jvm.arrayLocs frame_1_arrays args s ++ Jvm.staticLocs frame_1_statics s) 16 128 → Post tb e args s (.returned v) u) :
    ArmFor flags0 classFile x code maxLocals ret World_1 tables_1 room_1 Calls_1 rest_1 Pre_1 Post := by
  intro l hfl _ _ p e ha hc hk s m args below hf hA hF happ hP
  obtain ⟨hcalls, hrest, hpre⟩ := hP
  obtain ⟨-, -, -, hnamed, -, -, -, hat⟩ := (Spec.applies_iff hf).mp happ
  obtain ⟨hg, hn⟩ := and_e (Cond.before_iff.mp (show (Jvm.Cond.and given_1 narrow_1).before args s = true from hpre))
  obtain ⟨hcount, hg⟩ := and_e hg
  obtain ⟨w0, rfl⟩ : ∃ w0 : Value, args = #[w0] := by
    have hs : args.size = 1 := by simpa [Cond.value, given_1] using hcount
    obtain ⟨L⟩ := args
    match L, hs with
    | [w0], _ => exact ⟨w0, rfl⟩
  have hw := fun d (hd : d ∈ tables_1) => atoms_spec (ws := Jvm.Cond.code x code maxLocals ret :: tables_1) hat d (List.mem_cons_of_mem _ hd)
  have hfit : Fit s := fun {y c} hc i hi => by
    obtain ⟨ha, rfl⟩ := Array.getElem?_eq_some_iff.mp hc
    have q := List.all_eq_true.mp ((Array.all_eq_true_iff_forall_mem.mp hF) _ (Array.getElem_mem ha)) i (List.mem_range.mpr hi)
    simpa [Array.getElem?_eq_getElem hi] using q
  obtain ⟨i0, hi0⟩ := isL_v hg
  obtain rfl : w0 = (.long i0) := Option.some.inj hi0
  obtain ⟨hsets, hown0⟩ := atoms_of _ (rest_1_c_eq ▸ (show rest_1_c.before _ s = true from hrest))
  have x2 := Cond.before_iff.mp (hsets _ (List.mem_of_getElem? (i := 2) rfl))
  obtain ⟨ms, ev⟩ := exa_v x2
  have S1 := Sta.start ev (Or.inl (hsets _ (List.mem_of_getElem? (i := 1) rfl)))
  have EM := Exa.start ev x2
  have Fs := own_fldJ ev (Cond.before_iff.mp (hsets _ (List.mem_of_getElem? (i := 5) rfl)))
  have Fx := own_fldJ ev (Cond.before_iff.mp (hsets _ (List.mem_of_getElem? (i := 6) rfl)))
  have S2 : Sta s s.heap "com/example/ferrolho/ferrolho/lock/LeaseTime" "DRIFT_NANOS" "J" (.long (2000000 : Int64)) := Sta.start (Cond.eq_long (Cond.before_iff.mpr hn) rfl) (Or.inr ⟨(hw _ (List.mem_of_getElem? (i := 4) rfl)), (hw _ (List.mem_of_getElem? (i := 34) rfl))⟩)
  obtain ⟨n, o, h1, h2, h3, _, L, rfl, ⟨rfl, N⟩, hq⟩ := rm0 l s _ hw tables_1 i0 ms s.heap s.heap.size (Nat.le_refl _) S1 EM Fs Fx S2 p e ha hc hk s m _ below hf ((Spec.applies_iff_loose hf).mp happ).1 ⟨rfl, State.Warmed39.refl s, rfl⟩ trivial
  refine ⟨n, _, h1, h2, h3, hpost _ _ _ _ _ _ ⟨Cond.after_iff.mpr rfl, Cond.after_iff.mpr (eq_i res_at (Term.int_eval (1)) rfl), trivial⟩ ⟨hq.1, hq.2.1, (hq.2.2.sift fun y hy => Or.inr (N y hy)).mono (by decide) (by decide)⟩⟩
theorem main_1_1 : Claimed_1_1 := comes_1 fun _ _ _ _ _ _ h hF => ⟨h.1, hF⟩
theorem main_1_2 : Claimed_1_2 := comes_1 fun _ _ _ _ _ _ h hF => ⟨h.2.1, hF⟩
end Jvm.Pilot.@@N@@
namespace Jvm.Pilot.@@N@@
open Jvm Jvm.ClassFile Sem Op Lib Jvm.Free Jvm.Stand Jvm.Pilot.@@N@@.Jvm.D
/-! MADE BY PROGRAM (witnessworld.py) out of the Statement's table words and the real class files: 16 classes; the members and pool entries that the words name. The judged class is class 1, her method 1. -/
namespace start1
open Jvm.ClassFile
def u (s : String) : CpInfo := .utf8 (stringToUtf16 s)
/-- a pool by its gaps: so many unusable entries, then the entry; so many at the end -/
def gap : Nat → List CpInfo → List CpInfo
  | 0, r => r
  | n + 1, r => .unusable :: gap n r
def poolList (es : List (Nat × CpInfo)) (last : Nat) : List CpInfo := es.foldr (fun e r => gap e.1 (e.2 :: r)) (gap last [])
def pool (es : List (Nat × CpInfo)) (last : Nat) : Array CpInfo := ⟨poolList es last⟩
def fileOf (pool : Array CpInfo) (this : Nat) (attrs : Array Attribute := #[]) (ms : Array MethodInfo := #[]) (fl : Nat := 33) (sup : Nat := 0) (ifs : Array Nat := #[]) (fds : Array FieldInfo := #[]) : ClassFile where
  minorVersion := 0
  majorVersion := 65
  constantPool := pool
  accessFlags := fl
  thisClass := this
  superClass := sup
  interfaces := ifs
  fields := fds
  methods := ms
  attributes := attrs
def plain (name : String) (sup : Option ClassId) : Class where
  name := name
  kind := .ordinary
  loader := none
  accessFlags := 33
  super := sup
  interfaces := #[]
  cf := none
  fields := #[]
  methods := #[]
  instanceTypes := #[]
  staticTypes := #[]
  resolved := #[]
  callSites := []
  init := .initialized
  statics := none
  mirror := none

def pool0 : Array CpInfo := pool [(5, u "<init>"), (0, u "()V"), (1, .class_ 10), (1, u "java/lang/Object")] 113

def k0c0 : Code := { maxStack := 0, maxLocals := 1, code := object_method_1_code, exceptionTable := #[], attributes := #[] }
def k0m0 : Method := { name := "<init>", desc := "()V", sig := { parameters := [], returnType := none }, accessFlags := 1, code := some k0c0 }
/-- java/lang/Object -/
def k0 : Class := { plain "java/lang/Object" none with
  accessFlags := 33
  interfaces := #[]
  cf := some (fileOf pool0 8 #[] #[{ accessFlags := 1, nameIndex := 5, descriptorIndex := 6, attributes := #[] }] 33 0 #[] #[])
  fields := #[]
  methods := #[k0m0]
  instanceTypes := #[]
  staticTypes := #[]
  resolved := Array.replicate 124 none
  statics := none }

def pool1 : Array CpInfo := pool [(2, .class_ 4), (1, u "java/lang/Object"), (0, u "<init>"), (0, u "()V"), (0, .long 9223372036854775807), (1, .long 86400000), (1, .class_ 12), (0, u "com/example/ferrolho/ferrolho/lock/LeaseTime"), (0, .methodref 11 14), (0, .nameAndType 5 15), (0, u "(J)V"), (0, .long 990000), (1, .long 2000000), (1, .methodref 11 21), (0, .nameAndType 22 23), (0, u "getValidNanos"), (0, u "()J"), (0, .class_ 25), (0, u "com/example/ferrolho/ferrolho/lock/LeaseTimeGetValidNanosPinLaw"), (2, u "law"), (0, u "(J)Z")] 3

def k1m0 : Method := { name := "<init>", desc := "()V", sig := { parameters := [], returnType := none }, accessFlags := 1, code := none }
def k1c1 : Code := { maxStack := 6, maxLocals := 7, code := code, exceptionTable := #[], attributes := #[] }
def k1m1 : Method := { name := "law", desc := "(J)Z", sig := { parameters := [.long], returnType := some .boolean }, accessFlags := 9, code := some k1c1 }
/-- com/example/ferrolho/ferrolho/lock/LeaseTimeGetValidNanosPinLaw -/
def k1 : Class := { plain "com/example/ferrolho/ferrolho/lock/LeaseTimeGetValidNanosPinLaw" (some 0) with
  accessFlags := 49
  interfaces := #[]
  cf := some (fileOf pool1 24 #[] #[{ accessFlags := 1, nameIndex := 5, descriptorIndex := 6, attributes := #[] }, { accessFlags := 9, nameIndex := 28, descriptorIndex := 29, attributes := #[] }] 49 2 #[] #[])
  fields := #[]
  methods := #[k1m0, k1m1]
  instanceTypes := #[]
  staticTypes := #[]
  resolved := Array.replicate 33 none
  statics := none }

def pool2 : Array CpInfo := pool [(1, .methodref 2 3), (0, .class_ 4), (0, .nameAndType 5 6), (0, u "java/lang/Object"), (0, u "<init>"), (0, u "()V"), (0, .class_ 8), (0, u "com/example/ferrolho/ferrolho/lock/LeaseTime"), (0, .long 86400000), (10, .fieldref 7 21), (0, .nameAndType 22 23), (0, u "millis"), (0, u "J"), (0, .fieldref 25 26), (0, .class_ 27), (0, .nameAndType 28 29), (0, u "java/util/concurrent/TimeUnit"), (0, u "MILLISECONDS"), (0, u "Ljava/util/concurrent/TimeUnit;"), (0, .methodref 25 31), (0, .nameAndType 32 33), (0, u "toNanos"), (0, u "(J)J"), (0, .long 100), (1, .fieldref 7 37), (0, .nameAndType 38 23), (0, u "DRIFT_NANOS"), (2, u "MIN_MILLIS"), (3, u "MAX_MILLIS"), (0, u "DRIFT_DIVISOR"), (0, u "(J)V"), (4, u "()J"), (0, u "getValidNanos")] 18

def k2c0 : Code := { maxStack := 4, maxLocals := 3, code := prog_20_method_1_code, exceptionTable := #[], attributes := #[] }
def k2m0 : Method := { name := "<init>", desc := "(J)V", sig := { parameters := [.long], returnType := none }, accessFlags := 1, code := some k2c0 }
def k2c1 : Code := { maxStack := 6, maxLocals := 3, code := prog_20_method_3_code, exceptionTable := #[], attributes := #[] }
def k2m1 : Method := { name := "getValidNanos", desc := "()J", sig := { parameters := [], returnType := some .long }, accessFlags := 1, code := some k2c1 }
/-- com/example/ferrolho/ferrolho/lock/LeaseTime -/
def k2 : Class := { plain "com/example/ferrolho/ferrolho/lock/LeaseTime" (some 0) with
  accessFlags := 33
  interfaces := #[]
  cf := some (fileOf pool2 7 #[] #[{ accessFlags := 1, nameIndex := 5, descriptorIndex := 47, attributes := #[] }, { accessFlags := 1, nameIndex := 53, descriptorIndex := 52, attributes := #[] }] 33 2 #[] #[{ accessFlags := 25, nameIndex := 41, descriptorIndex := 23, attributes := #[] }, { accessFlags := 25, nameIndex := 45, descriptorIndex := 23, attributes := #[] }, { accessFlags := 26, nameIndex := 46, descriptorIndex := 23, attributes := #[] }, { accessFlags := 26, nameIndex := 38, descriptorIndex := 23, attributes := #[] }, { accessFlags := 18, nameIndex := 22, descriptorIndex := 23, attributes := #[] }])
  fields := #[{ name := "MIN_MILLIS", type := .long, accessFlags := 25, slot := 0, constantValue := 0 }, { name := "MAX_MILLIS", type := .long, accessFlags := 25, slot := 1, constantValue := 0 }, { name := "DRIFT_DIVISOR", type := .long, accessFlags := 26, slot := 2, constantValue := 0 }, { name := "DRIFT_NANOS", type := .long, accessFlags := 26, slot := 3, constantValue := 0 }, { name := "millis", type := .long, accessFlags := 18, slot := 0, constantValue := 0 }]
  methods := #[k2m0, k2m1]
  instanceTypes := #[.long]
  staticTypes := #[.long, .long, .long, .long]
  resolved := Array.replicate 72 none
  statics := some 0 }

def pool3 : Array CpInfo := pool [(1, .class_ 2), (0, u "java/lang/constant/Constable"), (0, .class_ 4), (0, u "java/lang/Object")] 6

/-- java/lang/constant/Constable -/
def k3 : Class := { plain "java/lang/constant/Constable" (some 0) with
  accessFlags := 1537
  interfaces := #[]
  cf := some (fileOf pool3 1 #[] #[] 1537 3 #[] #[])
  fields := #[]
  methods := #[]
  instanceTypes := #[]
  staticTypes := #[]
  resolved := Array.replicate 11 none
  statics := none }

def pool4 : Array CpInfo := pool [(1, .class_ 2), (0, u "java/lang/Comparable"), (0, .class_ 4), (0, u "java/lang/Object")] 7

/-- java/lang/Comparable -/
def k4 : Class := { plain "java/lang/Comparable" (some 0) with
  accessFlags := 1537
  interfaces := #[]
  cf := some (fileOf pool4 1 #[] #[] 1537 3 #[] #[])
  fields := #[]
  methods := #[]
  instanceTypes := #[]
  staticTypes := #[]
  resolved := Array.replicate 12 none
  statics := none }

def pool5 : Array CpInfo := pool [(1, .class_ 2), (0, u "java/io/Serializable"), (0, .class_ 4), (0, u "java/lang/Object")] 2

/-- java/io/Serializable -/
def k5 : Class := { plain "java/io/Serializable" (some 0) with
  accessFlags := 1537
  interfaces := #[]
  cf := some (fileOf pool5 1 #[] #[] 1537 3 #[] #[])
  fields := #[]
  methods := #[]
  instanceTypes := #[]
  staticTypes := #[]
  resolved := Array.replicate 7 none
  statics := none }

def pool6 : Array CpInfo := pool [(2, .class_ 4), (1, u "java/lang/Enum"), (0, u "name"), (0, u "Ljava/lang/String;"), (2, u "ordinal"), (0, u "I"), (1, .class_ 14), (1, u "java/lang/Object"), (4, u "hash"), (86, .class_ 108), (1, u "java/lang/Enum$EnumDesc"), (2, .class_ 112), (0, u "java/lang/constant/Constable"), (0, .class_ 114), (0, u "java/lang/Comparable"), (0, .class_ 116), (0, u "java/io/Serializable")] 87

/-- java/lang/Enum -/
def k6 : Class := { plain "java/lang/Enum" (some 0) with
  accessFlags := 1057
  interfaces := #[3, 4, 5]
  cf := some (fileOf pool6 2 #[.nestMembers #[106]] #[] 1057 12 #[111, 113, 115] #[{ accessFlags := 18, nameIndex := 5, descriptorIndex := 6, attributes := #[] }, { accessFlags := 18, nameIndex := 9, descriptorIndex := 10, attributes := #[] }, { accessFlags := 2, nameIndex := 19, descriptorIndex := 10, attributes := #[] }])
  fields := #[{ name := "name", type := (.object "java/lang/String"), accessFlags := 18, slot := 0, constantValue := 0 }, { name := "ordinal", type := .int, accessFlags := 18, slot := 1, constantValue := 0 }, { name := "hash", type := .int, accessFlags := 2, slot := 2, constantValue := 0 }]
  methods := #[]
  instanceTypes := #[(.object "java/lang/String"), .int, .int]
  staticTypes := #[]
  resolved := Array.replicate 204 none
  statics := none }

def pool7 : Array CpInfo := pool [(1, .class_ 2), (0, u "java/util/concurrent/TimeUnit"), (2, u "NANOSECONDS"), (0, u "Ljava/util/concurrent/TimeUnit;"), (2, u "MICROSECONDS"), (2, u "MILLISECONDS"), (2, u "SECONDS"), (2, u "MINUTES"), (2, u "HOURS"), (2, u "DAYS"), (2, u "$VALUES"), (0, u "[Ljava/util/concurrent/TimeUnit;"), (6, .class_ 37), (1, u "java/lang/Enum"), (6, .fieldref 1 45), (0, .nameAndType 46 47), (0, u "scale"), (0, u "J"), (4, .fieldref 1 53), (0, .nameAndType 54 47), (0, u "maxNanos"), (4, u "microRatio"), (2, u "maxMicros"), (4, u "milliRatio"), (0, u "I"), (2, u "maxMillis"), (4, u "secRatio"), (2, u "maxSecs"), (8, u "toNanos"), (0, u "(J)J"), (73, .class_ 165), (1, u "java/util/concurrent/TimeUnit$1"), (46, u "NANO_SCALE"), (3, u "MICRO_SCALE"), (0, u "MILLI_SCALE"), (0, u "SECOND_SCALE"), (0, u "MINUTE_SCALE"), (0, u "HOUR_SCALE"), (0, u "DAY_SCALE")] 61

def k7c0 : Code := { maxStack := 6, maxLocals := 7, code := jdk_2799_method_7_code, exceptionTable := #[], attributes := #[] }
def k7m0 : Method := { name := "toNanos", desc := "(J)J", sig := { parameters := [.long], returnType := some .long }, accessFlags := 1, code := some k7c0 }
/-- java/util/concurrent/TimeUnit -/
def k7 : Class := { plain "java/util/concurrent/TimeUnit" (some 6) with
  accessFlags := 16433
  interfaces := #[]
  cf := some (fileOf pool7 1 #[.nestMembers #[163]] #[{ accessFlags := 1, nameIndex := 88, descriptorIndex := 89, attributes := #[] }] 16433 35 #[] #[{ accessFlags := 16409, nameIndex := 5, descriptorIndex := 6, attributes := #[] }, { accessFlags := 16409, nameIndex := 9, descriptorIndex := 6, attributes := #[] }, { accessFlags := 16409, nameIndex := 12, descriptorIndex := 6, attributes := #[] }, { accessFlags := 16409, nameIndex := 15, descriptorIndex := 6, attributes := #[] }, { accessFlags := 16409, nameIndex := 18, descriptorIndex := 6, attributes := #[] }, { accessFlags := 16409, nameIndex := 21, descriptorIndex := 6, attributes := #[] }, { accessFlags := 16409, nameIndex := 24, descriptorIndex := 6, attributes := #[] }, { accessFlags := 26, nameIndex := 212, descriptorIndex := 47, attributes := #[] }, { accessFlags := 26, nameIndex := 216, descriptorIndex := 47, attributes := #[] }, { accessFlags := 26, nameIndex := 217, descriptorIndex := 47, attributes := #[] }, { accessFlags := 26, nameIndex := 218, descriptorIndex := 47, attributes := #[] }, { accessFlags := 26, nameIndex := 219, descriptorIndex := 47, attributes := #[] }, { accessFlags := 26, nameIndex := 220, descriptorIndex := 47, attributes := #[] }, { accessFlags := 26, nameIndex := 221, descriptorIndex := 47, attributes := #[] }, { accessFlags := 18, nameIndex := 46, descriptorIndex := 47, attributes := #[] }, { accessFlags := 18, nameIndex := 54, descriptorIndex := 47, attributes := #[] }, { accessFlags := 18, nameIndex := 62, descriptorIndex := 47, attributes := #[] }, { accessFlags := 18, nameIndex := 71, descriptorIndex := 47, attributes := #[] }, { accessFlags := 18, nameIndex := 79, descriptorIndex := 47, attributes := #[] }, { accessFlags := 18, nameIndex := 59, descriptorIndex := 47, attributes := #[] }, { accessFlags := 18, nameIndex := 67, descriptorIndex := 68, attributes := #[] }, { accessFlags := 18, nameIndex := 76, descriptorIndex := 68, attributes := #[] }, { accessFlags := 4122, nameIndex := 27, descriptorIndex := 28, attributes := #[] }])
  fields := #[{ name := "NANOSECONDS", type := (.object "java/util/concurrent/TimeUnit"), accessFlags := 16409, slot := 0, constantValue := 0 }, { name := "MICROSECONDS", type := (.object "java/util/concurrent/TimeUnit"), accessFlags := 16409, slot := 1, constantValue := 0 }, { name := "MILLISECONDS", type := (.object "java/util/concurrent/TimeUnit"), accessFlags := 16409, slot := 2, constantValue := 0 }, { name := "SECONDS", type := (.object "java/util/concurrent/TimeUnit"), accessFlags := 16409, slot := 3, constantValue := 0 }, { name := "MINUTES", type := (.object "java/util/concurrent/TimeUnit"), accessFlags := 16409, slot := 4, constantValue := 0 }, { name := "HOURS", type := (.object "java/util/concurrent/TimeUnit"), accessFlags := 16409, slot := 5, constantValue := 0 }, { name := "DAYS", type := (.object "java/util/concurrent/TimeUnit"), accessFlags := 16409, slot := 6, constantValue := 0 }, { name := "NANO_SCALE", type := .long, accessFlags := 26, slot := 7, constantValue := 0 }, { name := "MICRO_SCALE", type := .long, accessFlags := 26, slot := 8, constantValue := 0 }, { name := "MILLI_SCALE", type := .long, accessFlags := 26, slot := 9, constantValue := 0 }, { name := "SECOND_SCALE", type := .long, accessFlags := 26, slot := 10, constantValue := 0 }, { name := "MINUTE_SCALE", type := .long, accessFlags := 26, slot := 11, constantValue := 0 }, { name := "HOUR_SCALE", type := .long, accessFlags := 26, slot := 12, constantValue := 0 }, { name := "DAY_SCALE", type := .long, accessFlags := 26, slot := 13, constantValue := 0 }, { name := "scale", type := .long, accessFlags := 18, slot := 3, constantValue := 0 }, { name := "maxNanos", type := .long, accessFlags := 18, slot := 4, constantValue := 0 }, { name := "maxMicros", type := .long, accessFlags := 18, slot := 5, constantValue := 0 }, { name := "maxMillis", type := .long, accessFlags := 18, slot := 6, constantValue := 0 }, { name := "maxSecs", type := .long, accessFlags := 18, slot := 7, constantValue := 0 }, { name := "microRatio", type := .long, accessFlags := 18, slot := 8, constantValue := 0 }, { name := "milliRatio", type := .int, accessFlags := 18, slot := 9, constantValue := 0 }, { name := "secRatio", type := .int, accessFlags := 18, slot := 10, constantValue := 0 }, { name := "$VALUES", type := (.array (.object "java/util/concurrent/TimeUnit")), accessFlags := 4122, slot := 14, constantValue := 0 }]
  methods := #[k7m0]
  instanceTypes := #[(.object "java/lang/String"), .int, .int, .long, .long, .long, .long, .long, .long, .int, .int]
  staticTypes := #[(.object "java/util/concurrent/TimeUnit"), (.object "java/util/concurrent/TimeUnit"), (.object "java/util/concurrent/TimeUnit"), (.object "java/util/concurrent/TimeUnit"), (.object "java/util/concurrent/TimeUnit"), (.object "java/util/concurrent/TimeUnit"), (.object "java/util/concurrent/TimeUnit"), .long, .long, .long, .long, .long, .long, .long, (.array (.object "java/util/concurrent/TimeUnit"))]
  resolved := Array.replicate 283 none
  statics := some 1 }

def pool8 : Array CpInfo := pool [(2, .class_ 4), (1, u "java/lang/CharSequence"), (42, .class_ 48), (0, u "java/lang/CharSequence$1CodePointIterator"), (10, .class_ 60), (0, u "java/lang/CharSequence$1CharIterator"), (5, .class_ 67), (0, u "java/lang/Object")] 63

/-- java/lang/CharSequence -/
def k8 : Class := { plain "java/lang/CharSequence" (some 0) with
  accessFlags := 1537
  interfaces := #[]
  cf := some (fileOf pool8 2 #[.nestMembers #[47, 59]] #[] 1537 66 #[] #[])
  fields := #[]
  methods := #[]
  instanceTypes := #[]
  staticTypes := #[]
  resolved := Array.replicate 131 none
  statics := none }

def pool9 : Array CpInfo := pool [(1, .class_ 2), (0, u "java/lang/constant/ConstantDesc"), (0, .class_ 4), (0, u "java/lang/Object")] 32

/-- java/lang/constant/ConstantDesc -/
def k9 : Class := { plain "java/lang/constant/ConstantDesc" (some 0) with
  accessFlags := 1537
  interfaces := #[]
  cf := some (fileOf pool9 1 #[] #[] 1537 3 #[] #[])
  fields := #[]
  methods := #[]
  instanceTypes := #[]
  staticTypes := #[]
  resolved := Array.replicate 37 none
  statics := none }

def pool10 : Array CpInfo := pool [(2, .class_ 4), (1, u "java/lang/Object"), (0, u "<init>"), (0, u "()V"), (3, .class_ 12), (1, u "java/lang/String"), (0, u "value"), (0, u "[B"), (2, u "coder"), (0, u "B"), (2, u "hash"), (0, u "I"), (2, u "hashIsZero"), (0, u "Z"), (13, u "COMPACT_STRINGS"), (534, .class_ 576), (0, u "java/lang/CharSequence"), (22, u "CASE_INSENSITIVE_ORDER"), (0, u "Ljava/util/Comparator;"), (500, u "serialPersistentFields"), (0, u "[Ljava/io/ObjectStreamField;"), (0, .class_ 1104), (0, u "java/lang/String$CaseInsensitiveComparator"), (1, .class_ 1107), (0, u "java/io/Serializable"), (0, .class_ 1109), (0, u "java/lang/Comparable"), (0, .class_ 1111), (0, u "java/lang/constant/Constable"), (0, .class_ 1113), (0, u "java/lang/constant/ConstantDesc"), (2, u "serialVersionUID"), (0, u "J"), (3, u "REPL"), (0, u "C"), (2, u "LATIN1"), (1, u "UTF16")] 323

def k10m0 : Method := { name := "<init>", desc := "()V", sig := { parameters := [], returnType := none }, accessFlags := 1, code := none }
/-- java/lang/String -/
def k10 : Class := { plain "java/lang/String" (some 0) with
  accessFlags := 49
  interfaces := #[5, 4, 8, 3, 9]
  cf := some (fileOf pool10 10 #[.nestMembers #[1103]] #[{ accessFlags := 1, nameIndex := 5, descriptorIndex := 6, attributes := #[] }] 49 2 #[1106, 1108, 575, 1110, 1112] #[{ accessFlags := 18, nameIndex := 13, descriptorIndex := 14, attributes := #[] }, { accessFlags := 18, nameIndex := 17, descriptorIndex := 18, attributes := #[] }, { accessFlags := 2, nameIndex := 21, descriptorIndex := 22, attributes := #[] }, { accessFlags := 2, nameIndex := 25, descriptorIndex := 26, attributes := #[] }, { accessFlags := 26, nameIndex := 1116, descriptorIndex := 1117, attributes := #[] }, { accessFlags := 24, nameIndex := 40, descriptorIndex := 26, attributes := #[] }, { accessFlags := 26, nameIndex := 1101, descriptorIndex := 1102, attributes := #[] }, { accessFlags := 26, nameIndex := 1121, descriptorIndex := 1122, attributes := #[] }, { accessFlags := 25, nameIndex := 599, descriptorIndex := 600, attributes := #[] }, { accessFlags := 24, nameIndex := 1125, descriptorIndex := 18, attributes := #[] }, { accessFlags := 24, nameIndex := 1127, descriptorIndex := 18, attributes := #[] }])
  fields := #[{ name := "value", type := (.array .byte), accessFlags := 18, slot := 0, constantValue := 0 }, { name := "coder", type := .byte, accessFlags := 18, slot := 1, constantValue := 0 }, { name := "hash", type := .int, accessFlags := 2, slot := 2, constantValue := 0 }, { name := "hashIsZero", type := .boolean, accessFlags := 2, slot := 3, constantValue := 0 }, { name := "serialVersionUID", type := .long, accessFlags := 26, slot := 0, constantValue := 0 }, { name := "COMPACT_STRINGS", type := .boolean, accessFlags := 24, slot := 1, constantValue := 0 }, { name := "serialPersistentFields", type := (.array (.object "java/io/ObjectStreamField")), accessFlags := 26, slot := 2, constantValue := 0 }, { name := "REPL", type := .char, accessFlags := 26, slot := 3, constantValue := 0 }, { name := "CASE_INSENSITIVE_ORDER", type := (.object "java/util/Comparator"), accessFlags := 25, slot := 4, constantValue := 0 }, { name := "LATIN1", type := .byte, accessFlags := 24, slot := 5, constantValue := 0 }, { name := "UTF16", type := .byte, accessFlags := 24, slot := 6, constantValue := 0 }]
  methods := #[k10m0]
  instanceTypes := #[(.array .byte), .byte, .int, .boolean]
  staticTypes := #[.long, .boolean, (.array (.object "java/io/ObjectStreamField")), .char, (.object "java/util/Comparator"), .byte, .byte]
  resolved := Array.replicate 1451 none
  statics := none }

def pool11 : Array CpInfo := pool [(1, u "java/lang/Cloneable"), (0, .class_ 1), (0, u "java/lang/Object"), (0, .class_ 3)] 3

/-- java/lang/Cloneable -/
def k11 : Class := { plain "java/lang/Cloneable" (some 0) with
  accessFlags := 1537
  interfaces := #[]
  cf := some (fileOf pool11 2 #[] #[] 1537 4 #[] #[])
  fields := #[]
  methods := #[]
  instanceTypes := #[]
  staticTypes := #[]
  resolved := Array.replicate 8 none
  statics := none }

/-- the primitive byte -/
def k12 : Class := { plain "byte" none with kind := .primitive 'B', accessFlags := 0x411 }
/-- [B -/
def k13 : Class := { plain "[B" (some 0) with kind := .array 12 .byte, interfaces := #[11, 5], accessFlags := 1041 }

/-- the primitive int -/
def k14 : Class := { plain "int" none with kind := .primitive 'I', accessFlags := 0x411 }
/-- [I -/
def k15 : Class := { plain "[I" (some 0) with kind := .array 14 .int, interfaces := #[11, 5], accessFlags := 1041 }

def heap : Heap := #[{ cls := 2, slots := #[.long 0, .long 0, .long 0, .long 2000000], vm := .statics 2 },
  { cls := 7, slots := #[.null, .null, .ref 3, .null, .null, .null, .null, .long 0, .long 0, .long 0, .long 0, .long 0, .long 0, .long 0, .null], vm := .statics 7 },
  { cls := 10, slots := #[.null, .int 0, .int 0, .int 0], vm := .none },
  { cls := 7, slots := #[.ref 2, .int 2, .int 0, .long 1000000, .long 9223372036854, .long 9223372036854775, .long 9223372036854775807, .long 9223372036854775, .long 1000, .int 1, .int 1000], vm := .none }]
def classes : Array Class := #[k0, k1, k2, k3, k4, k5, k6, k7, k8, k9, k10, k11, k12, k13, k14, k15]
def interned : List (Array UInt16 × Addr) := []
def slotsUsed : Nat := 34
def theMethod : MethodId := ⟨1, 1⟩
def args0 : Array Value := #[.long 5]
def aboutOver (below : List Frame) : State where
  vm := { classes := classes, interned := interned.toArray }
  heap := heap
  slotsUsed := slotsUsed
  threads := #[{ frames := .invoking theMethod args0 :: below }]
def below0 : List Frame := [.native { method := ⟨0, 0⟩, args := #[] }]
def about1 : State := aboutOver below0
def p0 : Program := .bare "" "" ""
def e0 : Env := launch0.env 0 0 0
theorem w_frames : about1.frames = Frame.invoking theMethod args0 :: below0 := rfl
set_option maxRecDepth 65536 in
theorem w_args : argsFit about1.vm theMethod args0 = true := by decide +kernel
set_option maxRecDepth 65536 in
theorem w_heap : heapFits about1 = true := by decide +kernel
set_option maxRecDepth 65536 in
theorem w_runnable : about1.curStatus? = some .runnable := by decide +kernel
set_option maxRecDepth 65536 in
theorem w_alone : about1.alone = true := by decide +kernel
set_option maxRecDepth 65536 in
theorem w_named : about1.methodNamed? x = some theMethod := by decide +kernel
set_option maxRecDepth 65536 in
theorem w_hears : about1.hears theMethod below0 = true := by decide +kernel
set_option maxRecDepth 65536 in
theorem w_ripe : about1.ripe theMethod args0 below0 = true := by decide +kernel
theorem w_running : about1.status = .running := rfl
set_option maxRecDepth 65536 in
theorem w_room : about1.hasRoom e0.platform room_1 = true :=
  launch0.hasRoom_least _ room_1 (by decide +kernel) (by decide +kernel) (by decide +kernel) (by decide +kernel) (by decide +kernel) (by decide +kernel)
theorem allAtoms_all (ts : List Jvm.Cond) (a : Array Jvm.Value) (st : Jvm.State) : (allAtoms ts).before a st = ts.all (fun c => c.before a st) := by
  induction ts with
  | nil => rfl
  | cons c t ih =>
    show (Jvm.Cond.and c (allAtoms t)).before a st = _
    rw [Jvm.Cond.before_and, ih, List.all_cons]
def words1 : List Jvm.Cond := Jvm.Cond.code x code maxLocals ret :: tables_1
/-- a 'code' word, met by the world's own term for the bytes: nothing is compared byte by byte -/
theorem code_word {y : MethodName} {bytes : ByteArray} {mx : Nat} {rt : Option FieldType} {a : Array Value} {s : State} {m : MethodId} {meth : Method} {c : Code} (h1 : s.methodNamed? y = some m) (h2 : s.vm.method? m = some meth) (h3 : meth.code = some c) (h4 : c.code = bytes)
    (h5 : (c.maxLocals == mx && c.exceptionTable.isEmpty && decide (c.maxStack ≤ mostOperands) && decide (meth.sig.returnType = rt) && !meth.locks && decide (parseMethodDescriptor y.desc = some meth.sig)) = true) : (Jvm.Cond.code y bytes mx rt).before a s = true := by
  simp only [Bool.and_eq_true, beq_iff_eq, Bool.not_eq_true', decide_eq_true_eq] at h5
  obtain ⟨⟨⟨⟨⟨g1, g2⟩, g3⟩, g4⟩, g5⟩, g6⟩ := h5
  simp [Cond.before, Cond.holds, Cond.value, h1, h2, h3, h4, g1, g2, g3, g4, g5, g6]
def isCode : Jvm.Cond → Bool
  | .code _ _ _ _ => true
  | _ => false
theorem all_split {L : List Jvm.Cond} {P : Jvm.Cond → Bool} (h1 : L.all (fun c => isCode c || P c) = true) (h2 : ∀ c ∈ L.filter isCode, P c = true) : L.all P = true := by
  refine List.all_eq_true.mpr fun c hc => ?_
  have h := List.all_eq_true.mp h1 c hc
  rcases Bool.eq_false_or_eq_true (isCode c) with hi | hi
  · exact h2 c (List.mem_filter.mpr ⟨hc, hi⟩)
  · simpa [hi] using h
set_option maxRecDepth 65536 in
theorem w_c0 : (Jvm.Cond.code x code maxLocals ret).before args0 about1 = true := code_word (m := ⟨1, 1⟩) (meth := k1m1) (c := k1c1) (by decide +kernel) rfl rfl rfl (by decide +kernel)
set_option maxRecDepth 65536 in
theorem w_c1 : (Jvm.Cond.code ({ cls := "com/example/ferrolho/ferrolho/lock/LeaseTime", name := "<init>", desc := "(J)V" } : Jvm.MethodName) prog_20_method_1_code (3 : Nat) (Option.none : Option Jvm.ClassFile.FieldType)).before args0 about1 = true := code_word (m := ⟨2, 0⟩) (meth := k2m0) (c := k2c0) (by decide +kernel) rfl rfl rfl (by decide +kernel)
set_option maxRecDepth 65536 in
theorem w_c2 : (Jvm.Cond.code ({ cls := "java/lang/Object", name := "<init>", desc := "()V" } : Jvm.MethodName) object_method_1_code (1 : Nat) (Option.none : Option Jvm.ClassFile.FieldType)).before args0 about1 = true := code_word (m := ⟨0, 0⟩) (meth := k0m0) (c := k0c0) (by decide +kernel) rfl rfl rfl (by decide +kernel)
set_option maxRecDepth 65536 in
theorem w_c3 : (Jvm.Cond.code ({ cls := "com/example/ferrolho/ferrolho/lock/LeaseTime", name := "getValidNanos", desc := "()J" } : Jvm.MethodName) prog_20_method_3_code (3 : Nat) (Option.some Jvm.ClassFile.FieldType.long)).before args0 about1 = true := code_word (m := ⟨2, 1⟩) (meth := k2m1) (c := k2c1) (by decide +kernel) rfl rfl rfl (by decide +kernel)
set_option maxRecDepth 65536 in
theorem w_c4 : (Jvm.Cond.code ({ cls := "java/util/concurrent/TimeUnit", name := "toNanos", desc := "(J)J" } : Jvm.MethodName) jdk_2799_method_7_code (7 : Nat) (Option.some Jvm.ClassFile.FieldType.long)).before args0 about1 = true := code_word (m := ⟨7, 0⟩) (meth := k7m0) (c := k7c0) (by decide +kernel) rfl rfl rfl (by decide +kernel)
def codes1 : List Jvm.Cond := [Jvm.Cond.code x code maxLocals ret, Jvm.Cond.code ({ cls := "com/example/ferrolho/ferrolho/lock/LeaseTime", name := "<init>", desc := "(J)V" } : Jvm.MethodName) prog_20_method_1_code (3 : Nat) (Option.none : Option Jvm.ClassFile.FieldType), Jvm.Cond.code ({ cls := "java/lang/Object", name := "<init>", desc := "()V" } : Jvm.MethodName) object_method_1_code (1 : Nat) (Option.none : Option Jvm.ClassFile.FieldType), Jvm.Cond.code ({ cls := "com/example/ferrolho/ferrolho/lock/LeaseTime", name := "getValidNanos", desc := "()J" } : Jvm.MethodName) prog_20_method_3_code (3 : Nat) (Option.some Jvm.ClassFile.FieldType.long), Jvm.Cond.code ({ cls := "java/util/concurrent/TimeUnit", name := "toNanos", desc := "(J)J" } : Jvm.MethodName) jdk_2799_method_7_code (7 : Nat) (Option.some Jvm.ClassFile.FieldType.long)]
set_option maxRecDepth 65536 in
theorem codes_eq : words1.filter isCode = codes1 := rfl
theorem w_codes : ∀ c ∈ words1.filter isCode, c.before args0 about1 = true := by
  rw [codes_eq]
  intro c hc
  simp only [codes1, List.mem_cons, List.not_mem_nil, or_false] at hc
  rcases hc with rfl | rfl | rfl | rfl | rfl
  · exact w_c0
  · exact w_c1
  · exact w_c2
  · exact w_c3
  · exact w_c4
set_option maxRecDepth 65536 in
theorem w_t1 : (words1.take 24).all (fun c => isCode c || c.before args0 about1) = true := by decide +kernel
set_option maxRecDepth 65536 in
theorem w_t2 : (words1.drop 24).all (fun c => isCode c || c.before args0 about1) = true := by decide +kernel
theorem w_tables : (allAtoms (Jvm.Cond.code x code maxLocals ret :: tables_1)).before args0 about1 = true := by
  rw [allAtoms_all]
  show words1.all (fun c => c.before args0 about1) = true
  refine all_split ?_ w_codes
  rw [← List.take_append_drop 24 words1, List.all_append, w_t1, w_t2]
  rfl
set_option maxRecDepth 65536 in
theorem w_rest : rest_1_c.before args0 about1 = true := by decide +kernel
set_option maxRecDepth 65536 in
theorem w_case : (Jvm.Cond.and given_1 narrow_1).before args0 about1 = true := by decide +kernel
theorem w_applies : (headSpec (Jvm.Cond.code x code maxLocals ret :: tables_1) room_1).applies x e0.platform about1 = true :=
  (Spec.applies_iff w_frames).mpr ⟨w_running, w_runnable, w_alone, w_named, w_hears, w_ripe, w_room, w_tables⟩
theorem atStart : AtStart classFile x code maxLocals ret World_1 tables_1 room_1 Calls_1 rest_1 Pre_1 launch0 p0 e0 about1 theMethod args0 below0 :=
  ⟨lists_1, trivial, launch0.admits_env _ _ _, launch0.least_env, fairChoices_fair.cas, fairChoices_fair.clock, w_frames, w_args, w_heap, w_applies, trivial, w_rest, w_case⟩
end start1
theorem witness_1 : WitnessClaimed_1 := ⟨start1.p0, start1.e0, start1.about1, start1.theMethod, start1.args0, start1.below0, start1.atStart⟩
end Jvm.Pilot.@@N@@
