import JvmDerived
import JvmDerived.Pilot.@@N@@Statement
import JvmDerived.Pilot.@@N@@Code
set_option linter.unusedVariables false
set_option linter.unusedSimpArgs false
namespace Jvm.Pilot.@@N@@
open Jvm Jvm.ClassFile Sem Op Lib Jvm.Free Jvm.Stand Jvm.LawKit Jvm.RoadKit Bundle Jvm.Pilot.@@N@@.Jvm.D
/-- what is reached from S1 is reached from S0 -/
abbrev own_K (tb : Tables) (e : Env) (below : List Frame) (S0 S1 : State) : Prop := ∀ t, Steps tb e below S1 t → Steps tb e below S0 t
section Own
variable {p : Program} {l : Launch} {e : Env} {R : Room} {s : State} {m : MethodId} {args : Array Value} {below : List Frame} {meth : Method} {c : Code} {T : State} {locs : List Loc} {cells slots : Nat} {Z : State} {h h' : Heap}
theorem own_lremM {g : JFrame} {target : State} (X : Stand p l e R s m args below meth c T locs cells slots) (hx : p.tables.exec = Jvm.exec) (hg : g.method = m) {x y : Int64} {rest : List Value} (hd : decode c.code g.pc = .ok (.lrem, 1)) (hs : g.stack = .long y :: .long x :: rest) (hy : y ≠ 0)
    (hr : Steps p.tables e below (T.setTop { g with pc := g.pc + 1, stack := .long (x % y) :: rest }) target) : Steps p.tables e below (T.setTop g) target := by
  have q : x - x / y * y = x % y := lrem_mod x y
  exact XS.lrem X.here hx hg hd hs hy (by rw [q]; exact hr)
/-- a static field rides over a write to cells that hold no statics -/
theorem own_staKeep {C n d : String} {w : Value} {ws : List Addr} (F : Sta Z h C n d w) (K : Keep h h' ws) (q : ∀ x ∈ ws, ∀ cell : Cell, h[x]? = some cell → cell.vm.isStatics = false) : Sta Z h' C n d w := by
  obtain ⟨cf, i, k, f, st, cell, h1, h2, h3, h4, h5, h6, h7⟩ := F
  refine ⟨cf, i, k, f, st, cell, h1, h2, h3, h4, K.2.1 st cell h5 (fun hm => ?_), h6, h7⟩
  rw [q st hm cell h5] at h6; cases h6
theorem own_exaNo {a : Addr} {C : String} (E : Exa Z h a C) : ∀ cell : Cell, h[a]? = some cell → cell.vm.isStatics = false := fun cell q => by
  obtain ⟨c1, _, h1, -, -, h4, -⟩ := E
  cases h1.symm.trans q; exact h4
theorem own_selPriv {y : MethodName} {n : Nat} (wi : (Jvm.Cond.instantiable y.cls n).before args s = true) (wp : s.PrivateAt y) (hinst : (Jvm.Cond.instanceMethod y).before args s = true) (hy : y.cls ≠ "java/lang/invoke/MethodHandle" ∧ y.cls ≠ "java/lang/invoke/VarHandle") : (Jvm.Cond.selects y.cls y y).before args s = true := by
  obtain ⟨c, k, h1, h2, -, h4, -⟩ := Cond.instantiable_spec wi
  exact selects_self_of_private h1 h2 (Bool.or_eq_false_iff.mp h4).1 wp hinst hy
/-- a static that holds an object exactly of a class, out of the case's words -/
theorem own_stat {C n d D : String} (hx : (Jvm.Cond.exactly (.static C n d) D).value args Z none Z [] = some true) (w1 : (Jvm.Cond.initialized C).before args Z = true) (w2 : (Jvm.Cond.laysStatic C n d).before args Z = true) :
    ∃ a, Sta Z Z.heap C n d (.ref a) ∧ Exa Z Z.heap a D ∧ (Term.static C n d).eval args Z none [] Z = some (.ref a) := by
  obtain ⟨a, ev⟩ := exa_v hx
  exact ⟨a, Sta.start ev (Or.inr ⟨w1, w2⟩), Exa.start ev hx, ev⟩
theorem own_fldI {t : Term} {a : Addr} {O n d : String} {k : Int32} (ev : t.eval args Z none [] Z = some (.ref a)) (hq : (Jvm.Cond.eq (.field t O n d) (.int k)).value args Z none Z [] = some true) : Fld Z Z.heap a O n d (.int k) := by
  have q := Cond.eq_int (Cond.before_iff.mpr hq) rfl
  rw [fld_at ev] at q
  exact Fld.start q
theorem own_fldJ {t : Term} {a : Addr} {O n d : String} {k : Int64} (ev : t.eval args Z none [] Z = some (.ref a)) (hq : (Jvm.Cond.eq (.field t O n d) (.long k)).value args Z none Z [] = some true) : Fld Z Z.heap a O n d (.long k) := by
  have q := Cond.eq_long (Cond.before_iff.mpr hq) rfl
  rw [fld_at ev] at q
  exact Fld.start q
end Own
def own_max (x y : Int64) : Int64 := if x < y then y else x
def own_fd (x y : Int64) : Int64 := if (x ^^^ y) < (0 : Int64) then (if ((x / y) * y) = x then (x / y) else ((x / y) - (1 : Int64))) else (x / y)
def own_fw (x y : Int64) : Int64 := if (x % y) < (0 : Int64) then ((x / y) - (1 : Int64)) else (x / y)
def own_win (W d : Int64) : Int64 := if W < d then d else W
def own_adm (W d : Int64) (A : Int32) : Int32 := if W < d then (0 : Int32) else A
def own_room (W d : Int64) (A mx : Int32) : Int32 := if own_adm W d A < mx then 1 else 0
def own_emp (A : Int32) (W d : Int64) : Int32 := if A = (0 : Int32) then 1 else if W < d then 1 else 0
theorem own_z64 : (0 : Int64).toInt = 0 := by decide
theorem own_fd_fw (x y : Int64) (hy : (0 : Int64) < y) : own_fd x y = own_fw x y := by
  have hl := lrem_mod x y
  have hm : (x % y).toInt = x.toInt.tmod y.toInt := Int64.toInt_mod x y
  have ht := tr x.toInt y.toInt
  have z := own_z64
  rw [Int64.lt_iff_toInt_lt, z] at hy
  have e1 := Int.emod_nonneg x.toInt (show y.toInt ≠ 0 by omega)
  have e2 := Int.emod_nonneg (-x.toInt) (show y.toInt ≠ 0 by omega)
  have hx := c_xorSL x y
  have hs := c_lsub x ((x / y) * y)
  rw [hl] at hs
  have r1 := rng64 x
  have r2 := rng64 ((x / y) * y)
  have r3 := rng64 (x % y)
  unfold own_fd own_fw
  simp only [Int64.lt_iff_toInt_lt, ← Int64.toInt_inj, z]
  by_cases c1 : x.toInt < 0
  · have q1 : (x ^^^ y).toInt < 0 := hx.2.1 c1 (by omega)
    rw [if_pos q1]
    have m1 : (x % y).toInt = -((-x.toInt) % y.toInt) := hm.trans (ht.2 c1)
    by_cases c2 : ((x / y) * y).toInt = x.toInt
    · rw [if_pos c2, if_neg (by omega)]
    · rw [if_neg c2, if_pos (by omega)]
  · have q1 : ¬ (x ^^^ y).toInt < 0 := by
      have := hx.2.2.2 (by omega) (by omega)
      omega
    have m1 : (x % y).toInt = x.toInt % y.toInt := hm.trans (ht.1 (by omega))
    rw [if_neg q1, if_neg (by omega)]
theorem own_win_min (d : Int64) : own_win (-9223372036854775808 : Int64) d = d := by
  unfold own_win
  split
  · rfl
  · rename_i q
    rw [Int64.lt_iff_toInt_lt] at q
    rw [← Int64.toInt_inj]
    have t : (-9223372036854775808 : Int64).toInt = -9223372036854775808 := by decide
    have r := rng64 d
    omega
theorem own_win_self (d : Int64) : own_win d d = d := by unfold own_win; split <;> rfl
theorem own_irr (d : Int64) : ¬ d < d := by rw [Int64.lt_iff_toInt_lt]; omega
theorem own_adm0 (W d : Int64) : own_adm W d (0 : Int32) = 0 := by unfold own_adm; split <;> rfl
theorem own_adm1 (d : Int64) (A : Int32) : own_adm d d A = A := by unfold own_adm; rw [if_neg (own_irr d)]
theorem own_mx (a : Int32) : (0 : Int32) < ((a &&& (3 : Int32)) + (1 : Int32)) := by
  have h := c_mask a 3 2 (by decide) (by decide)
  have h2 := c_iadd (a &&& 3) 1
  have r := rng32 ((a &&& 3) + 1)
  have t0 : (0 : Int32).toInt = 0 := by decide
  have t1 : (1 : Int32).toInt = 1 := by decide
  rw [Int32.lt_iff_toInt_lt]
  omega
theorem own_len1 (t : Int64) : (0 : Int64) < ((t &&& (255 : Int64)) + (1 : Int64)) := by
  have h := c_maskL t 255 8 (by decide) (by decide)
  have h2 := c_ladd (t &&& 255) 1
  have r := rng64 ((t &&& 255) + 1)
  have z := own_z64
  have t1 : (1 : Int64).toInt = 1 := by decide
  rw [Int64.lt_iff_toInt_lt]
  omega
theorem own_len2 (t : Int64) : (0 : Int64) < own_max (1 : Int64) t := by
  unfold own_max
  have z := own_z64
  have t1 : (1 : Int64).toInt = 1 := by decide
  split
  · rename_i q
    rw [Int64.lt_iff_toInt_lt] at q ⊢
    omega
  · decide
theorem own_nz {y : Int64} (h : (0 : Int64) < y) : y ≠ 0 := fun q => own_irr 0 (q ▸ h)
theorem own_wS {a0 : Array Value} {Z : State} (hw : ∀ d ∈ tables_1, d.before a0 Z = true) : ∀ a ∈ Bundle.stringAtoms, a.before a0 Z = true := by
  intro a ha
  simp only [Bundle.stringAtoms, Bundle.sN, List.mem_cons, List.not_mem_nil, or_false] at ha
  rcases ha with rfl | rfl | rfl | rfl | rfl | rfl | rfl
  · exact (hw _ (List.mem_of_getElem? (i := 22) rfl))
  · exact (hw _ (List.mem_of_getElem? (i := 23) rfl))
  · exact (hw _ (List.mem_of_getElem? (i := 24) rfl))
  · exact (hw _ (List.mem_of_getElem? (i := 25) rfl))
  · exact (hw _ (List.mem_of_getElem? (i := 26) rfl))
  · exact (hw _ (List.mem_of_getElem? (i := 27) rfl))
  · exact (hw _ (List.mem_of_getElem? (i := 28) rfl))
theorem own_pos64 {x : Int32} (h : (0 : Int32) < x) : (0 : Int64) < x.toInt64 := by
  rw [Int32.lt_iff_toInt_lt] at h
  rw [Int64.lt_iff_toInt_lt, c_i2l]
  have t0 : (0 : Int32).toInt = 0 := by decide
  have t1 : (0 : Int64).toInt = 0 := by decide
  omega
theorem own_pn0 : plainName "java/lang/Record" = true := by first | (simp [plainName, overriddenIn]; done) | decide +kernel
theorem own_d3_0 : decode jdk_30_method_1_code 0 = .ok (.aload_n 0, 1) := by decide +kernel
theorem own_d3_1 : decode jdk_30_method_1_code 1 = .ok (.invokespecial 1, 3) := by decide +kernel
theorem own_d3_4 : decode jdk_30_method_1_code 4 = .ok (.return_, 1) := by decide +kernel
theorem own_ef1 (m : MethodId) (y0 : Addr) : entryFrame m #[(.ref y0)] 1 = mkF m 0 #[.val (.ref y0)] [] := by first | (simp [entryFrame, mkF, argsToLocals, Value.category]; done) | rfl
def Q1 (Z : State) (a1 : Addr) (h0 : Heap) (n0 : Nat) (v : Option Value) (h : Heap) (L : List Loc) : Prop := v = none ∧ Fr n0 L ∧ h = h0
set_option maxRecDepth 65536 in
set_option maxHeartbeats 40000000 in
theorem rm1 (l : Launch) (Z : State) (a0 : Array Value) (hw : ∀ d ∈ tables_1, d.before a0 Z = true) (ws : List Jvm.Cond) (a1 : Addr) (h0 : Heap) (n0 : Nat) :
    MetFree l (⟨"java/lang/Record", "<init>", "()V"⟩ : MethodName) (head1 (Jvm.Cond.code (⟨"java/lang/Record", "<init>", "()V"⟩ : MethodName) jdk_30_method_1_code 1 none :: ws) ({ frames := 1, cells := 0, slots := 0, locals := 12 } : Room)) (fun aaz U => aaz = #[(.ref a1)] ∧ Z.Warmed39 U.vm ∧ U.heap = h0) (fun _ _ _ _ _ => True) (fun _ U o U' => ∃ v L, o = .returned v ∧ Q1 Z a1 h0 n0 v U'.heap L ∧ FrameEnd U o U' L ({ frames := 1, cells := 0, slots := 0, locals := 12 } : Room).cells ({ frames := 1, cells := 0, slots := 0, locals := 12 } : Room).slots) := by
  refine MetFree.of_bodySF (plainFor_of_name own_pn0) hisR ?_
  intro p e s m args below meth cde s₁ Bd hml0 hP hK
  obtain ⟨rfl, hZ, hh⟩ := hP
  have hx := Bd.exec
  have hby := Bd.bytes
  have hml : cde.maxLocals = 1 := hml0
  have hown : s.vm.findClass "java/lang/Record" = some m.cls := findClass_of_methodNamed Bd.named
  have hnm := (name_of_methodNamed Bd.named Bd.method).1
  have X0 : Stand p l e ({ frames := 1, cells := 0, slots := 0, locals := 12 } : Room) s m #[(.ref a1)] below meth cde s₁ [] 0 0 := Stand.of_body Bd
  have e0 : s₁.heap = h0 := by rw [← hh, Bd.state]; rfl
  have N0 := Fr.nil n0
  have k : own_K p.tables e below (s₁.setTop (entryFrame m #[(.ref a1)] 1)) (s₁.setTop (mkF m 0 #[.val (.ref a1)] [])) := fun tt h => castTop (own_ef1 m a1) h
  replace k : own_K p.tables e below (s₁.setTop (entryFrame m #[(.ref a1)] 1)) (s₁.setTop (mkF m 1 #[.val (.ref a1)] [(.ref a1)])) := fun tt h => k tt (XS.aloadN X0.here hx rfl (hb hby own_d3_0) rfl rfl h)
  obtain ⟨T1, X1, e1, st1⟩ := initO X0 hx hZ hown (hw _ (List.mem_of_getElem? (i := 18) rfl)) (hw _ (List.mem_of_getElem? (i := 19) rfl)) (hw _ (List.mem_of_getElem? (i := 20) rfl)) e0 (g := (mkF m 1 #[.val (.ref a1)] [(.ref a1)])) rfl (by rw [hml]; rfl) rfl (hb hby own_d3_1) (by decide) (W := 0) (by show 2 * 0 + _ ≤ _; exact Nat.le_of_eq rfl) (by decide)
  replace k : own_K p.tables e below (s₁.setTop (entryFrame m #[(.ref a1)] 1)) (T1.setTop (mkF m 4 #[.val (.ref a1)] [])) := fun tt h => k tt (st1 _ h)
  obtain ⟨fs, hr, hrun, hended, hW, hsame⟩ := X1.leave (v := none) (fun _ => rfl) Bd.notSynchronized
  refine ⟨_, _, k _ (X1.returnOut hx Bd.returns (hb hby own_d3_4) hr), hrun, hended, _, _, rfl, ?_, ⟨_, rfl⟩, hW, hsame.mono (by decide) (by decide)⟩
  show Q1 Z a1 h0 n0 _ T1.heap _
  rw [e1]
  exact ⟨rfl, N0, rfl⟩
theorem own_pn1 : plainName "com/example/intrvl/intrvl/limit/RateLimiterConfig" = true := by first | (simp [plainName, overriddenIn]; done) | decide +kernel
theorem own_d5_0 : decode prog_13_method_5_code 0 = .ok (.lload_n 1, 1) := by decide +kernel
theorem own_d5_1 : decode prog_13_method_5_code 1 = .ok (.lconst 0, 1) := by decide +kernel
theorem own_d5_2 : decode prog_13_method_5_code 2 = .ok (.lcmp, 1) := by decide +kernel
theorem own_d5_3 : decode prog_13_method_5_code 3 = .ok (.ifCond .gt 18, 3) := by decide +kernel
theorem own_d5_21 : decode prog_13_method_5_code 21 = .ok (.return_, 1) := by decide +kernel
theorem own_ef2 (m : MethodId) (y0 : Addr) (y1 : Int64) : entryFrame m #[(.ref y0), (.long y1)] 3 = mkF m 0 #[.val (.ref y0), .val (.long y1), .second] [] := by first | (simp [entryFrame, mkF, argsToLocals, Value.category]; done) | rfl
def Q2 (Z : State) (s1 : Addr) (q : Int64) (h0 : Heap) (n0 : Nat) (v : Option Value) (h : Heap) (L : List Loc) : Prop := v = none ∧ Fr n0 L ∧ h = h0
set_option maxRecDepth 65536 in
set_option maxHeartbeats 40000000 in
theorem rm2 (l : Launch) (Z : State) (a0 : Array Value) (hw : ∀ d ∈ tables_1, d.before a0 Z = true) (ws : List Jvm.Cond) (s1 : Addr) (q : Int64) (h0 : Heap) (n0 : Nat) (c1 : (0 : Int64) < q) :
    MetFree l (⟨"com/example/intrvl/intrvl/limit/RateLimiterConfig", "requirePositive", "(Ljava/lang/String;J)V"⟩ : MethodName) (head1 (Jvm.Cond.code (⟨"com/example/intrvl/intrvl/limit/RateLimiterConfig", "requirePositive", "(Ljava/lang/String;J)V"⟩ : MethodName) prog_13_method_5_code 3 none :: ws) ({ frames := 0, cells := 0, slots := 0, locals := 0 } : Room)) (fun aaz U => aaz = #[(.ref s1), (.long q)] ∧ Z.Warmed39 U.vm ∧ U.heap = h0) (fun _ _ _ _ _ => True) (fun _ U o U' => ∃ v L, o = .returned v ∧ Q2 Z s1 q h0 n0 v U'.heap L ∧ FrameEnd U o U' L ({ frames := 0, cells := 0, slots := 0, locals := 0 } : Room).cells ({ frames := 0, cells := 0, slots := 0, locals := 0 } : Room).slots) := by
  refine MetFree.of_bodySF (plainFor_of_name own_pn1) hisR ?_
  intro p e s m args below meth cde s₁ Bd hml0 hP hK
  obtain ⟨rfl, hZ, hh⟩ := hP
  have hx := Bd.exec
  have hby := Bd.bytes
  have hml : cde.maxLocals = 3 := hml0
  have hown : s.vm.findClass "com/example/intrvl/intrvl/limit/RateLimiterConfig" = some m.cls := findClass_of_methodNamed Bd.named
  have hnm := (name_of_methodNamed Bd.named Bd.method).1
  have X0 : Stand p l e ({ frames := 0, cells := 0, slots := 0, locals := 0 } : Room) s m #[(.ref s1), (.long q)] below meth cde s₁ [] 0 0 := Stand.of_body Bd
  have e0 : s₁.heap = h0 := by rw [← hh, Bd.state]; rfl
  have N0 := Fr.nil n0
  have k : own_K p.tables e below (s₁.setTop (entryFrame m #[(.ref s1), (.long q)] 3)) (s₁.setTop (mkF m 0 #[.val (.ref s1), .val (.long q), .second] [])) := fun tt h => castTop (own_ef2 m s1 q) h
  replace k : own_K p.tables e below (s₁.setTop (entryFrame m #[(.ref s1), (.long q)] 3)) (s₁.setTop (mkF m 1 #[.val (.ref s1), .val (.long q), .second] [(.long q)])) := fun tt h => k tt (XS.lloadN X0.here hx rfl (hb hby own_d5_0) rfl h)
  replace k : own_K p.tables e below (s₁.setTop (entryFrame m #[(.ref s1), (.long q)] 3)) (s₁.setTop (mkF m 2 #[.val (.ref s1), .val (.long q), .second] [(.long (0 : Int64)), (.long q)])) := fun tt h => k tt (XS.lconst X0.here hx rfl (hb hby own_d5_1) h)
  replace k : own_K p.tables e below (s₁.setTop (entryFrame m #[(.ref s1), (.long q)] 3)) (s₁.setTop (mkF m 3 #[.val (.ref s1), .val (.long q), .second] [(.int (lcmpW q (0 : Int64)))])) := fun tt h => k tt (XS.lcmp X0.here hx rfl (hb hby own_d5_2) rfl h)
  replace k : own_K p.tables e below (s₁.setTop (entryFrame m #[(.ref s1), (.long q)] 3)) (s₁.setTop (mkF m 21 #[.val (.ref s1), .val (.long q), .second] [])) := fun tt h => k tt (XS.ifYes X0.here hx rfl (pc0 := 3) (pc' := 21) rfl (hb hby own_d5_3) rfl ((if0 _ _).trans (tlt ((lw_gt _ _).mpr c1)).2.2.1) (by decide) (by decide) h)
  obtain ⟨fs, hr, hrun, hended, hW, hsame⟩ := X0.leave (v := none) (fun _ => rfl) Bd.notSynchronized
  refine ⟨_, _, k _ (X0.returnOut hx Bd.returns (hb hby own_d5_21) hr), hrun, hended, _, _, rfl, ?_, ⟨_, rfl⟩, hW, hsame.mono (by decide) (by decide)⟩
  show Q2 Z s1 q h0 n0 _ s₁.heap _
  rw [e0]
  exact ⟨rfl, N0, rfl⟩
theorem own_pn2 : plainName "java/util/Objects" = true := by first | (simp [plainName, overriddenIn]; done) | decide +kernel
theorem own_d6_0 : decode jdk_31_method_11_code 0 = .ok (.aload_n 0, 1) := by decide +kernel
theorem own_d6_1 : decode jdk_31_method_11_code 1 = .ok (.ifnonnull 12, 3) := by decide +kernel
theorem own_d6_13 : decode jdk_31_method_11_code 13 = .ok (.aload_n 0, 1) := by decide +kernel
theorem own_d6_14 : decode jdk_31_method_11_code 14 = .ok (.areturn, 1) := by decide +kernel
theorem own_ef3 (m : MethodId) (y0 : Addr) (y1 : Addr) : entryFrame m #[(.ref y0), (.ref y1)] 2 = mkF m 0 #[.val (.ref y0), .val (.ref y1)] [] := by first | (simp [entryFrame, mkF, argsToLocals, Value.category]; done) | rfl
def Q3 (Z : State) (o1 : Addr) (s1 : Addr) (h0 : Heap) (n0 : Nat) (v : Option Value) (h : Heap) (L : List Loc) : Prop := v = some (.ref o1) ∧ Fr n0 L ∧ h = h0
set_option maxRecDepth 65536 in
set_option maxHeartbeats 40000000 in
theorem rm3 (l : Launch) (Z : State) (a0 : Array Value) (hw : ∀ d ∈ tables_1, d.before a0 Z = true) (ws : List Jvm.Cond) (o1 : Addr) (s1 : Addr) (h0 : Heap) (n0 : Nat) :
    MetFree l (⟨"java/util/Objects", "requireNonNull", "(Ljava/lang/Object;Ljava/lang/String;)Ljava/lang/Object;"⟩ : MethodName) (head1 (Jvm.Cond.code (⟨"java/util/Objects", "requireNonNull", "(Ljava/lang/Object;Ljava/lang/String;)Ljava/lang/Object;"⟩ : MethodName) jdk_31_method_11_code 2 (some (.object "java/lang/Object")) :: ws) ({ frames := 0, cells := 0, slots := 0, locals := 0 } : Room)) (fun aaz U => aaz = #[(.ref o1), (.ref s1)] ∧ Z.Warmed39 U.vm ∧ U.heap = h0) (fun _ _ _ _ _ => True) (fun _ U o U' => ∃ v L, o = .returned v ∧ Q3 Z o1 s1 h0 n0 v U'.heap L ∧ FrameEnd U o U' L ({ frames := 0, cells := 0, slots := 0, locals := 0 } : Room).cells ({ frames := 0, cells := 0, slots := 0, locals := 0 } : Room).slots) := by
  refine MetFree.of_bodySF (plainFor_of_name own_pn2) hisR ?_
  intro p e s m args below meth cde s₁ Bd hml0 hP hK
  obtain ⟨rfl, hZ, hh⟩ := hP
  have hx := Bd.exec
  have hby := Bd.bytes
  have hml : cde.maxLocals = 2 := hml0
  have hown : s.vm.findClass "java/util/Objects" = some m.cls := findClass_of_methodNamed Bd.named
  have hnm := (name_of_methodNamed Bd.named Bd.method).1
  have X0 : Stand p l e ({ frames := 0, cells := 0, slots := 0, locals := 0 } : Room) s m #[(.ref o1), (.ref s1)] below meth cde s₁ [] 0 0 := Stand.of_body Bd
  have e0 : s₁.heap = h0 := by rw [← hh, Bd.state]; rfl
  have N0 := Fr.nil n0
  have k : own_K p.tables e below (s₁.setTop (entryFrame m #[(.ref o1), (.ref s1)] 2)) (s₁.setTop (mkF m 0 #[.val (.ref o1), .val (.ref s1)] [])) := fun tt h => castTop (own_ef3 m o1 s1) h
  replace k : own_K p.tables e below (s₁.setTop (entryFrame m #[(.ref o1), (.ref s1)] 2)) (s₁.setTop (mkF m 1 #[.val (.ref o1), .val (.ref s1)] [(.ref o1)])) := fun tt h => k tt (XS.aloadN X0.here hx rfl (hb hby own_d6_0) rfl rfl h)
  replace k : own_K p.tables e below (s₁.setTop (entryFrame m #[(.ref o1), (.ref s1)] 2)) (s₁.setTop (mkF m 13 #[.val (.ref o1), .val (.ref s1)] [])) := fun tt h => k tt (XS.ifnonnullYes X0.here hx rfl (pc0 := 1) (pc' := 13) rfl (hb hby own_d6_1) rfl (by decide) (by decide) h)
  replace k : own_K p.tables e below (s₁.setTop (entryFrame m #[(.ref o1), (.ref s1)] 2)) (s₁.setTop (mkF m 14 #[.val (.ref o1), .val (.ref s1)] [(.ref o1)])) := fun tt h => k tt (XS.aloadN X0.here hx rfl (hb hby own_d6_13) rfl rfl h)
  obtain ⟨fs, hr, hrun, hended, hW, hsame⟩ := X0.leave (v := some (.ref o1)) (fun h => by rw [Bd.returns] at h; cases h) Bd.notSynchronized
  refine ⟨_, _, k _ (retOut X0 hx Bd.returns rfl (Or.inr (Or.inr (Or.inr (Or.inr ⟨rfl, rfl, rfl⟩)))) (hb hby own_d6_14) hr), hrun, hended, _, _, rfl, ?_, ⟨_, rfl⟩, hW, hsame.mono (by decide) (by decide)⟩
  show Q3 Z o1 s1 h0 n0 _ s₁.heap _
  rw [e0]
  exact ⟨rfl, N0, rfl⟩
theorem own_pd0 : parseMethodDescriptor "()V" = some ⟨[], none⟩ := by decide +kernel
theorem own_pd1 : parseMethodDescriptor "(Ljava/lang/String;J)V" = some ⟨[(.object "java/lang/String"), .long], none⟩ := by decide +kernel
theorem own_pd2 : parseMethodDescriptor "(Ljava/lang/Object;Ljava/lang/String;)Ljava/lang/Object;" = some ⟨[(.object "java/lang/Object"), (.object "java/lang/String")], some (.object "java/lang/Object")⟩ := by decide +kernel
theorem own_d2_0 : decode prog_13_method_1_code 0 = .ok (.aload_n 0, 1) := by decide +kernel
theorem own_d2_1 : decode prog_13_method_1_code 1 = .ok (.invokespecial 1, 3) := by decide +kernel
theorem own_d2_4 : decode prog_13_method_1_code 4 = .ok (.ldc 7, 2) := by decide +kernel
theorem own_d2_6 : decode prog_13_method_1_code 6 = .ok (.iload_n 1, 1) := by decide +kernel
theorem own_d2_7 : decode prog_13_method_1_code 7 = .ok (.i2l, 1) := by decide +kernel
theorem own_d2_8 : decode prog_13_method_1_code 8 = .ok (.invokestatic 9, 3) := by decide +kernel
theorem own_d2_11 : decode prog_13_method_1_code 11 = .ok (.ldc 15, 2) := by decide +kernel
theorem own_d2_13 : decode prog_13_method_1_code 13 = .ok (.lload_n 2, 1) := by decide +kernel
theorem own_d2_14 : decode prog_13_method_1_code 14 = .ok (.invokestatic 9, 3) := by decide +kernel
theorem own_d2_17 : decode prog_13_method_1_code 17 = .ok (.aload 4, 2) := by decide +kernel
theorem own_d2_19 : decode prog_13_method_1_code 19 = .ok (.ldc 17, 2) := by decide +kernel
theorem own_d2_21 : decode prog_13_method_1_code 21 = .ok (.invokestatic 19, 3) := by decide +kernel
theorem own_d2_24 : decode prog_13_method_1_code 24 = .ok (.pop, 1) := by decide +kernel
theorem own_d2_25 : decode prog_13_method_1_code 25 = .ok (.ldc 25, 2) := by decide +kernel
theorem own_d2_27 : decode prog_13_method_1_code 27 = .ok (.iload 5, 2) := by decide +kernel
theorem own_d2_29 : decode prog_13_method_1_code 29 = .ok (.i2l, 1) := by decide +kernel
theorem own_d2_30 : decode prog_13_method_1_code 30 = .ok (.invokestatic 9, 3) := by decide +kernel
theorem own_d2_33 : decode prog_13_method_1_code 33 = .ok (.aload_n 0, 1) := by decide +kernel
theorem own_d2_34 : decode prog_13_method_1_code 34 = .ok (.iload_n 1, 1) := by decide +kernel
theorem own_d2_35 : decode prog_13_method_1_code 35 = .ok (.putfield 27, 3) := by decide +kernel
theorem own_d2_38 : decode prog_13_method_1_code 38 = .ok (.aload_n 0, 1) := by decide +kernel
theorem own_d2_39 : decode prog_13_method_1_code 39 = .ok (.lload_n 2, 1) := by decide +kernel
theorem own_d2_40 : decode prog_13_method_1_code 40 = .ok (.putfield 30, 3) := by decide +kernel
theorem own_d2_43 : decode prog_13_method_1_code 43 = .ok (.aload_n 0, 1) := by decide +kernel
theorem own_d2_44 : decode prog_13_method_1_code 44 = .ok (.aload 4, 2) := by decide +kernel
theorem own_d2_46 : decode prog_13_method_1_code 46 = .ok (.putfield 33, 3) := by decide +kernel
theorem own_d2_49 : decode prog_13_method_1_code 49 = .ok (.aload_n 0, 1) := by decide +kernel
theorem own_d2_50 : decode prog_13_method_1_code 50 = .ok (.iload 5, 2) := by decide +kernel
theorem own_d2_52 : decode prog_13_method_1_code 52 = .ok (.putfield 36, 3) := by decide +kernel
theorem own_d2_55 : decode prog_13_method_1_code 55 = .ok (.return_, 1) := by decide +kernel
theorem own_ef4 (m : MethodId) (y0 : Addr) (y1 : Int32) (y2 : Int64) (y3 : Addr) (y4 : Int32) : entryFrame m #[(.ref y0), (.int y1), (.long y2), (.ref y3), (.int y4)] 6 = mkF m 0 #[.val (.ref y0), .val (.int y1), .val (.long y2), .second, .val (.ref y3), .val (.int y4)] [] := by first | (simp [entryFrame, mkF, argsToLocals, Value.category]; done) | rfl
def Q4 (Z : State) (a1 : Addr) (mx : Int32) (tw : Int64) (ty : Addr) (bu : Int32) (u0 : Value) (u1 : Value) (u2 : Value) (u3 : Value) (h0 : Heap) (n0 : Nat) (v : Option Value) (h : Heap) (L : List Loc) : Prop := v = none ∧ Fr n0 L ∧ Keep h0 h [a1] ∧ Exa Z h a1 "com/example/intrvl/intrvl/limit/RateLimiterConfig" ∧ Fld Z h a1 "com/example/intrvl/intrvl/limit/RateLimiterConfig" "maxRequests" "I" (.int mx) ∧ Fld Z h a1 "com/example/intrvl/intrvl/limit/RateLimiterConfig" "timeWindowMillis" "J" (.long tw)
set_option maxRecDepth 65536 in
set_option maxHeartbeats 40000000 in
theorem rm4 (l : Launch) (Z : State) (a0 : Array Value) (hw : ∀ d ∈ tables_1, d.before a0 Z = true) (ws : List Jvm.Cond) (a1 : Addr) (mx : Int32) (tw : Int64) (ty : Addr) (bu : Int32) (u0 : Value) (u1 : Value) (u2 : Value) (u3 : Value) (h0 : Heap) (n0 : Nat) (E1 : Exa Z h0 a1 "com/example/intrvl/intrvl/limit/RateLimiterConfig") (g1 : n0 ≤ a1) (c1 : (0 : Int32) < mx) (c2 : (0 : Int64) < tw) (F_maxRequests : Fld Z h0 a1 "com/example/intrvl/intrvl/limit/RateLimiterConfig" "maxRequests" "I" u0) (F_timeWindowMillis : Fld Z h0 a1 "com/example/intrvl/intrvl/limit/RateLimiterConfig" "timeWindowMillis" "J" u1) (F_type : Fld Z h0 a1 "com/example/intrvl/intrvl/limit/RateLimiterConfig" "type" "Lcom/example/intrvl/intrvl/limit/RateLimiterType;" u2) (F_burst : Fld Z h0 a1 "com/example/intrvl/intrvl/limit/RateLimiterConfig" "burst" "I" u3) (c3 : (0 : Int32) < bu) :
    MetFree l (⟨"com/example/intrvl/intrvl/limit/RateLimiterConfig", "<init>", "(IJLcom/example/intrvl/intrvl/limit/RateLimiterType;I)V"⟩ : MethodName) (head1 (Jvm.Cond.code (⟨"com/example/intrvl/intrvl/limit/RateLimiterConfig", "<init>", "(IJLcom/example/intrvl/intrvl/limit/RateLimiterType;I)V"⟩ : MethodName) prog_13_method_1_code 6 none :: ws) ({ frames := 2, cells := 8, slots := 160, locals := 24 } : Room)) (fun aaz U => aaz = #[(.ref a1), (.int mx), (.long tw), (.ref ty), (.int bu)] ∧ Z.Warmed39 U.vm ∧ U.heap = h0) (fun _ _ _ _ _ => True) (fun _ U o U' => ∃ v L, o = .returned v ∧ Q4 Z a1 mx tw ty bu u0 u1 u2 u3 h0 n0 v U'.heap L ∧ ReturnedEndW U o U' L ({ frames := 2, cells := 8, slots := 160, locals := 24 } : Room).cells ({ frames := 2, cells := 8, slots := 160, locals := 24 } : Room).slots) := by
  refine MetFree.of_bodySF (plainFor_of_name own_pn1) hisR ?_
  intro p e s m args below meth cde s₁ Bd hml0 hP hK
  obtain ⟨rfl, hZ, hh⟩ := hP
  have hx := Bd.exec
  have hby := Bd.bytes
  have hml : cde.maxLocals = 6 := hml0
  have hown : (s.setVm s.vm).vm.findClass "com/example/intrvl/intrvl/limit/RateLimiterConfig" = some m.cls := findClass_of_methodNamed Bd.named
  have hZ : Z.Warmed39 (s.setVm s.vm).vm := hZ
  have hnm := (name_of_methodNamed Bd.named Bd.method).1
  have X0 : Stand p l e ({ frames := 2, cells := 8, slots := 160, locals := 24 } : Room) (s.setVm s.vm) m #[(.ref a1), (.int mx), (.long tw), (.ref ty), (.int bu)] below meth cde s₁ [] 0 0 := Stand.of_body Bd
  have e0 : s₁.heap = h0 := by rw [← hh, Bd.state]; rfl
  have N0 := Fr.nil n0
  have hS0 : s.Since s.vm h0.size := (State.WarmedH.refl s).since _
  have hk0 : h0.size ≤ h0.size := Nat.le_refl _
  have k : own_K p.tables e below (s₁.setTop (entryFrame m #[(.ref a1), (.int mx), (.long tw), (.ref ty), (.int bu)] 6)) (s₁.setTop (mkF m 0 #[.val (.ref a1), .val (.int mx), .val (.long tw), .second, .val (.ref ty), .val (.int bu)] [])) := fun tt h => castTop (own_ef4 m a1 mx tw ty bu) h
  have K1 : Keep h0 h0 [a1] := Keep.refl h0 [a1]
  replace k : own_K p.tables e below (s₁.setTop (entryFrame m #[(.ref a1), (.int mx), (.long tw), (.ref ty), (.int bu)] 6)) (s₁.setTop (mkF m 1 #[.val (.ref a1), .val (.int mx), .val (.long tw), .second, .val (.ref ty), .val (.int bu)] [(.ref a1)])) := fun tt h => k tt (XS.aloadN X0.here hx rfl (hb hby own_d2_0) rfl rfl h)
  obtain ⟨_, _, ⟨T2, L2, kk2, n2⟩, -, X2, ⟨Lc2, hQ2, l2, y2, z2⟩, st2⟩ := X0.specialBack hx (y := (⟨"java/lang/Record", "<init>", "()V"⟩ : MethodName)) rfl hown (mvT hZ (hw _ (List.mem_of_getElem? (i := 13) rfl))) (mvT hZ (hw _ (List.mem_of_getElem? (i := 14) rfl))) (mvT hZ (hw _ (List.mem_of_getElem? (i := 17) rfl))) (by decide) (backOf (W := 0) (rm1 l Z a0 hw [] a1 h0 n0) hZ (hw _ (List.mem_of_getElem? (i := 17) rfl)) (hw _ (List.mem_of_getElem? (i := 16) rfl)) (by decide) (by decide)) (g := (mkF m 1 #[.val (.ref a1), .val (.int mx), .val (.long tw), .second, .val (.ref ty), .val (.int bu)] [(.ref a1)])) rfl (by rw [hml]; rfl) (Steps.refl _) (a := a1) (argsL := []) (rest := []) (lenOf own_pd0 rfl) rfl (by show 2 * 0 + _ ≤ _; exact Nat.le_of_eq rfl) (hb hby own_d2_1) (fun _ _ => ⟨rfl, e0, (by decide : 0 + 0 ≤ _), (by decide : 0 + 0 ≤ _)⟩)
  dsimp only [Pt.U, Pt.locs, Pt.cells, Pt.slots] at X2 l2 y2 z2 st2 hQ2
  rw [l2, y2, z2] at X2
  obtain ⟨rfl, N2q, eq1⟩ := hQ2
  have N2 := Fr.app N0 N2q
  replace k : own_K p.tables e below (s₁.setTop (entryFrame m #[(.ref a1), (.int mx), (.long tw), (.ref ty), (.int bu)] 6)) (T2.setTop (mkF m 4 #[.val (.ref a1), .val (.int mx), .val (.long tw), .second, .val (.ref ty), .val (.int bu)] [])) := fun tt h => k tt (st2.trans h)
  obtain ⟨b3, T3, h3, k3, X3, e3, E3, hS3, hk3, hZ3, hown3, st3⟩ := ldcS X2 hx hZ hown (hw _ (List.mem_of_getElem? (i := 21) rfl)) (own_wS hw) eq1 hS0 hk0 (g := (mkF m 4 #[.val (.ref a1), .val (.int mx), .val (.long tw), .second, .val (.ref ty), .val (.int bu)] [])) rfl (hb hby own_d2_4) (n := 44) (by first | decide | decide +kernel | simp) (by decide) (by decide) (by decide)
  replace k : own_K p.tables e below (s₁.setTop (entryFrame m #[(.ref a1), (.int mx), (.long tw), (.ref ty), (.int bu)] 6)) (T3.setTop (mkF m 6 #[.val (.ref a1), .val (.int mx), .val (.long tw), .second, .val (.ref ty), .val (.int bu)] [(.ref b3)])) := fun tt h => k tt (st3 _ h)
  replace E1 := E1.ext E3
  replace F_maxRequests := F_maxRequests.ext E3
  replace F_timeWindowMillis := F_timeWindowMillis.ext E3
  replace F_type := F_type.ext E3
  replace F_burst := F_burst.ext E3
  replace K1 := K1.ext E3
  replace k : own_K p.tables e below (s₁.setTop (entryFrame m #[(.ref a1), (.int mx), (.long tw), (.ref ty), (.int bu)] 6)) (T3.setTop (mkF m 7 #[.val (.ref a1), .val (.int mx), .val (.long tw), .second, .val (.ref ty), .val (.int bu)] [(.int mx), (.ref b3)])) := fun tt h => k tt (XS.iloadN X3.here hx rfl (hb hby own_d2_6) rfl h)
  replace k : own_K p.tables e below (s₁.setTop (entryFrame m #[(.ref a1), (.int mx), (.long tw), (.ref ty), (.int bu)] 6)) (T3.setTop (mkF m 8 #[.val (.ref a1), .val (.int mx), .val (.long tw), .second, .val (.ref ty), .val (.int bu)] [(.long (mx.toInt64)), (.ref b3)])) := fun tt h => k tt (XS.i2l X3.here hx rfl (hb hby own_d2_7) rfl h)
  obtain ⟨_, _, ⟨T5, L5, kk5, n5⟩, -, X5, ⟨Lc5, hQ5, l5, y5, z5⟩, st5⟩ := Jvm.LawKit.callS X3 hx (y := (⟨"com/example/intrvl/intrvl/limit/RateLimiterConfig", "requirePositive", "(Ljava/lang/String;J)V"⟩ : MethodName)) hown3 (mvT hZ3 (hw _ (List.mem_of_getElem? (i := 29) rfl))) (mvT hZ3 (hw _ (List.mem_of_getElem? (i := 30) rfl))) (mvT hZ3 (hw _ (List.mem_of_getElem? (i := 3) rfl))) (mvT hZ3 (hw _ (List.mem_of_getElem? (i := 31) rfl))) (by decide) (backOf (W := 0) (rm2 l Z a0 hw [] b3 mx.toInt64 h3 n0 (own_pos64 c1)) hZ3 (hw _ (List.mem_of_getElem? (i := 31) rfl)) (hw _ (List.mem_of_getElem? (i := 3) rfl)) (by decide) (by decide)) (g := (mkF m 8 #[.val (.ref a1), .val (.int mx), .val (.long tw), .second, .val (.ref ty), .val (.int bu)] [(.long (mx.toInt64)), (.ref b3)])) rfl (by rw [hml]; rfl) (argsL := [(.ref b3), (.long (mx.toInt64))]) (rest := []) (lenOf own_pd1 rfl) rfl (by show 2 * 0 + _ ≤ _; exact Nat.le_of_eq rfl) (hb hby own_d2_8) (fun _ _ => ⟨rfl, e3, (by decide : 2 + 0 ≤ _), (by decide : 48 + 0 ≤ _)⟩)
  dsimp only [Pt.U, Pt.locs, Pt.cells, Pt.slots] at X5 l5 y5 z5 st5 hQ5
  rw [l5, y5, z5] at X5
  obtain ⟨rfl, N5q, eq4⟩ := hQ5
  have N5 := Fr.app N2 N5q
  replace k : own_K p.tables e below (s₁.setTop (entryFrame m #[(.ref a1), (.int mx), (.long tw), (.ref ty), (.int bu)] 6)) (T5.setTop (mkF m 11 #[.val (.ref a1), .val (.int mx), .val (.long tw), .second, .val (.ref ty), .val (.int bu)] [])) := fun tt h => k tt (st5 _ h)
  obtain ⟨b6, T6, h6, k6, X6, e6, E6, hS6, hk6, hZ6, hown6, st6⟩ := ldcS X5 hx hZ3 hown3 (hw _ (List.mem_of_getElem? (i := 32) rfl)) (own_wS hw) eq4 hS3 hk3 (g := (mkF m 11 #[.val (.ref a1), .val (.int mx), .val (.long tw), .second, .val (.ref ty), .val (.int bu)] [])) rfl (hb hby own_d2_11) (n := 64) (by first | decide | decide +kernel | simp) (by decide) (by decide) (by decide)
  replace k : own_K p.tables e below (s₁.setTop (entryFrame m #[(.ref a1), (.int mx), (.long tw), (.ref ty), (.int bu)] 6)) (T6.setTop (mkF m 13 #[.val (.ref a1), .val (.int mx), .val (.long tw), .second, .val (.ref ty), .val (.int bu)] [(.ref b6)])) := fun tt h => k tt (st6 _ h)
  replace E1 := E1.ext E6
  replace F_maxRequests := F_maxRequests.ext E6
  replace F_timeWindowMillis := F_timeWindowMillis.ext E6
  replace F_type := F_type.ext E6
  replace F_burst := F_burst.ext E6
  replace K1 := K1.ext E6
  replace k : own_K p.tables e below (s₁.setTop (entryFrame m #[(.ref a1), (.int mx), (.long tw), (.ref ty), (.int bu)] 6)) (T6.setTop (mkF m 14 #[.val (.ref a1), .val (.int mx), .val (.long tw), .second, .val (.ref ty), .val (.int bu)] [(.long tw), (.ref b6)])) := fun tt h => k tt (XS.lloadN X6.here hx rfl (hb hby own_d2_13) rfl h)
  obtain ⟨_, _, ⟨T8, L8, kk8, n8⟩, -, X8, ⟨Lc8, hQ8, l8, y8, z8⟩, st8⟩ := Jvm.LawKit.callS X6 hx (y := (⟨"com/example/intrvl/intrvl/limit/RateLimiterConfig", "requirePositive", "(Ljava/lang/String;J)V"⟩ : MethodName)) hown6 (mvT hZ6 (hw _ (List.mem_of_getElem? (i := 29) rfl))) (mvT hZ6 (hw _ (List.mem_of_getElem? (i := 30) rfl))) (mvT hZ6 (hw _ (List.mem_of_getElem? (i := 3) rfl))) (mvT hZ6 (hw _ (List.mem_of_getElem? (i := 31) rfl))) (by decide) (backOf (W := 0) (rm2 l Z a0 hw [] b6 tw h6 n0 c2) hZ6 (hw _ (List.mem_of_getElem? (i := 31) rfl)) (hw _ (List.mem_of_getElem? (i := 3) rfl)) (by decide) (by decide)) (g := (mkF m 14 #[.val (.ref a1), .val (.int mx), .val (.long tw), .second, .val (.ref ty), .val (.int bu)] [(.long tw), (.ref b6)])) rfl (by rw [hml]; rfl) (argsL := [(.ref b6), (.long tw)]) (rest := []) (lenOf own_pd1 rfl) rfl (by show 2 * 0 + _ ≤ _; exact Nat.le_of_eq rfl) (hb hby own_d2_14) (fun _ _ => ⟨rfl, e6, (by decide : 4 + 0 ≤ _), (by decide : 116 + 0 ≤ _)⟩)
  dsimp only [Pt.U, Pt.locs, Pt.cells, Pt.slots] at X8 l8 y8 z8 st8 hQ8
  rw [l8, y8, z8] at X8
  obtain ⟨rfl, N8q, eq7⟩ := hQ8
  have N8 := Fr.app N5 N8q
  replace k : own_K p.tables e below (s₁.setTop (entryFrame m #[(.ref a1), (.int mx), (.long tw), (.ref ty), (.int bu)] 6)) (T8.setTop (mkF m 17 #[.val (.ref a1), .val (.int mx), .val (.long tw), .second, .val (.ref ty), .val (.int bu)] [])) := fun tt h => k tt (st8 _ h)
  replace k : own_K p.tables e below (s₁.setTop (entryFrame m #[(.ref a1), (.int mx), (.long tw), (.ref ty), (.int bu)] 6)) (T8.setTop (mkF m 19 #[.val (.ref a1), .val (.int mx), .val (.long tw), .second, .val (.ref ty), .val (.int bu)] [(.ref ty)])) := fun tt h => k tt (XS.aload X8.here hx rfl (hb hby own_d2_17) rfl rfl h)
  obtain ⟨b9, T9, h9, k9, X9, e9, E9, hS9, hk9, hZ9, hown9, st9⟩ := ldcS X8 hx hZ6 hown6 (hw _ (List.mem_of_getElem? (i := 33) rfl)) (own_wS hw) eq7 hS6 hk6 (g := (mkF m 19 #[.val (.ref a1), .val (.int mx), .val (.long tw), .second, .val (.ref ty), .val (.int bu)] [(.ref ty)])) rfl (hb hby own_d2_19) (n := 16) (by first | decide | decide +kernel | simp) (by decide) (by decide) (by decide)
  replace k : own_K p.tables e below (s₁.setTop (entryFrame m #[(.ref a1), (.int mx), (.long tw), (.ref ty), (.int bu)] 6)) (T9.setTop (mkF m 21 #[.val (.ref a1), .val (.int mx), .val (.long tw), .second, .val (.ref ty), .val (.int bu)] [(.ref b9), (.ref ty)])) := fun tt h => k tt (st9 _ h)
  replace E1 := E1.ext E9
  replace F_maxRequests := F_maxRequests.ext E9
  replace F_timeWindowMillis := F_timeWindowMillis.ext E9
  replace F_type := F_type.ext E9
  replace F_burst := F_burst.ext E9
  replace K1 := K1.ext E9
  obtain ⟨_, _, ⟨T11, L11, kk11, n11⟩, -, X11, ⟨Lc11, hQ11, l11, y11, z11⟩, st11⟩ := Jvm.LawKit.callS X9 hx (y := (⟨"java/util/Objects", "requireNonNull", "(Ljava/lang/Object;Ljava/lang/String;)Ljava/lang/Object;"⟩ : MethodName)) hown9 (mvT hZ9 (hw _ (List.mem_of_getElem? (i := 34) rfl))) (mvT hZ9 (hw _ (List.mem_of_getElem? (i := 35) rfl))) (mvT hZ9 (hw _ (List.mem_of_getElem? (i := 36) rfl))) (mvT hZ9 (hw _ (List.mem_of_getElem? (i := 37) rfl))) (by decide) (backOf (W := 0) (rm3 l Z a0 hw [] ty b9 h9 n0) hZ9 (hw _ (List.mem_of_getElem? (i := 37) rfl)) (hw _ (List.mem_of_getElem? (i := 36) rfl)) (by decide) (by decide)) (g := (mkF m 21 #[.val (.ref a1), .val (.int mx), .val (.long tw), .second, .val (.ref ty), .val (.int bu)] [(.ref b9), (.ref ty)])) rfl (by rw [hml]; rfl) (argsL := [(.ref ty), (.ref b9)]) (rest := []) (lenOf own_pd2 rfl) rfl (by show 2 * 0 + _ ≤ _; exact Nat.le_of_eq rfl) (hb hby own_d2_21) (fun _ _ => ⟨rfl, e9, (by decide : 6 + 0 ≤ _), (by decide : 136 + 0 ≤ _)⟩)
  dsimp only [Pt.U, Pt.locs, Pt.cells, Pt.slots] at X11 l11 y11 z11 st11 hQ11
  rw [l11, y11, z11] at X11
  obtain ⟨rfl, N11q, eq10⟩ := hQ11
  have N11 := Fr.app N8 N11q
  replace k : own_K p.tables e below (s₁.setTop (entryFrame m #[(.ref a1), (.int mx), (.long tw), (.ref ty), (.int bu)] 6)) (T11.setTop (mkF m 24 #[.val (.ref a1), .val (.int mx), .val (.long tw), .second, .val (.ref ty), .val (.int bu)] [(.ref ty)])) := fun tt h => k tt (st11 _ h)
  replace k : own_K p.tables e below (s₁.setTop (entryFrame m #[(.ref a1), (.int mx), (.long tw), (.ref ty), (.int bu)] 6)) (T11.setTop (mkF m 25 #[.val (.ref a1), .val (.int mx), .val (.long tw), .second, .val (.ref ty), .val (.int bu)] [])) := fun tt h => k tt (XS.pop X11.here hx rfl (hb hby own_d2_24) rfl rfl h)
  obtain ⟨b12, T12, h12, k12, X12, e12, E12, hS12, hk12, hZ12, hown12, st12⟩ := ldcS X11 hx hZ9 hown9 (hw _ (List.mem_of_getElem? (i := 38) rfl)) (own_wS hw) eq10 hS9 hk9 (g := (mkF m 25 #[.val (.ref a1), .val (.int mx), .val (.long tw), .second, .val (.ref ty), .val (.int bu)] [])) rfl (hb hby own_d2_25) (n := 20) (by first | decide | decide +kernel | simp) (by decide) (by decide) (by decide)
  replace k : own_K p.tables e below (s₁.setTop (entryFrame m #[(.ref a1), (.int mx), (.long tw), (.ref ty), (.int bu)] 6)) (T12.setTop (mkF m 27 #[.val (.ref a1), .val (.int mx), .val (.long tw), .second, .val (.ref ty), .val (.int bu)] [(.ref b12)])) := fun tt h => k tt (st12 _ h)
  replace E1 := E1.ext E12
  replace F_maxRequests := F_maxRequests.ext E12
  replace F_timeWindowMillis := F_timeWindowMillis.ext E12
  replace F_type := F_type.ext E12
  replace F_burst := F_burst.ext E12
  replace K1 := K1.ext E12
  replace k : own_K p.tables e below (s₁.setTop (entryFrame m #[(.ref a1), (.int mx), (.long tw), (.ref ty), (.int bu)] 6)) (T12.setTop (mkF m 29 #[.val (.ref a1), .val (.int mx), .val (.long tw), .second, .val (.ref ty), .val (.int bu)] [(.int bu), (.ref b12)])) := fun tt h => k tt (XS.iload X12.here hx rfl (hb hby own_d2_27) rfl h)
  replace k : own_K p.tables e below (s₁.setTop (entryFrame m #[(.ref a1), (.int mx), (.long tw), (.ref ty), (.int bu)] 6)) (T12.setTop (mkF m 30 #[.val (.ref a1), .val (.int mx), .val (.long tw), .second, .val (.ref ty), .val (.int bu)] [(.long (bu.toInt64)), (.ref b12)])) := fun tt h => k tt (XS.i2l X12.here hx rfl (hb hby own_d2_29) rfl h)
  obtain ⟨_, _, ⟨T14, L14, kk14, n14⟩, -, X14, ⟨Lc14, hQ14, l14, y14, z14⟩, st14⟩ := Jvm.LawKit.callS X12 hx (y := (⟨"com/example/intrvl/intrvl/limit/RateLimiterConfig", "requirePositive", "(Ljava/lang/String;J)V"⟩ : MethodName)) hown12 (mvT hZ12 (hw _ (List.mem_of_getElem? (i := 29) rfl))) (mvT hZ12 (hw _ (List.mem_of_getElem? (i := 30) rfl))) (mvT hZ12 (hw _ (List.mem_of_getElem? (i := 3) rfl))) (mvT hZ12 (hw _ (List.mem_of_getElem? (i := 31) rfl))) (by decide) (backOf (W := 0) (rm2 l Z a0 hw [] b12 bu.toInt64 h12 n0 (own_pos64 c3)) hZ12 (hw _ (List.mem_of_getElem? (i := 31) rfl)) (hw _ (List.mem_of_getElem? (i := 3) rfl)) (by decide) (by decide)) (g := (mkF m 30 #[.val (.ref a1), .val (.int mx), .val (.long tw), .second, .val (.ref ty), .val (.int bu)] [(.long (bu.toInt64)), (.ref b12)])) rfl (by rw [hml]; rfl) (argsL := [(.ref b12), (.long (bu.toInt64))]) (rest := []) (lenOf own_pd1 rfl) rfl (by show 2 * 0 + _ ≤ _; exact Nat.le_of_eq rfl) (hb hby own_d2_30) (fun _ _ => ⟨rfl, e12, (by decide : 8 + 0 ≤ _), (by decide : 160 + 0 ≤ _)⟩)
  dsimp only [Pt.U, Pt.locs, Pt.cells, Pt.slots] at X14 l14 y14 z14 st14 hQ14
  rw [l14, y14, z14] at X14
  obtain ⟨rfl, N14q, eq13⟩ := hQ14
  have N14 := Fr.app N11 N14q
  replace k : own_K p.tables e below (s₁.setTop (entryFrame m #[(.ref a1), (.int mx), (.long tw), (.ref ty), (.int bu)] 6)) (T14.setTop (mkF m 33 #[.val (.ref a1), .val (.int mx), .val (.long tw), .second, .val (.ref ty), .val (.int bu)] [])) := fun tt h => k tt (st14 _ h)
  replace k : own_K p.tables e below (s₁.setTop (entryFrame m #[(.ref a1), (.int mx), (.long tw), (.ref ty), (.int bu)] 6)) (T14.setTop (mkF m 34 #[.val (.ref a1), .val (.int mx), .val (.long tw), .second, .val (.ref ty), .val (.int bu)] [(.ref a1)])) := fun tt h => k tt (XS.aloadN X14.here hx rfl (hb hby own_d2_33) rfl rfl h)
  replace k : own_K p.tables e below (s₁.setTop (entryFrame m #[(.ref a1), (.int mx), (.long tw), (.ref ty), (.int bu)] 6)) (T14.setTop (mkF m 35 #[.val (.ref a1), .val (.int mx), .val (.long tw), .second, .val (.ref ty), .val (.int bu)] [(.int mx), (.ref a1)])) := fun tt h => k tt (XS.iloadN X14.here hx rfl (hb hby own_d2_34) rfl h)
  obtain ⟨T15, h15, X15, e15, W15, st15⟩ := putF X14 hx hZ12 hown12 (host := "") (Or.inl (hw _ (List.mem_of_getElem? (i := 39) rfl))) Via.refl eq13 F_maxRequests E1 (Or.inr ⟨(hw _ (List.mem_of_getElem? (i := 40) rfl)), rfl, hnm⟩) (hw _ (List.mem_of_getElem? (i := 2) rfl)) (ty := .int) (by decide) rfl rfl (g := (mkF m 35 #[.val (.ref a1), .val (.int mx), .val (.long tw), .second, .val (.ref ty), .val (.int bu)] [(.int mx), (.ref a1)])) rfl rfl (hb hby own_d2_35)
  have N15 := Fr.snoc X15 N14 g1
  replace k : own_K p.tables e below (s₁.setTop (entryFrame m #[(.ref a1), (.int mx), (.long tw), (.ref ty), (.int bu)] 6)) (T15.setTop (mkF m 38 #[.val (.ref a1), .val (.int mx), .val (.long tw), .second, .val (.ref ty), .val (.int bu)] [])) := fun tt h => k tt (st15 _ h)
  replace hk12 := Nat.le_trans hk12 (Nat.le_of_eq W15.size.symm)
  replace F_maxRequests := F_maxRequests.same W15
  replace F_timeWindowMillis := F_timeWindowMillis.other W15 (Or.inr (slot_ne (Or.inr (hw _ (List.mem_of_getElem? (i := 42) rfl))) (Or.inr (hw _ (List.mem_of_getElem? (i := 40) rfl))) (by decide) (t := .long) (t' := .int) (by decide) (by decide)))
  replace F_type := F_type.other W15 (Or.inr (slot_ne (Or.inr (hw _ (List.mem_of_getElem? (i := 44) rfl))) (Or.inr (hw _ (List.mem_of_getElem? (i := 40) rfl))) (by decide) (t := (.object "com/example/intrvl/intrvl/limit/RateLimiterType")) (t' := .int) (by decide) (by decide)))
  replace F_burst := F_burst.other W15 (Or.inr (slot_ne (Or.inr (hw _ (List.mem_of_getElem? (i := 46) rfl))) (Or.inr (hw _ (List.mem_of_getElem? (i := 40) rfl))) (by decide) (t := .int) (t' := .int) (by decide) (by decide)))
  replace E1 := E1.wr W15
  replace K1 := K1.wr W15 (Or.inl (List.mem_of_getElem? (i := 0) rfl))
  replace k : own_K p.tables e below (s₁.setTop (entryFrame m #[(.ref a1), (.int mx), (.long tw), (.ref ty), (.int bu)] 6)) (T15.setTop (mkF m 39 #[.val (.ref a1), .val (.int mx), .val (.long tw), .second, .val (.ref ty), .val (.int bu)] [(.ref a1)])) := fun tt h => k tt (XS.aloadN X15.here hx rfl (hb hby own_d2_38) rfl rfl h)
  replace k : own_K p.tables e below (s₁.setTop (entryFrame m #[(.ref a1), (.int mx), (.long tw), (.ref ty), (.int bu)] 6)) (T15.setTop (mkF m 40 #[.val (.ref a1), .val (.int mx), .val (.long tw), .second, .val (.ref ty), .val (.int bu)] [(.long tw), (.ref a1)])) := fun tt h => k tt (XS.lloadN X15.here hx rfl (hb hby own_d2_39) rfl h)
  obtain ⟨T16, h16, X16, e16, W16, st16⟩ := putF X15 hx hZ12 hown12 (host := "") (Or.inl (hw _ (List.mem_of_getElem? (i := 41) rfl))) Via.refl e15 F_timeWindowMillis E1 (Or.inr ⟨(hw _ (List.mem_of_getElem? (i := 42) rfl)), rfl, hnm⟩) (hw _ (List.mem_of_getElem? (i := 2) rfl)) (ty := .long) (by decide) rfl rfl (g := (mkF m 40 #[.val (.ref a1), .val (.int mx), .val (.long tw), .second, .val (.ref ty), .val (.int bu)] [(.long tw), (.ref a1)])) rfl rfl (hb hby own_d2_40)
  have N16 := Fr.snoc X16 N15 g1
  replace k : own_K p.tables e below (s₁.setTop (entryFrame m #[(.ref a1), (.int mx), (.long tw), (.ref ty), (.int bu)] 6)) (T16.setTop (mkF m 43 #[.val (.ref a1), .val (.int mx), .val (.long tw), .second, .val (.ref ty), .val (.int bu)] [])) := fun tt h => k tt (st16 _ h)
  replace hk12 := Nat.le_trans hk12 (Nat.le_of_eq W16.size.symm)
  replace F_timeWindowMillis := F_timeWindowMillis.same W16
  replace F_maxRequests := F_maxRequests.other W16 (Or.inr (slot_ne (Or.inr (hw _ (List.mem_of_getElem? (i := 40) rfl))) (Or.inr (hw _ (List.mem_of_getElem? (i := 42) rfl))) (by decide) (t := .int) (t' := .long) (by decide) (by decide)))
  replace F_type := F_type.other W16 (Or.inr (slot_ne (Or.inr (hw _ (List.mem_of_getElem? (i := 44) rfl))) (Or.inr (hw _ (List.mem_of_getElem? (i := 42) rfl))) (by decide) (t := (.object "com/example/intrvl/intrvl/limit/RateLimiterType")) (t' := .long) (by decide) (by decide)))
  replace F_burst := F_burst.other W16 (Or.inr (slot_ne (Or.inr (hw _ (List.mem_of_getElem? (i := 46) rfl))) (Or.inr (hw _ (List.mem_of_getElem? (i := 42) rfl))) (by decide) (t := .int) (t' := .long) (by decide) (by decide)))
  replace E1 := E1.wr W16
  replace K1 := K1.wr W16 (Or.inl (List.mem_of_getElem? (i := 0) rfl))
  replace k : own_K p.tables e below (s₁.setTop (entryFrame m #[(.ref a1), (.int mx), (.long tw), (.ref ty), (.int bu)] 6)) (T16.setTop (mkF m 44 #[.val (.ref a1), .val (.int mx), .val (.long tw), .second, .val (.ref ty), .val (.int bu)] [(.ref a1)])) := fun tt h => k tt (XS.aloadN X16.here hx rfl (hb hby own_d2_43) rfl rfl h)
  replace k : own_K p.tables e below (s₁.setTop (entryFrame m #[(.ref a1), (.int mx), (.long tw), (.ref ty), (.int bu)] 6)) (T16.setTop (mkF m 46 #[.val (.ref a1), .val (.int mx), .val (.long tw), .second, .val (.ref ty), .val (.int bu)] [(.ref ty), (.ref a1)])) := fun tt h => k tt (XS.aload X16.here hx rfl (hb hby own_d2_44) rfl rfl h)
  obtain ⟨T17, h17, X17, e17, W17, st17⟩ := putF X16 hx hZ12 hown12 (host := "") (Or.inl (hw _ (List.mem_of_getElem? (i := 43) rfl))) Via.refl e16 F_type E1 (Or.inr ⟨(hw _ (List.mem_of_getElem? (i := 44) rfl)), rfl, hnm⟩) (hw _ (List.mem_of_getElem? (i := 2) rfl)) (ty := (.object "com/example/intrvl/intrvl/limit/RateLimiterType")) (by decide) rfl rfl (g := (mkF m 46 #[.val (.ref a1), .val (.int mx), .val (.long tw), .second, .val (.ref ty), .val (.int bu)] [(.ref ty), (.ref a1)])) rfl rfl (hb hby own_d2_46)
  have N17 := Fr.snoc X17 N16 g1
  replace k : own_K p.tables e below (s₁.setTop (entryFrame m #[(.ref a1), (.int mx), (.long tw), (.ref ty), (.int bu)] 6)) (T17.setTop (mkF m 49 #[.val (.ref a1), .val (.int mx), .val (.long tw), .second, .val (.ref ty), .val (.int bu)] [])) := fun tt h => k tt (st17 _ h)
  replace hk12 := Nat.le_trans hk12 (Nat.le_of_eq W17.size.symm)
  replace F_type := F_type.same W17
  replace F_maxRequests := F_maxRequests.other W17 (Or.inr (slot_ne (Or.inr (hw _ (List.mem_of_getElem? (i := 40) rfl))) (Or.inr (hw _ (List.mem_of_getElem? (i := 44) rfl))) (by decide) (t := .int) (t' := (.object "com/example/intrvl/intrvl/limit/RateLimiterType")) (by decide) (by decide)))
  replace F_timeWindowMillis := F_timeWindowMillis.other W17 (Or.inr (slot_ne (Or.inr (hw _ (List.mem_of_getElem? (i := 42) rfl))) (Or.inr (hw _ (List.mem_of_getElem? (i := 44) rfl))) (by decide) (t := .long) (t' := (.object "com/example/intrvl/intrvl/limit/RateLimiterType")) (by decide) (by decide)))
  replace F_burst := F_burst.other W17 (Or.inr (slot_ne (Or.inr (hw _ (List.mem_of_getElem? (i := 46) rfl))) (Or.inr (hw _ (List.mem_of_getElem? (i := 44) rfl))) (by decide) (t := .int) (t' := (.object "com/example/intrvl/intrvl/limit/RateLimiterType")) (by decide) (by decide)))
  replace E1 := E1.wr W17
  replace K1 := K1.wr W17 (Or.inl (List.mem_of_getElem? (i := 0) rfl))
  replace k : own_K p.tables e below (s₁.setTop (entryFrame m #[(.ref a1), (.int mx), (.long tw), (.ref ty), (.int bu)] 6)) (T17.setTop (mkF m 50 #[.val (.ref a1), .val (.int mx), .val (.long tw), .second, .val (.ref ty), .val (.int bu)] [(.ref a1)])) := fun tt h => k tt (XS.aloadN X17.here hx rfl (hb hby own_d2_49) rfl rfl h)
  replace k : own_K p.tables e below (s₁.setTop (entryFrame m #[(.ref a1), (.int mx), (.long tw), (.ref ty), (.int bu)] 6)) (T17.setTop (mkF m 52 #[.val (.ref a1), .val (.int mx), .val (.long tw), .second, .val (.ref ty), .val (.int bu)] [(.int bu), (.ref a1)])) := fun tt h => k tt (XS.iload X17.here hx rfl (hb hby own_d2_50) rfl h)
  obtain ⟨T18, h18, X18, e18, W18, st18⟩ := putF X17 hx hZ12 hown12 (host := "") (Or.inl (hw _ (List.mem_of_getElem? (i := 45) rfl))) Via.refl e17 F_burst E1 (Or.inr ⟨(hw _ (List.mem_of_getElem? (i := 46) rfl)), rfl, hnm⟩) (hw _ (List.mem_of_getElem? (i := 2) rfl)) (ty := .int) (by decide) rfl rfl (g := (mkF m 52 #[.val (.ref a1), .val (.int mx), .val (.long tw), .second, .val (.ref ty), .val (.int bu)] [(.int bu), (.ref a1)])) rfl rfl (hb hby own_d2_52)
  have N18 := Fr.snoc X18 N17 g1
  replace k : own_K p.tables e below (s₁.setTop (entryFrame m #[(.ref a1), (.int mx), (.long tw), (.ref ty), (.int bu)] 6)) (T18.setTop (mkF m 55 #[.val (.ref a1), .val (.int mx), .val (.long tw), .second, .val (.ref ty), .val (.int bu)] [])) := fun tt h => k tt (st18 _ h)
  replace hk12 := Nat.le_trans hk12 (Nat.le_of_eq W18.size.symm)
  replace F_burst := F_burst.same W18
  replace F_maxRequests := F_maxRequests.other W18 (Or.inr (slot_ne (Or.inr (hw _ (List.mem_of_getElem? (i := 40) rfl))) (Or.inr (hw _ (List.mem_of_getElem? (i := 46) rfl))) (by decide) (t := .int) (t' := .int) (by decide) (by decide)))
  replace F_timeWindowMillis := F_timeWindowMillis.other W18 (Or.inr (slot_ne (Or.inr (hw _ (List.mem_of_getElem? (i := 42) rfl))) (Or.inr (hw _ (List.mem_of_getElem? (i := 46) rfl))) (by decide) (t := .long) (t' := .int) (by decide) (by decide)))
  replace F_type := F_type.other W18 (Or.inr (slot_ne (Or.inr (hw _ (List.mem_of_getElem? (i := 44) rfl))) (Or.inr (hw _ (List.mem_of_getElem? (i := 46) rfl))) (by decide) (t := (.object "com/example/intrvl/intrvl/limit/RateLimiterType")) (t' := .int) (by decide) (by decide)))
  replace E1 := E1.wr W18
  replace K1 := K1.wr W18 (Or.inl (List.mem_of_getElem? (i := 0) rfl))
  obtain ⟨fs, hr, hrun, hended, hEnd⟩ := X18.leaveW hS12 (by rw [e18]; exact hk12) (v := none) (fun _ => rfl) Bd.notSynchronized
  refine ⟨_, _, k _ (X18.returnOut hx Bd.returns (hb hby own_d2_55) hr), hrun, hended, _, _, rfl, ?_, hEnd.1, hEnd.2.1, hEnd.2.2.1, hEnd.2.2.2.mono (by decide) (by decide)⟩
  show Q4 Z a1 mx tw ty bu u0 u1 u2 u3 h0 n0 _ T18.heap _
  rw [e18]
  exact ⟨rfl, N18, K1, E1, F_maxRequests, F_timeWindowMillis⟩
theorem own_pd3 : parseMethodDescriptor "(IJLcom/example/intrvl/intrvl/limit/RateLimiterType;I)V" = some ⟨[.int, .long, (.object "com/example/intrvl/intrvl/limit/RateLimiterType"), .int], none⟩ := by decide +kernel
theorem own_d1_0 : decode prog_13_method_2_code 0 = .ok (.aload_n 0, 1) := by decide +kernel
theorem own_d1_1 : decode prog_13_method_2_code 1 = .ok (.iload_n 1, 1) := by decide +kernel
theorem own_d1_2 : decode prog_13_method_2_code 2 = .ok (.lload_n 2, 1) := by decide +kernel
theorem own_d1_3 : decode prog_13_method_2_code 3 = .ok (.aload 4, 2) := by decide +kernel
theorem own_d1_5 : decode prog_13_method_2_code 5 = .ok (.iload_n 1, 1) := by decide +kernel
theorem own_d1_6 : decode prog_13_method_2_code 6 = .ok (.invokespecial 38, 3) := by decide +kernel
theorem own_d1_9 : decode prog_13_method_2_code 9 = .ok (.return_, 1) := by decide +kernel
theorem own_ef5 (m : MethodId) (y0 : Addr) (y1 : Int32) (y2 : Int64) (y3 : Addr) : entryFrame m #[(.ref y0), (.int y1), (.long y2), (.ref y3)] 5 = mkF m 0 #[.val (.ref y0), .val (.int y1), .val (.long y2), .second, .val (.ref y3)] [] := by first | (simp [entryFrame, mkF, argsToLocals, Value.category]; done) | rfl
def Q5 (Z : State) (a1 : Addr) (mx : Int32) (tw : Int64) (ty : Addr) (u0 : Value) (u1 : Value) (u2 : Value) (u3 : Value) (h0 : Heap) (n0 : Nat) (v : Option Value) (h : Heap) (L : List Loc) : Prop := v = none ∧ Fr n0 L ∧ Keep h0 h [a1] ∧ Exa Z h a1 "com/example/intrvl/intrvl/limit/RateLimiterConfig" ∧ Fld Z h a1 "com/example/intrvl/intrvl/limit/RateLimiterConfig" "maxRequests" "I" (.int mx) ∧ Fld Z h a1 "com/example/intrvl/intrvl/limit/RateLimiterConfig" "timeWindowMillis" "J" (.long tw)
set_option maxRecDepth 65536 in
set_option maxHeartbeats 40000000 in
theorem rm5 (l : Launch) (Z : State) (a0 : Array Value) (hw : ∀ d ∈ tables_1, d.before a0 Z = true) (ws : List Jvm.Cond) (a1 : Addr) (mx : Int32) (tw : Int64) (ty : Addr) (u0 : Value) (u1 : Value) (u2 : Value) (u3 : Value) (h0 : Heap) (n0 : Nat) (E1 : Exa Z h0 a1 "com/example/intrvl/intrvl/limit/RateLimiterConfig") (g1 : n0 ≤ a1) (c1 : (0 : Int32) < mx) (c2 : (0 : Int64) < tw) (F_maxRequests : Fld Z h0 a1 "com/example/intrvl/intrvl/limit/RateLimiterConfig" "maxRequests" "I" u0) (F_timeWindowMillis : Fld Z h0 a1 "com/example/intrvl/intrvl/limit/RateLimiterConfig" "timeWindowMillis" "J" u1) (F_type : Fld Z h0 a1 "com/example/intrvl/intrvl/limit/RateLimiterConfig" "type" "Lcom/example/intrvl/intrvl/limit/RateLimiterType;" u2) (F_burst : Fld Z h0 a1 "com/example/intrvl/intrvl/limit/RateLimiterConfig" "burst" "I" u3) :
    MetFree l (⟨"com/example/intrvl/intrvl/limit/RateLimiterConfig", "<init>", "(IJLcom/example/intrvl/intrvl/limit/RateLimiterType;)V"⟩ : MethodName) (head1 (Jvm.Cond.code (⟨"com/example/intrvl/intrvl/limit/RateLimiterConfig", "<init>", "(IJLcom/example/intrvl/intrvl/limit/RateLimiterType;)V"⟩ : MethodName) prog_13_method_2_code 5 none :: ws) ({ frames := 3, cells := 8, slots := 160, locals := 41 } : Room)) (fun aaz U => aaz = #[(.ref a1), (.int mx), (.long tw), (.ref ty)] ∧ Z.Warmed39 U.vm ∧ U.heap = h0) (fun _ _ _ _ _ => True) (fun _ U o U' => ∃ v L, o = .returned v ∧ Q5 Z a1 mx tw ty u0 u1 u2 u3 h0 n0 v U'.heap L ∧ ReturnedEndW U o U' L ({ frames := 3, cells := 8, slots := 160, locals := 41 } : Room).cells ({ frames := 3, cells := 8, slots := 160, locals := 41 } : Room).slots) := by
  refine MetFree.of_bodySF (plainFor_of_name own_pn1) hisR ?_
  intro p e s m args below meth cde s₁ Bd hml0 hP hK
  obtain ⟨rfl, hZ, hh⟩ := hP
  have hx := Bd.exec
  have hby := Bd.bytes
  have hml : cde.maxLocals = 5 := hml0
  have hown : (s.setVm s.vm).vm.findClass "com/example/intrvl/intrvl/limit/RateLimiterConfig" = some m.cls := findClass_of_methodNamed Bd.named
  have hZ : Z.Warmed39 (s.setVm s.vm).vm := hZ
  have hnm := (name_of_methodNamed Bd.named Bd.method).1
  have X0 : Stand p l e ({ frames := 3, cells := 8, slots := 160, locals := 41 } : Room) (s.setVm s.vm) m #[(.ref a1), (.int mx), (.long tw), (.ref ty)] below meth cde s₁ [] 0 0 := Stand.of_body Bd
  have e0 : s₁.heap = h0 := by rw [← hh, Bd.state]; rfl
  have N0 := Fr.nil n0
  have hS0 : s.Since s.vm h0.size := (State.WarmedH.refl s).since _
  have hk0 : h0.size ≤ h0.size := Nat.le_refl _
  have k : own_K p.tables e below (s₁.setTop (entryFrame m #[(.ref a1), (.int mx), (.long tw), (.ref ty)] 5)) (s₁.setTop (mkF m 0 #[.val (.ref a1), .val (.int mx), .val (.long tw), .second, .val (.ref ty)] [])) := fun tt h => castTop (own_ef5 m a1 mx tw ty) h
  replace k : own_K p.tables e below (s₁.setTop (entryFrame m #[(.ref a1), (.int mx), (.long tw), (.ref ty)] 5)) (s₁.setTop (mkF m 1 #[.val (.ref a1), .val (.int mx), .val (.long tw), .second, .val (.ref ty)] [(.ref a1)])) := fun tt h => k tt (XS.aloadN X0.here hx rfl (hb hby own_d1_0) rfl rfl h)
  replace k : own_K p.tables e below (s₁.setTop (entryFrame m #[(.ref a1), (.int mx), (.long tw), (.ref ty)] 5)) (s₁.setTop (mkF m 2 #[.val (.ref a1), .val (.int mx), .val (.long tw), .second, .val (.ref ty)] [(.int mx), (.ref a1)])) := fun tt h => k tt (XS.iloadN X0.here hx rfl (hb hby own_d1_1) rfl h)
  replace k : own_K p.tables e below (s₁.setTop (entryFrame m #[(.ref a1), (.int mx), (.long tw), (.ref ty)] 5)) (s₁.setTop (mkF m 3 #[.val (.ref a1), .val (.int mx), .val (.long tw), .second, .val (.ref ty)] [(.long tw), (.int mx), (.ref a1)])) := fun tt h => k tt (XS.lloadN X0.here hx rfl (hb hby own_d1_2) rfl h)
  replace k : own_K p.tables e below (s₁.setTop (entryFrame m #[(.ref a1), (.int mx), (.long tw), (.ref ty)] 5)) (s₁.setTop (mkF m 5 #[.val (.ref a1), .val (.int mx), .val (.long tw), .second, .val (.ref ty)] [(.ref ty), (.long tw), (.int mx), (.ref a1)])) := fun tt h => k tt (XS.aload X0.here hx rfl (hb hby own_d1_3) rfl rfl h)
  replace k : own_K p.tables e below (s₁.setTop (entryFrame m #[(.ref a1), (.int mx), (.long tw), (.ref ty)] 5)) (s₁.setTop (mkF m 6 #[.val (.ref a1), .val (.int mx), .val (.long tw), .second, .val (.ref ty)] [(.int mx), (.ref ty), (.long tw), (.int mx), (.ref a1)])) := fun tt h => k tt (XS.iloadN X0.here hx rfl (hb hby own_d1_5) rfl h)
  obtain ⟨_, _, ⟨T1, L1, kk1, n1⟩, -, X1, S1, gr1, ⟨Lc1, hQ1, l1, y1, z1⟩, st1⟩ := X0.specialBackS hx (y := (⟨"com/example/intrvl/intrvl/limit/RateLimiterConfig", "<init>", "(IJLcom/example/intrvl/intrvl/limit/RateLimiterType;I)V"⟩ : MethodName)) rfl hown (mvT hZ (hw _ (List.mem_of_getElem? (i := 10) rfl))) (mvT hZ (hw _ (List.mem_of_getElem? (i := 11) rfl))) (mvT hZ (hw _ (List.mem_of_getElem? (i := 12) rfl))) (by decide) (backOfS (W := 0) (rm4 l Z a0 hw [] a1 mx tw ty mx u0 u1 u2 u3 h0 n0 E1 g1 c1 c2 F_maxRequests F_timeWindowMillis F_type F_burst c1) hZ (hw _ (List.mem_of_getElem? (i := 12) rfl)) (hw _ (List.mem_of_getElem? (i := 3) rfl)) (by decide) (by decide)) (g := (mkF m 6 #[.val (.ref a1), .val (.int mx), .val (.long tw), .second, .val (.ref ty)] [(.int mx), (.ref ty), (.long tw), (.int mx), (.ref a1)])) rfl (by rw [hml]; rfl) (Steps.refl _) (a := a1) (argsL := [(.int mx), (.long tw), (.ref ty), (.int mx)]) (rest := []) (lenOf own_pd3 rfl) rfl (by show 2 * 0 + _ ≤ _; exact Nat.le_of_eq rfl) (hb hby own_d1_6) (fun _ _ => ⟨rfl, e0, (by decide : 0 + 8 ≤ _), (by decide : 0 + 160 ≤ _)⟩)
  dsimp only [Pt.U, Pt.locs, Pt.cells, Pt.slots] at X1 l1 y1 z1 st1 hQ1 S1 gr1
  rw [l1, y1, z1] at X1
  obtain ⟨rfl, N1q, K2, E2, P1, P2⟩ := hQ1
  have N1 := Fr.app N0 N1q
  obtain ⟨X1, hS1, hZ1, hown1⟩ := rebS hS0 hk0 X1 S1 (by rw [← e0]; exact gr1) hZ hown
  have hk1 : T1.heap.size ≤ T1.heap.size := Nat.le_refl _
  replace k : own_K p.tables e below (s₁.setTop (entryFrame m #[(.ref a1), (.int mx), (.long tw), (.ref ty)] 5)) (T1.setTop (mkF m 9 #[.val (.ref a1), .val (.int mx), .val (.long tw), .second, .val (.ref ty)] [])) := fun tt h => k tt (st1.trans h)
  obtain ⟨fs, hr, hrun, hended, hEnd⟩ := X1.leaveW hS1 hk1 (v := none) (fun _ => rfl) Bd.notSynchronized
  refine ⟨_, _, k _ (X1.returnOut hx Bd.returns (hb hby own_d1_9) hr), hrun, hended, _, _, rfl, ?_, hEnd.1, hEnd.2.1, hEnd.2.2.1, hEnd.2.2.2.mono (by decide) (by decide)⟩
  show Q5 Z a1 mx tw ty u0 u1 u2 u3 h0 n0 _ T1.heap _
  exact ⟨rfl, N1, K2, E2, P1, P2⟩
theorem own_d9_0 : decode prog_13_method_10_code 0 = .ok (.aload_n 0, 1) := by decide +kernel
theorem own_d9_1 : decode prog_13_method_10_code 1 = .ok (.getfield 30, 3) := by decide +kernel
theorem own_d9_4 : decode prog_13_method_10_code 4 = .ok (.lreturn, 1) := by decide +kernel
theorem own_ef6 (m : MethodId) (y0 : Addr) : entryFrame m #[(.ref y0)] 1 = mkF m 0 #[.val (.ref y0)] [] := by first | (simp [entryFrame, mkF, argsToLocals, Value.category]; done) | rfl
def Q6 (Z : State) (r : Addr) (tw : Int64) (h0 : Heap) (n0 : Nat) (v : Option Value) (h : Heap) (L : List Loc) : Prop := v = some (.long tw) ∧ Fr n0 L ∧ h = h0
set_option maxRecDepth 65536 in
set_option maxHeartbeats 40000000 in
theorem rm6 (l : Launch) (Z : State) (a0 : Array Value) (hw : ∀ d ∈ tables_1, d.before a0 Z = true) (ws : List Jvm.Cond) (r : Addr) (tw : Int64) (h0 : Heap) (n0 : Nat) (F1 : Fld Z h0 r "com/example/intrvl/intrvl/limit/RateLimiterConfig" "timeWindowMillis" "J" (.long tw)) :
    MetFree l (⟨"com/example/intrvl/intrvl/limit/RateLimiterConfig", "timeWindowMillis", "()J"⟩ : MethodName) (head1 (Jvm.Cond.code (⟨"com/example/intrvl/intrvl/limit/RateLimiterConfig", "timeWindowMillis", "()J"⟩ : MethodName) prog_13_method_10_code 1 (some .long) :: ws) ({ frames := 0, cells := 0, slots := 0, locals := 0 } : Room)) (fun aaz U => aaz = #[(.ref r)] ∧ Z.Warmed39 U.vm ∧ U.heap = h0) (fun _ _ _ _ _ => True) (fun _ U o U' => ∃ v L, o = .returned v ∧ Q6 Z r tw h0 n0 v U'.heap L ∧ FrameEnd U o U' L ({ frames := 0, cells := 0, slots := 0, locals := 0 } : Room).cells ({ frames := 0, cells := 0, slots := 0, locals := 0 } : Room).slots) := by
  refine MetFree.of_bodySF (plainFor_of_name own_pn1) hisR ?_
  intro p e s m args below meth cde s₁ Bd hml0 hP hK
  obtain ⟨rfl, hZ, hh⟩ := hP
  have hx := Bd.exec
  have hby := Bd.bytes
  have hml : cde.maxLocals = 1 := hml0
  have hown : s.vm.findClass "com/example/intrvl/intrvl/limit/RateLimiterConfig" = some m.cls := findClass_of_methodNamed Bd.named
  have hnm := (name_of_methodNamed Bd.named Bd.method).1
  have X0 : Stand p l e ({ frames := 0, cells := 0, slots := 0, locals := 0 } : Room) s m #[(.ref r)] below meth cde s₁ [] 0 0 := Stand.of_body Bd
  have e0 : s₁.heap = h0 := by rw [← hh, Bd.state]; rfl
  have N0 := Fr.nil n0
  have k : own_K p.tables e below (s₁.setTop (entryFrame m #[(.ref r)] 1)) (s₁.setTop (mkF m 0 #[.val (.ref r)] [])) := fun tt h => castTop (own_ef6 m r) h
  replace k : own_K p.tables e below (s₁.setTop (entryFrame m #[(.ref r)] 1)) (s₁.setTop (mkF m 1 #[.val (.ref r)] [(.ref r)])) := fun tt h => k tt (XS.aloadN X0.here hx rfl (hb hby own_d9_0) rfl rfl h)
  obtain ⟨T1, X1, e1, st1⟩ := getF X0 hx hZ hown (host := "") (Or.inl (hw _ (List.mem_of_getElem? (i := 41) rfl))) Via.refl e0 F1 (g := (mkF m 1 #[.val (.ref r)] [(.ref r)])) rfl rfl (hb hby own_d9_1)
  replace k : own_K p.tables e below (s₁.setTop (entryFrame m #[(.ref r)] 1)) (T1.setTop (mkF m 4 #[.val (.ref r)] [(.long tw)])) := fun tt h => k tt (st1 _ h)
  obtain ⟨fs, hr, hrun, hended, hW, hsame⟩ := X1.leave (v := some (.long tw)) (fun h => by rw [Bd.returns] at h; cases h) Bd.notSynchronized
  refine ⟨_, _, k _ (retOut X1 hx Bd.returns rfl (Or.inr (Or.inl ⟨rfl, rfl, _, rfl⟩)) (hb hby own_d9_4) hr), hrun, hended, _, _, rfl, ?_, ⟨_, rfl⟩, hW, hsame.mono (by decide) (by decide)⟩
  show Q6 Z r tw h0 n0 _ T1.heap _
  rw [e1]
  exact ⟨rfl, N0, rfl⟩
theorem own_d11_0 : decode prog_13_method_9_code 0 = .ok (.aload_n 0, 1) := by decide +kernel
theorem own_d11_1 : decode prog_13_method_9_code 1 = .ok (.getfield 27, 3) := by decide +kernel
theorem own_d11_4 : decode prog_13_method_9_code 4 = .ok (.ireturn, 1) := by decide +kernel
theorem own_ef7 (m : MethodId) (y0 : Addr) : entryFrame m #[(.ref y0)] 1 = mkF m 0 #[.val (.ref y0)] [] := by first | (simp [entryFrame, mkF, argsToLocals, Value.category]; done) | rfl
def Q7 (Z : State) (r : Addr) (mx : Int32) (h0 : Heap) (n0 : Nat) (v : Option Value) (h : Heap) (L : List Loc) : Prop := v = some (.int mx) ∧ Fr n0 L ∧ h = h0
set_option maxRecDepth 65536 in
set_option maxHeartbeats 40000000 in
theorem rm7 (l : Launch) (Z : State) (a0 : Array Value) (hw : ∀ d ∈ tables_1, d.before a0 Z = true) (ws : List Jvm.Cond) (r : Addr) (mx : Int32) (h0 : Heap) (n0 : Nat) (F1 : Fld Z h0 r "com/example/intrvl/intrvl/limit/RateLimiterConfig" "maxRequests" "I" (.int mx)) :
    MetFree l (⟨"com/example/intrvl/intrvl/limit/RateLimiterConfig", "maxRequests", "()I"⟩ : MethodName) (head1 (Jvm.Cond.code (⟨"com/example/intrvl/intrvl/limit/RateLimiterConfig", "maxRequests", "()I"⟩ : MethodName) prog_13_method_9_code 1 (some .int) :: ws) ({ frames := 0, cells := 0, slots := 0, locals := 0 } : Room)) (fun aaz U => aaz = #[(.ref r)] ∧ Z.Warmed39 U.vm ∧ U.heap = h0) (fun _ _ _ _ _ => True) (fun _ U o U' => ∃ v L, o = .returned v ∧ Q7 Z r mx h0 n0 v U'.heap L ∧ FrameEnd U o U' L ({ frames := 0, cells := 0, slots := 0, locals := 0 } : Room).cells ({ frames := 0, cells := 0, slots := 0, locals := 0 } : Room).slots) := by
  refine MetFree.of_bodySF (plainFor_of_name own_pn1) hisR ?_
  intro p e s m args below meth cde s₁ Bd hml0 hP hK
  obtain ⟨rfl, hZ, hh⟩ := hP
  have hx := Bd.exec
  have hby := Bd.bytes
  have hml : cde.maxLocals = 1 := hml0
  have hown : s.vm.findClass "com/example/intrvl/intrvl/limit/RateLimiterConfig" = some m.cls := findClass_of_methodNamed Bd.named
  have hnm := (name_of_methodNamed Bd.named Bd.method).1
  have X0 : Stand p l e ({ frames := 0, cells := 0, slots := 0, locals := 0 } : Room) s m #[(.ref r)] below meth cde s₁ [] 0 0 := Stand.of_body Bd
  have e0 : s₁.heap = h0 := by rw [← hh, Bd.state]; rfl
  have N0 := Fr.nil n0
  have k : own_K p.tables e below (s₁.setTop (entryFrame m #[(.ref r)] 1)) (s₁.setTop (mkF m 0 #[.val (.ref r)] [])) := fun tt h => castTop (own_ef7 m r) h
  replace k : own_K p.tables e below (s₁.setTop (entryFrame m #[(.ref r)] 1)) (s₁.setTop (mkF m 1 #[.val (.ref r)] [(.ref r)])) := fun tt h => k tt (XS.aloadN X0.here hx rfl (hb hby own_d11_0) rfl rfl h)
  obtain ⟨T1, X1, e1, st1⟩ := getF X0 hx hZ hown (host := "") (Or.inl (hw _ (List.mem_of_getElem? (i := 39) rfl))) Via.refl e0 F1 (g := (mkF m 1 #[.val (.ref r)] [(.ref r)])) rfl rfl (hb hby own_d11_1)
  replace k : own_K p.tables e below (s₁.setTop (entryFrame m #[(.ref r)] 1)) (T1.setTop (mkF m 4 #[.val (.ref r)] [(.int mx)])) := fun tt h => k tt (st1 _ h)
  obtain ⟨fs, hr, hrun, hended, hW, hsame⟩ := X1.leave (v := some (.int mx)) (fun h => by rw [Bd.returns] at h; cases h) Bd.notSynchronized
  refine ⟨_, _, k _ (retOut X1 hx Bd.returns rfl (Or.inl ⟨rfl, by simp, _, rfl⟩) (hb hby own_d11_4) hr), hrun, hended, _, _, rfl, ?_, ⟨_, rfl⟩, hW, hsame.mono (by decide) (by decide)⟩
  show Q7 Z r mx h0 n0 _ T1.heap _
  rw [e1]
  exact ⟨rfl, N0, rfl⟩
theorem own_d13_0 : decode jdk_29_method_66_code 0 = .ok (.lload_n 0, 1) := by decide +kernel
theorem own_d13_1 : decode jdk_29_method_66_code 1 = .ok (.lload_n 2, 1) := by decide +kernel
theorem own_d13_2 : decode jdk_29_method_66_code 2 = .ok (.lcmp, 1) := by decide +kernel
theorem own_d13_3 : decode jdk_29_method_66_code 3 = .ok (.ifCond .lt 7, 3) := by decide +kernel
theorem own_d13_6 : decode jdk_29_method_66_code 6 = .ok (.lload_n 0, 1) := by decide +kernel
theorem own_d13_7 : decode jdk_29_method_66_code 7 = .ok (.goto 4, 3) := by decide +kernel
theorem own_d13_10 : decode jdk_29_method_66_code 10 = .ok (.lload_n 2, 1) := by decide +kernel
theorem own_d13_11 : decode jdk_29_method_66_code 11 = .ok (.lreturn, 1) := by decide +kernel
theorem own_ef8 (m : MethodId) (y0 : Int64) (y1 : Int64) : entryFrame m #[(.long y0), (.long y1)] 4 = mkF m 0 #[.val (.long y0), .second, .val (.long y1), .second] [] := by first | (simp [entryFrame, mkF, argsToLocals, Value.category]; done) | rfl
def Q8 (Z : State) (x1 : Int64) (y1 : Int64) (h0 : Heap) (n0 : Nat) (v : Option Value) (h : Heap) (L : List Loc) : Prop := v = some (.long (own_max x1 y1)) ∧ Fr n0 L ∧ h = h0
set_option maxRecDepth 65536 in
set_option maxHeartbeats 40000000 in
theorem rm8 (l : Launch) (Z : State) (a0 : Array Value) (hw : ∀ d ∈ tables_1, d.before a0 Z = true) (ws : List Jvm.Cond) (x1 : Int64) (y1 : Int64) (h0 : Heap) (n0 : Nat) :
    MetFree l (⟨"java/lang/Math", "max", "(JJ)J"⟩ : MethodName) (head1 (Jvm.Cond.code (⟨"java/lang/Math", "max", "(JJ)J"⟩ : MethodName) jdk_29_method_66_code 4 (some .long) :: ws) ({ frames := 0, cells := 0, slots := 0, locals := 0 } : Room)) (fun aaz U => aaz = #[(.long x1), (.long y1)] ∧ Z.Warmed39 U.vm ∧ U.heap = h0) (fun _ _ _ _ _ => True) (fun _ U o U' => ∃ v L, o = .returned v ∧ Q8 Z x1 y1 h0 n0 v U'.heap L ∧ FrameEnd U o U' L ({ frames := 0, cells := 0, slots := 0, locals := 0 } : Room).cells ({ frames := 0, cells := 0, slots := 0, locals := 0 } : Room).slots) := by
  refine MetFree.of_bodySF (Jvm.Free.JP.mathPlain rfl (by decide +kernel)) hisR ?_
  intro p e s m args below meth cde s₁ Bd hml0 hP hK
  obtain ⟨rfl, hZ, hh⟩ := hP
  have hx := Bd.exec
  have hby := Bd.bytes
  have hml : cde.maxLocals = 4 := hml0
  have hown : s.vm.findClass "java/lang/Math" = some m.cls := findClass_of_methodNamed Bd.named
  have hnm := (name_of_methodNamed Bd.named Bd.method).1
  have X0 : Stand p l e ({ frames := 0, cells := 0, slots := 0, locals := 0 } : Room) s m #[(.long x1), (.long y1)] below meth cde s₁ [] 0 0 := Stand.of_body Bd
  have e0 : s₁.heap = h0 := by rw [← hh, Bd.state]; rfl
  have N0 := Fr.nil n0
  have k : own_K p.tables e below (s₁.setTop (entryFrame m #[(.long x1), (.long y1)] 4)) (s₁.setTop (mkF m 0 #[.val (.long x1), .second, .val (.long y1), .second] [])) := fun tt h => castTop (own_ef8 m x1 y1) h
  replace k : own_K p.tables e below (s₁.setTop (entryFrame m #[(.long x1), (.long y1)] 4)) (s₁.setTop (mkF m 1 #[.val (.long x1), .second, .val (.long y1), .second] [(.long x1)])) := fun tt h => k tt (XS.lloadN X0.here hx rfl (hb hby own_d13_0) rfl h)
  replace k : own_K p.tables e below (s₁.setTop (entryFrame m #[(.long x1), (.long y1)] 4)) (s₁.setTop (mkF m 2 #[.val (.long x1), .second, .val (.long y1), .second] [(.long y1), (.long x1)])) := fun tt h => k tt (XS.lloadN X0.here hx rfl (hb hby own_d13_1) rfl h)
  replace k : own_K p.tables e below (s₁.setTop (entryFrame m #[(.long x1), (.long y1)] 4)) (s₁.setTop (mkF m 3 #[.val (.long x1), .second, .val (.long y1), .second] [(.int (lcmpW x1 y1))])) := fun tt h => k tt (XS.lcmp X0.here hx rfl (hb hby own_d13_2) rfl h)
  by_cases cc1 : x1 < y1
  · replace k : own_K p.tables e below (s₁.setTop (entryFrame m #[(.long x1), (.long y1)] 4)) (s₁.setTop (mkF m 10 #[.val (.long x1), .second, .val (.long y1), .second] [])) := fun tt h => k tt (XS.ifYes X0.here hx rfl (pc0 := 3) (pc' := 10) rfl (hb hby own_d13_3) rfl ((if0 _ _).trans (tlt ((lw_lt _ _).mpr cc1)).1) (by decide) (by decide) h)
    replace k : own_K p.tables e below (s₁.setTop (entryFrame m #[(.long x1), (.long y1)] 4)) (s₁.setTop (mkF m 11 #[.val (.long x1), .second, .val (.long y1), .second] [(.long y1)])) := fun tt h => k tt (XS.lloadN X0.here hx rfl (hb hby own_d13_10) rfl h)
    obtain ⟨fs, hr, hrun, hended, hW, hsame⟩ := X0.leave (v := some (.long y1)) (fun h => by rw [Bd.returns] at h; cases h) Bd.notSynchronized
    refine ⟨_, _, k _ (retOut X0 hx Bd.returns rfl (Or.inr (Or.inl ⟨rfl, rfl, _, rfl⟩)) (hb hby own_d13_11) hr), hrun, hended, _, _, rfl, ?_, ⟨_, rfl⟩, hW, hsame.mono (by decide) (by decide)⟩
    show Q8 Z x1 y1 h0 n0 _ s₁.heap _
    rw [e0]
    exact ⟨(by simp [own_max, cc1]), N0, rfl⟩
  · replace k : own_K p.tables e below (s₁.setTop (entryFrame m #[(.long x1), (.long y1)] 4)) (s₁.setTop (mkF m 6 #[.val (.long x1), .second, .val (.long y1), .second] [])) := fun tt h => k tt (XS.ifNo X0.here hx rfl (hb hby own_d13_3) rfl ((if0 _ _).trans (flt (fun q => cc1 ((lw_lt _ _).mp q))).1) h)
    replace k : own_K p.tables e below (s₁.setTop (entryFrame m #[(.long x1), (.long y1)] 4)) (s₁.setTop (mkF m 7 #[.val (.long x1), .second, .val (.long y1), .second] [(.long x1)])) := fun tt h => k tt (XS.lloadN X0.here hx rfl (hb hby own_d13_6) rfl h)
    replace k : own_K p.tables e below (s₁.setTop (entryFrame m #[(.long x1), (.long y1)] 4)) (s₁.setTop (mkF m 11 #[.val (.long x1), .second, .val (.long y1), .second] [(.long x1)])) := fun tt h => k tt (XS.goto X0.here hx rfl (pc0 := 7) (pc' := 11) rfl (hb hby own_d13_7) (by decide) (by decide) h)
    obtain ⟨fs, hr, hrun, hended, hW, hsame⟩ := X0.leave (v := some (.long x1)) (fun h => by rw [Bd.returns] at h; cases h) Bd.notSynchronized
    refine ⟨_, _, k _ (retOut X0 hx Bd.returns rfl (Or.inr (Or.inl ⟨rfl, rfl, _, rfl⟩)) (hb hby own_d13_11) hr), hrun, hended, _, _, rfl, ?_, ⟨_, rfl⟩, hW, hsame.mono (by decide) (by decide)⟩
    show Q8 Z x1 y1 h0 n0 _ s₁.heap _
    rw [e0]
    exact ⟨(by simp [own_max, cc1]), N0, rfl⟩
theorem own_d10_0 : decode jdk_29_method_49_code 0 = .ok (.lload_n 0, 1) := by decide +kernel
theorem own_d10_1 : decode jdk_29_method_49_code 1 = .ok (.lload_n 2, 1) := by decide +kernel
theorem own_d10_2 : decode jdk_29_method_49_code 2 = .ok (.ldiv, 1) := by decide +kernel
theorem own_d10_3 : decode jdk_29_method_49_code 3 = .ok (.lstore 4, 2) := by decide +kernel
theorem own_d10_5 : decode jdk_29_method_49_code 5 = .ok (.lload_n 0, 1) := by decide +kernel
theorem own_d10_6 : decode jdk_29_method_49_code 6 = .ok (.lload_n 2, 1) := by decide +kernel
theorem own_d10_7 : decode jdk_29_method_49_code 7 = .ok (.lxor, 1) := by decide +kernel
theorem own_d10_8 : decode jdk_29_method_49_code 8 = .ok (.lconst 0, 1) := by decide +kernel
theorem own_d10_9 : decode jdk_29_method_49_code 9 = .ok (.lcmp, 1) := by decide +kernel
theorem own_d10_10 : decode jdk_29_method_49_code 10 = .ok (.ifCond .ge 17, 3) := by decide +kernel
theorem own_d10_13 : decode jdk_29_method_49_code 13 = .ok (.lload 4, 2) := by decide +kernel
theorem own_d10_15 : decode jdk_29_method_49_code 15 = .ok (.lload_n 2, 1) := by decide +kernel
theorem own_d10_16 : decode jdk_29_method_49_code 16 = .ok (.lmul, 1) := by decide +kernel
theorem own_d10_17 : decode jdk_29_method_49_code 17 = .ok (.lload_n 0, 1) := by decide +kernel
theorem own_d10_18 : decode jdk_29_method_49_code 18 = .ok (.lcmp, 1) := by decide +kernel
theorem own_d10_19 : decode jdk_29_method_49_code 19 = .ok (.ifCond .eq 8, 3) := by decide +kernel
theorem own_d10_22 : decode jdk_29_method_49_code 22 = .ok (.lload 4, 2) := by decide +kernel
theorem own_d10_24 : decode jdk_29_method_49_code 24 = .ok (.lconst 1, 1) := by decide +kernel
theorem own_d10_25 : decode jdk_29_method_49_code 25 = .ok (.lsub, 1) := by decide +kernel
theorem own_d10_26 : decode jdk_29_method_49_code 26 = .ok (.lreturn, 1) := by decide +kernel
theorem own_d10_27 : decode jdk_29_method_49_code 27 = .ok (.lload 4, 2) := by decide +kernel
theorem own_d10_29 : decode jdk_29_method_49_code 29 = .ok (.lreturn, 1) := by decide +kernel
theorem own_ef9 (m : MethodId) (y0 : Int64) (y1 : Int64) : entryFrame m #[(.long y0), (.long y1)] 6 = mkF m 0 #[.val (.long y0), .second, .val (.long y1), .second, .unset, .unset] [] := by first | (simp [entryFrame, mkF, argsToLocals, Value.category]; done) | rfl
def Q9 (Z : State) (x1 : Int64) (y1 : Int64) (h0 : Heap) (n0 : Nat) (v : Option Value) (h : Heap) (L : List Loc) : Prop := v = some (.long (own_fd x1 y1)) ∧ Fr n0 L ∧ h = h0
set_option maxRecDepth 65536 in
set_option maxHeartbeats 40000000 in
theorem rm9 (l : Launch) (Z : State) (a0 : Array Value) (hw : ∀ d ∈ tables_1, d.before a0 Z = true) (ws : List Jvm.Cond) (x1 : Int64) (y1 : Int64) (h0 : Heap) (n0 : Nat) (hy : y1 ≠ 0) :
    MetFree l (⟨"java/lang/Math", "floorDiv", "(JJ)J"⟩ : MethodName) (head1 (Jvm.Cond.code (⟨"java/lang/Math", "floorDiv", "(JJ)J"⟩ : MethodName) jdk_29_method_49_code 6 (some .long) :: ws) ({ frames := 0, cells := 0, slots := 0, locals := 0 } : Room)) (fun aaz U => aaz = #[(.long x1), (.long y1)] ∧ Z.Warmed39 U.vm ∧ U.heap = h0) (fun _ _ _ _ _ => True) (fun _ U o U' => ∃ v L, o = .returned v ∧ Q9 Z x1 y1 h0 n0 v U'.heap L ∧ FrameEnd U o U' L ({ frames := 0, cells := 0, slots := 0, locals := 0 } : Room).cells ({ frames := 0, cells := 0, slots := 0, locals := 0 } : Room).slots) := by
  refine MetFree.of_bodySF (Jvm.Free.JP.mathPlain rfl (by decide +kernel)) hisR ?_
  intro p e s m args below meth cde s₁ Bd hml0 hP hK
  obtain ⟨rfl, hZ, hh⟩ := hP
  have hx := Bd.exec
  have hby := Bd.bytes
  have hml : cde.maxLocals = 6 := hml0
  have hown : s.vm.findClass "java/lang/Math" = some m.cls := findClass_of_methodNamed Bd.named
  have hnm := (name_of_methodNamed Bd.named Bd.method).1
  have X0 : Stand p l e ({ frames := 0, cells := 0, slots := 0, locals := 0 } : Room) s m #[(.long x1), (.long y1)] below meth cde s₁ [] 0 0 := Stand.of_body Bd
  have e0 : s₁.heap = h0 := by rw [← hh, Bd.state]; rfl
  have N0 := Fr.nil n0
  have k : own_K p.tables e below (s₁.setTop (entryFrame m #[(.long x1), (.long y1)] 6)) (s₁.setTop (mkF m 0 #[.val (.long x1), .second, .val (.long y1), .second, .unset, .unset] [])) := fun tt h => castTop (own_ef9 m x1 y1) h
  replace k : own_K p.tables e below (s₁.setTop (entryFrame m #[(.long x1), (.long y1)] 6)) (s₁.setTop (mkF m 1 #[.val (.long x1), .second, .val (.long y1), .second, .unset, .unset] [(.long x1)])) := fun tt h => k tt (XS.lloadN X0.here hx rfl (hb hby own_d10_0) rfl h)
  replace k : own_K p.tables e below (s₁.setTop (entryFrame m #[(.long x1), (.long y1)] 6)) (s₁.setTop (mkF m 2 #[.val (.long x1), .second, .val (.long y1), .second, .unset, .unset] [(.long y1), (.long x1)])) := fun tt h => k tt (XS.lloadN X0.here hx rfl (hb hby own_d10_1) rfl h)
  replace k : own_K p.tables e below (s₁.setTop (entryFrame m #[(.long x1), (.long y1)] 6)) (s₁.setTop (mkF m 3 #[.val (.long x1), .second, .val (.long y1), .second, .unset, .unset] [(.long (x1 / y1))])) := fun tt h => k tt (XS.ldiv X0.here hx rfl (hb hby own_d10_2) rfl hy h)
  replace k : own_K p.tables e below (s₁.setTop (entryFrame m #[(.long x1), (.long y1)] 6)) (s₁.setTop (mkF m 5 #[.val (.long x1), .second, .val (.long y1), .second, .val (.long (x1 / y1)), .second] [])) := fun tt h => k tt (XS.lstore X0.here hx rfl (hb hby own_d10_3) rfl (l' := #[.val (.long x1), .second, .val (.long y1), .second, .val (.long (x1 / y1)), .second]) rfl h)
  replace k : own_K p.tables e below (s₁.setTop (entryFrame m #[(.long x1), (.long y1)] 6)) (s₁.setTop (mkF m 6 #[.val (.long x1), .second, .val (.long y1), .second, .val (.long (x1 / y1)), .second] [(.long x1)])) := fun tt h => k tt (XS.lloadN X0.here hx rfl (hb hby own_d10_5) rfl h)
  replace k : own_K p.tables e below (s₁.setTop (entryFrame m #[(.long x1), (.long y1)] 6)) (s₁.setTop (mkF m 7 #[.val (.long x1), .second, .val (.long y1), .second, .val (.long (x1 / y1)), .second] [(.long y1), (.long x1)])) := fun tt h => k tt (XS.lloadN X0.here hx rfl (hb hby own_d10_6) rfl h)
  replace k : own_K p.tables e below (s₁.setTop (entryFrame m #[(.long x1), (.long y1)] 6)) (s₁.setTop (mkF m 8 #[.val (.long x1), .second, .val (.long y1), .second, .val (.long (x1 / y1)), .second] [(.long (x1 ^^^ y1))])) := fun tt h => k tt (XS.lxor X0.here hx rfl (hb hby own_d10_7) rfl h)
  replace k : own_K p.tables e below (s₁.setTop (entryFrame m #[(.long x1), (.long y1)] 6)) (s₁.setTop (mkF m 9 #[.val (.long x1), .second, .val (.long y1), .second, .val (.long (x1 / y1)), .second] [(.long (0 : Int64)), (.long (x1 ^^^ y1))])) := fun tt h => k tt (XS.lconst X0.here hx rfl (hb hby own_d10_8) h)
  replace k : own_K p.tables e below (s₁.setTop (entryFrame m #[(.long x1), (.long y1)] 6)) (s₁.setTop (mkF m 10 #[.val (.long x1), .second, .val (.long y1), .second, .val (.long (x1 / y1)), .second] [(.int (lcmpW (x1 ^^^ y1) (0 : Int64)))])) := fun tt h => k tt (XS.lcmp X0.here hx rfl (hb hby own_d10_9) rfl h)
  by_cases cc1 : (x1 ^^^ y1) < (0 : Int64)
  · replace k : own_K p.tables e below (s₁.setTop (entryFrame m #[(.long x1), (.long y1)] 6)) (s₁.setTop (mkF m 13 #[.val (.long x1), .second, .val (.long y1), .second, .val (.long (x1 / y1)), .second] [])) := fun tt h => k tt (XS.ifNo X0.here hx rfl (hb hby own_d10_10) rfl ((if0 _ _).trans (tlt ((lw_lt _ _).mpr cc1)).2.1) h)
    replace k : own_K p.tables e below (s₁.setTop (entryFrame m #[(.long x1), (.long y1)] 6)) (s₁.setTop (mkF m 15 #[.val (.long x1), .second, .val (.long y1), .second, .val (.long (x1 / y1)), .second] [(.long (x1 / y1))])) := fun tt h => k tt (XS.lload X0.here hx rfl (hb hby own_d10_13) rfl h)
    replace k : own_K p.tables e below (s₁.setTop (entryFrame m #[(.long x1), (.long y1)] 6)) (s₁.setTop (mkF m 16 #[.val (.long x1), .second, .val (.long y1), .second, .val (.long (x1 / y1)), .second] [(.long y1), (.long (x1 / y1))])) := fun tt h => k tt (XS.lloadN X0.here hx rfl (hb hby own_d10_15) rfl h)
    replace k : own_K p.tables e below (s₁.setTop (entryFrame m #[(.long x1), (.long y1)] 6)) (s₁.setTop (mkF m 17 #[.val (.long x1), .second, .val (.long y1), .second, .val (.long (x1 / y1)), .second] [(.long ((x1 / y1) * y1))])) := fun tt h => k tt (XS.lmul X0.here hx rfl (hb hby own_d10_16) rfl h)
    replace k : own_K p.tables e below (s₁.setTop (entryFrame m #[(.long x1), (.long y1)] 6)) (s₁.setTop (mkF m 18 #[.val (.long x1), .second, .val (.long y1), .second, .val (.long (x1 / y1)), .second] [(.long x1), (.long ((x1 / y1) * y1))])) := fun tt h => k tt (XS.lloadN X0.here hx rfl (hb hby own_d10_17) rfl h)
    replace k : own_K p.tables e below (s₁.setTop (entryFrame m #[(.long x1), (.long y1)] 6)) (s₁.setTop (mkF m 19 #[.val (.long x1), .second, .val (.long y1), .second, .val (.long (x1 / y1)), .second] [(.int (lcmpW ((x1 / y1) * y1) x1))])) := fun tt h => k tt (XS.lcmp X0.here hx rfl (hb hby own_d10_18) rfl h)
    by_cases cc2 : ((x1 / y1) * y1) = x1
    · replace k : own_K p.tables e below (s₁.setTop (entryFrame m #[(.long x1), (.long y1)] 6)) (s₁.setTop (mkF m 27 #[.val (.long x1), .second, .val (.long y1), .second, .val (.long (x1 / y1)), .second] [])) := fun tt h => k tt (XS.ifYes X0.here hx rfl (pc0 := 19) (pc' := 27) rfl (hb hby own_d10_19) rfl ((if0 _ _).trans (teq ((lw_eq _ _).mpr cc2)).1) (by decide) (by decide) h)
      replace k : own_K p.tables e below (s₁.setTop (entryFrame m #[(.long x1), (.long y1)] 6)) (s₁.setTop (mkF m 29 #[.val (.long x1), .second, .val (.long y1), .second, .val (.long (x1 / y1)), .second] [(.long (x1 / y1))])) := fun tt h => k tt (XS.lload X0.here hx rfl (hb hby own_d10_27) rfl h)
      obtain ⟨fs, hr, hrun, hended, hW, hsame⟩ := X0.leave (v := some (.long (x1 / y1))) (fun h => by rw [Bd.returns] at h; cases h) Bd.notSynchronized
      refine ⟨_, _, k _ (retOut X0 hx Bd.returns rfl (Or.inr (Or.inl ⟨rfl, rfl, _, rfl⟩)) (hb hby own_d10_29) hr), hrun, hended, _, _, rfl, ?_, ⟨_, rfl⟩, hW, hsame.mono (by decide) (by decide)⟩
      show Q9 Z x1 y1 h0 n0 _ s₁.heap _
      rw [e0]
      exact ⟨(by simp [own_fd, cc1, cc2]), N0, rfl⟩
    · replace k : own_K p.tables e below (s₁.setTop (entryFrame m #[(.long x1), (.long y1)] 6)) (s₁.setTop (mkF m 22 #[.val (.long x1), .second, .val (.long y1), .second, .val (.long (x1 / y1)), .second] [])) := fun tt h => k tt (XS.ifNo X0.here hx rfl (hb hby own_d10_19) rfl ((if0 _ _).trans (feq (fun q => cc2 ((lw_eq _ _).mp q))).1) h)
      replace k : own_K p.tables e below (s₁.setTop (entryFrame m #[(.long x1), (.long y1)] 6)) (s₁.setTop (mkF m 24 #[.val (.long x1), .second, .val (.long y1), .second, .val (.long (x1 / y1)), .second] [(.long (x1 / y1))])) := fun tt h => k tt (XS.lload X0.here hx rfl (hb hby own_d10_22) rfl h)
      replace k : own_K p.tables e below (s₁.setTop (entryFrame m #[(.long x1), (.long y1)] 6)) (s₁.setTop (mkF m 25 #[.val (.long x1), .second, .val (.long y1), .second, .val (.long (x1 / y1)), .second] [(.long (1 : Int64)), (.long (x1 / y1))])) := fun tt h => k tt (XS.lconst X0.here hx rfl (hb hby own_d10_24) h)
      replace k : own_K p.tables e below (s₁.setTop (entryFrame m #[(.long x1), (.long y1)] 6)) (s₁.setTop (mkF m 26 #[.val (.long x1), .second, .val (.long y1), .second, .val (.long (x1 / y1)), .second] [(.long ((x1 / y1) - (1 : Int64)))])) := fun tt h => k tt (XS.lsub X0.here hx rfl (hb hby own_d10_25) rfl h)
      obtain ⟨fs, hr, hrun, hended, hW, hsame⟩ := X0.leave (v := some (.long ((x1 / y1) - (1 : Int64)))) (fun h => by rw [Bd.returns] at h; cases h) Bd.notSynchronized
      refine ⟨_, _, k _ (retOut X0 hx Bd.returns rfl (Or.inr (Or.inl ⟨rfl, rfl, _, rfl⟩)) (hb hby own_d10_26) hr), hrun, hended, _, _, rfl, ?_, ⟨_, rfl⟩, hW, hsame.mono (by decide) (by decide)⟩
      show Q9 Z x1 y1 h0 n0 _ s₁.heap _
      rw [e0]
      exact ⟨(by simp [own_fd, cc1, cc2]), N0, rfl⟩
  · replace k : own_K p.tables e below (s₁.setTop (entryFrame m #[(.long x1), (.long y1)] 6)) (s₁.setTop (mkF m 27 #[.val (.long x1), .second, .val (.long y1), .second, .val (.long (x1 / y1)), .second] [])) := fun tt h => k tt (XS.ifYes X0.here hx rfl (pc0 := 10) (pc' := 27) rfl (hb hby own_d10_10) rfl ((if0 _ _).trans (flt (fun q => cc1 ((lw_lt _ _).mp q))).2.1) (by decide) (by decide) h)
    replace k : own_K p.tables e below (s₁.setTop (entryFrame m #[(.long x1), (.long y1)] 6)) (s₁.setTop (mkF m 29 #[.val (.long x1), .second, .val (.long y1), .second, .val (.long (x1 / y1)), .second] [(.long (x1 / y1))])) := fun tt h => k tt (XS.lload X0.here hx rfl (hb hby own_d10_27) rfl h)
    obtain ⟨fs, hr, hrun, hended, hW, hsame⟩ := X0.leave (v := some (.long (x1 / y1))) (fun h => by rw [Bd.returns] at h; cases h) Bd.notSynchronized
    refine ⟨_, _, k _ (retOut X0 hx Bd.returns rfl (Or.inr (Or.inl ⟨rfl, rfl, _, rfl⟩)) (hb hby own_d10_29) hr), hrun, hended, _, _, rfl, ?_, ⟨_, rfl⟩, hW, hsame.mono (by decide) (by decide)⟩
    show Q9 Z x1 y1 h0 n0 _ s₁.heap _
    rw [e0]
    exact ⟨(by simp [own_fd, cc1]), N0, rfl⟩
theorem own_pn4 : plainName "com/example/intrvl/intrvl/fixedwindow/FixedWindowIsEmptyPinLaw" = true := by first | (simp [plainName, overriddenIn]; done) | decide +kernel
theorem own_d15_0 : decode method_2_code 0 = .ok (.lload_n 0, 1) := by decide +kernel
theorem own_d15_1 : decode method_2_code 1 = .ok (.lload_n 2, 1) := by decide +kernel
theorem own_d15_2 : decode method_2_code 2 = .ok (.ldiv, 1) := by decide +kernel
theorem own_d15_3 : decode method_2_code 3 = .ok (.lstore 4, 2) := by decide +kernel
theorem own_d15_5 : decode method_2_code 5 = .ok (.lload_n 0, 1) := by decide +kernel
theorem own_d15_6 : decode method_2_code 6 = .ok (.lload_n 2, 1) := by decide +kernel
theorem own_d15_7 : decode method_2_code 7 = .ok (.lrem, 1) := by decide +kernel
theorem own_d15_8 : decode method_2_code 8 = .ok (.lconst 0, 1) := by decide +kernel
theorem own_d15_9 : decode method_2_code 9 = .ok (.lcmp, 1) := by decide +kernel
theorem own_d15_10 : decode method_2_code 10 = .ok (.ifCond .ge 9, 3) := by decide +kernel
theorem own_d15_13 : decode method_2_code 13 = .ok (.lload 4, 2) := by decide +kernel
theorem own_d15_15 : decode method_2_code 15 = .ok (.lconst 1, 1) := by decide +kernel
theorem own_d15_16 : decode method_2_code 16 = .ok (.lsub, 1) := by decide +kernel
theorem own_d15_17 : decode method_2_code 17 = .ok (.lstore 4, 2) := by decide +kernel
theorem own_d15_19 : decode method_2_code 19 = .ok (.lload 4, 2) := by decide +kernel
theorem own_d15_21 : decode method_2_code 21 = .ok (.lreturn, 1) := by decide +kernel
theorem own_ef10 (m : MethodId) (y0 : Int64) (y1 : Int64) : entryFrame m #[(.long y0), (.long y1)] 6 = mkF m 0 #[.val (.long y0), .second, .val (.long y1), .second, .unset, .unset] [] := by first | (simp [entryFrame, mkF, argsToLocals, Value.category]; done) | rfl
def Q10 (Z : State) (x1 : Int64) (y1 : Int64) (h0 : Heap) (n0 : Nat) (v : Option Value) (h : Heap) (L : List Loc) : Prop := v = some (.long (own_fw x1 y1)) ∧ Fr n0 L ∧ h = h0
set_option maxRecDepth 65536 in
set_option maxHeartbeats 40000000 in
theorem rm10 (l : Launch) (Z : State) (a0 : Array Value) (hw : ∀ d ∈ tables_1, d.before a0 Z = true) (ws : List Jvm.Cond) (x1 : Int64) (y1 : Int64) (h0 : Heap) (n0 : Nat) (hy : y1 ≠ 0) :
    MetFree l (⟨"com/example/intrvl/intrvl/fixedwindow/FixedWindowIsEmptyPinLaw", "floorWin", "(JJ)J"⟩ : MethodName) (head1 (Jvm.Cond.code (⟨"com/example/intrvl/intrvl/fixedwindow/FixedWindowIsEmptyPinLaw", "floorWin", "(JJ)J"⟩ : MethodName) method_2_code 6 (some .long) :: ws) ({ frames := 0, cells := 0, slots := 0, locals := 0 } : Room)) (fun aaz U => aaz = #[(.long x1), (.long y1)] ∧ Z.Warmed39 U.vm ∧ U.heap = h0) (fun _ _ _ _ _ => True) (fun _ U o U' => ∃ v L, o = .returned v ∧ Q10 Z x1 y1 h0 n0 v U'.heap L ∧ FrameEnd U o U' L ({ frames := 0, cells := 0, slots := 0, locals := 0 } : Room).cells ({ frames := 0, cells := 0, slots := 0, locals := 0 } : Room).slots) := by
  refine MetFree.of_bodySF (plainFor_of_name own_pn4) hisR ?_
  intro p e s m args below meth cde s₁ Bd hml0 hP hK
  obtain ⟨rfl, hZ, hh⟩ := hP
  have hx := Bd.exec
  have hby := Bd.bytes
  have hml : cde.maxLocals = 6 := hml0
  have hown : s.vm.findClass "com/example/intrvl/intrvl/fixedwindow/FixedWindowIsEmptyPinLaw" = some m.cls := findClass_of_methodNamed Bd.named
  have hnm := (name_of_methodNamed Bd.named Bd.method).1
  have X0 : Stand p l e ({ frames := 0, cells := 0, slots := 0, locals := 0 } : Room) s m #[(.long x1), (.long y1)] below meth cde s₁ [] 0 0 := Stand.of_body Bd
  have e0 : s₁.heap = h0 := by rw [← hh, Bd.state]; rfl
  have N0 := Fr.nil n0
  have k : own_K p.tables e below (s₁.setTop (entryFrame m #[(.long x1), (.long y1)] 6)) (s₁.setTop (mkF m 0 #[.val (.long x1), .second, .val (.long y1), .second, .unset, .unset] [])) := fun tt h => castTop (own_ef10 m x1 y1) h
  replace k : own_K p.tables e below (s₁.setTop (entryFrame m #[(.long x1), (.long y1)] 6)) (s₁.setTop (mkF m 1 #[.val (.long x1), .second, .val (.long y1), .second, .unset, .unset] [(.long x1)])) := fun tt h => k tt (XS.lloadN X0.here hx rfl (hb hby own_d15_0) rfl h)
  replace k : own_K p.tables e below (s₁.setTop (entryFrame m #[(.long x1), (.long y1)] 6)) (s₁.setTop (mkF m 2 #[.val (.long x1), .second, .val (.long y1), .second, .unset, .unset] [(.long y1), (.long x1)])) := fun tt h => k tt (XS.lloadN X0.here hx rfl (hb hby own_d15_1) rfl h)
  replace k : own_K p.tables e below (s₁.setTop (entryFrame m #[(.long x1), (.long y1)] 6)) (s₁.setTop (mkF m 3 #[.val (.long x1), .second, .val (.long y1), .second, .unset, .unset] [(.long (x1 / y1))])) := fun tt h => k tt (XS.ldiv X0.here hx rfl (hb hby own_d15_2) rfl hy h)
  replace k : own_K p.tables e below (s₁.setTop (entryFrame m #[(.long x1), (.long y1)] 6)) (s₁.setTop (mkF m 5 #[.val (.long x1), .second, .val (.long y1), .second, .val (.long (x1 / y1)), .second] [])) := fun tt h => k tt (XS.lstore X0.here hx rfl (hb hby own_d15_3) rfl (l' := #[.val (.long x1), .second, .val (.long y1), .second, .val (.long (x1 / y1)), .second]) rfl h)
  replace k : own_K p.tables e below (s₁.setTop (entryFrame m #[(.long x1), (.long y1)] 6)) (s₁.setTop (mkF m 6 #[.val (.long x1), .second, .val (.long y1), .second, .val (.long (x1 / y1)), .second] [(.long x1)])) := fun tt h => k tt (XS.lloadN X0.here hx rfl (hb hby own_d15_5) rfl h)
  replace k : own_K p.tables e below (s₁.setTop (entryFrame m #[(.long x1), (.long y1)] 6)) (s₁.setTop (mkF m 7 #[.val (.long x1), .second, .val (.long y1), .second, .val (.long (x1 / y1)), .second] [(.long y1), (.long x1)])) := fun tt h => k tt (XS.lloadN X0.here hx rfl (hb hby own_d15_6) rfl h)
  replace k : own_K p.tables e below (s₁.setTop (entryFrame m #[(.long x1), (.long y1)] 6)) (s₁.setTop (mkF m 8 #[.val (.long x1), .second, .val (.long y1), .second, .val (.long (x1 / y1)), .second] [(.long (x1 % y1))])) := fun tt h => k tt (own_lremM X0 hx rfl (hb hby own_d15_7) rfl hy h)
  replace k : own_K p.tables e below (s₁.setTop (entryFrame m #[(.long x1), (.long y1)] 6)) (s₁.setTop (mkF m 9 #[.val (.long x1), .second, .val (.long y1), .second, .val (.long (x1 / y1)), .second] [(.long (0 : Int64)), (.long (x1 % y1))])) := fun tt h => k tt (XS.lconst X0.here hx rfl (hb hby own_d15_8) h)
  replace k : own_K p.tables e below (s₁.setTop (entryFrame m #[(.long x1), (.long y1)] 6)) (s₁.setTop (mkF m 10 #[.val (.long x1), .second, .val (.long y1), .second, .val (.long (x1 / y1)), .second] [(.int (lcmpW (x1 % y1) (0 : Int64)))])) := fun tt h => k tt (XS.lcmp X0.here hx rfl (hb hby own_d15_9) rfl h)
  by_cases cc1 : (x1 % y1) < (0 : Int64)
  · replace k : own_K p.tables e below (s₁.setTop (entryFrame m #[(.long x1), (.long y1)] 6)) (s₁.setTop (mkF m 13 #[.val (.long x1), .second, .val (.long y1), .second, .val (.long (x1 / y1)), .second] [])) := fun tt h => k tt (XS.ifNo X0.here hx rfl (hb hby own_d15_10) rfl ((if0 _ _).trans (tlt ((lw_lt _ _).mpr cc1)).2.1) h)
    replace k : own_K p.tables e below (s₁.setTop (entryFrame m #[(.long x1), (.long y1)] 6)) (s₁.setTop (mkF m 15 #[.val (.long x1), .second, .val (.long y1), .second, .val (.long (x1 / y1)), .second] [(.long (x1 / y1))])) := fun tt h => k tt (XS.lload X0.here hx rfl (hb hby own_d15_13) rfl h)
    replace k : own_K p.tables e below (s₁.setTop (entryFrame m #[(.long x1), (.long y1)] 6)) (s₁.setTop (mkF m 16 #[.val (.long x1), .second, .val (.long y1), .second, .val (.long (x1 / y1)), .second] [(.long (1 : Int64)), (.long (x1 / y1))])) := fun tt h => k tt (XS.lconst X0.here hx rfl (hb hby own_d15_15) h)
    replace k : own_K p.tables e below (s₁.setTop (entryFrame m #[(.long x1), (.long y1)] 6)) (s₁.setTop (mkF m 17 #[.val (.long x1), .second, .val (.long y1), .second, .val (.long (x1 / y1)), .second] [(.long ((x1 / y1) - (1 : Int64)))])) := fun tt h => k tt (XS.lsub X0.here hx rfl (hb hby own_d15_16) rfl h)
    replace k : own_K p.tables e below (s₁.setTop (entryFrame m #[(.long x1), (.long y1)] 6)) (s₁.setTop (mkF m 19 #[.val (.long x1), .second, .val (.long y1), .second, .val (.long ((x1 / y1) - (1 : Int64))), .second] [])) := fun tt h => k tt (XS.lstore X0.here hx rfl (hb hby own_d15_17) rfl (l' := #[.val (.long x1), .second, .val (.long y1), .second, .val (.long ((x1 / y1) - (1 : Int64))), .second]) rfl h)
    replace k : own_K p.tables e below (s₁.setTop (entryFrame m #[(.long x1), (.long y1)] 6)) (s₁.setTop (mkF m 21 #[.val (.long x1), .second, .val (.long y1), .second, .val (.long ((x1 / y1) - (1 : Int64))), .second] [(.long ((x1 / y1) - (1 : Int64)))])) := fun tt h => k tt (XS.lload X0.here hx rfl (hb hby own_d15_19) rfl h)
    obtain ⟨fs, hr, hrun, hended, hW, hsame⟩ := X0.leave (v := some (.long ((x1 / y1) - (1 : Int64)))) (fun h => by rw [Bd.returns] at h; cases h) Bd.notSynchronized
    refine ⟨_, _, k _ (retOut X0 hx Bd.returns rfl (Or.inr (Or.inl ⟨rfl, rfl, _, rfl⟩)) (hb hby own_d15_21) hr), hrun, hended, _, _, rfl, ?_, ⟨_, rfl⟩, hW, hsame.mono (by decide) (by decide)⟩
    show Q10 Z x1 y1 h0 n0 _ s₁.heap _
    rw [e0]
    exact ⟨(by simp [own_fw, cc1]), N0, rfl⟩
  · replace k : own_K p.tables e below (s₁.setTop (entryFrame m #[(.long x1), (.long y1)] 6)) (s₁.setTop (mkF m 19 #[.val (.long x1), .second, .val (.long y1), .second, .val (.long (x1 / y1)), .second] [])) := fun tt h => k tt (XS.ifYes X0.here hx rfl (pc0 := 10) (pc' := 19) rfl (hb hby own_d15_10) rfl ((if0 _ _).trans (flt (fun q => cc1 ((lw_lt _ _).mp q))).2.1) (by decide) (by decide) h)
    replace k : own_K p.tables e below (s₁.setTop (entryFrame m #[(.long x1), (.long y1)] 6)) (s₁.setTop (mkF m 21 #[.val (.long x1), .second, .val (.long y1), .second, .val (.long (x1 / y1)), .second] [(.long (x1 / y1))])) := fun tt h => k tt (XS.lload X0.here hx rfl (hb hby own_d15_19) rfl h)
    obtain ⟨fs, hr, hrun, hended, hW, hsame⟩ := X0.leave (v := some (.long (x1 / y1))) (fun h => by rw [Bd.returns] at h; cases h) Bd.notSynchronized
    refine ⟨_, _, k _ (retOut X0 hx Bd.returns rfl (Or.inr (Or.inl ⟨rfl, rfl, _, rfl⟩)) (hb hby own_d15_21) hr), hrun, hended, _, _, rfl, ?_, ⟨_, rfl⟩, hW, hsame.mono (by decide) (by decide)⟩
    show Q10 Z x1 y1 h0 n0 _ s₁.heap _
    rw [e0]
    exact ⟨(by simp [own_fw, cc1]), N0, rfl⟩
theorem own_pn5 : plainName "com/example/intrvl/intrvl/fixedwindow/FixedWindow" = true := by first | (simp [plainName, overriddenIn]; done) | decide +kernel
theorem own_d7_0 : decode prog_3_method_1_code 0 = .ok (.aload_n 0, 1) := by decide +kernel
theorem own_d7_1 : decode prog_3_method_1_code 1 = .ok (.invokespecial 1, 3) := by decide +kernel
theorem own_d7_4 : decode prog_3_method_1_code 4 = .ok (.aload_n 0, 1) := by decide +kernel
theorem own_d7_5 : decode prog_3_method_1_code 5 = .ok (.ldc2_w 9, 3) := by decide +kernel
theorem own_d7_8 : decode prog_3_method_1_code 8 = .ok (.putfield 11, 3) := by decide +kernel
theorem own_d7_11 : decode prog_3_method_1_code 11 = .ok (.return_, 1) := by decide +kernel
theorem own_ef11 (m : MethodId) (y0 : Addr) : entryFrame m #[(.ref y0)] 1 = mkF m 0 #[.val (.ref y0)] [] := by first | (simp [entryFrame, mkF, argsToLocals, Value.category]; done) | rfl
def Q11 (Z : State) (a1 : Addr) (u0 : Value) (A0 : Int32) (h0 : Heap) (n0 : Nat) (v : Option Value) (h : Heap) (L : List Loc) : Prop := v = none ∧ Fr n0 L ∧ Keep h0 h [a1] ∧ Exa Z h a1 "com/example/intrvl/intrvl/fixedwindow/FixedWindow" ∧ Fld Z h a1 "com/example/intrvl/intrvl/fixedwindow/FixedWindow" "window" "J" (.long (-9223372036854775808 : Int64)) ∧ Fld Z h a1 "com/example/intrvl/intrvl/fixedwindow/FixedWindow" "admitted" "I" (.int A0)
set_option maxRecDepth 65536 in
set_option maxHeartbeats 40000000 in
theorem rm11 (l : Launch) (Z : State) (a0 : Array Value) (hw : ∀ d ∈ tables_1, d.before a0 Z = true) (ws : List Jvm.Cond) (a1 : Addr) (u0 : Value) (A0 : Int32) (h0 : Heap) (n0 : Nat) (E1 : Exa Z h0 a1 "com/example/intrvl/intrvl/fixedwindow/FixedWindow") (g1 : n0 ≤ a1) (F_window : Fld Z h0 a1 "com/example/intrvl/intrvl/fixedwindow/FixedWindow" "window" "J" u0) (F_admitted : Fld Z h0 a1 "com/example/intrvl/intrvl/fixedwindow/FixedWindow" "admitted" "I" (.int A0)) :
    MetFree l (⟨"com/example/intrvl/intrvl/fixedwindow/FixedWindow", "<init>", "()V"⟩ : MethodName) (head1 (Jvm.Cond.code (⟨"com/example/intrvl/intrvl/fixedwindow/FixedWindow", "<init>", "()V"⟩ : MethodName) prog_3_method_1_code 1 none :: ws) ({ frames := 1, cells := 0, slots := 0, locals := 12 } : Room)) (fun aaz U => aaz = #[(.ref a1)] ∧ Z.Warmed39 U.vm ∧ U.heap = h0) (fun _ _ _ _ _ => True) (fun _ U o U' => ∃ v L, o = .returned v ∧ Q11 Z a1 u0 A0 h0 n0 v U'.heap L ∧ FrameEnd U o U' L ({ frames := 1, cells := 0, slots := 0, locals := 12 } : Room).cells ({ frames := 1, cells := 0, slots := 0, locals := 12 } : Room).slots) := by
  refine MetFree.of_bodySF (plainFor_of_name own_pn5) hisR ?_
  intro p e s m args below meth cde s₁ Bd hml0 hP hK
  obtain ⟨rfl, hZ, hh⟩ := hP
  have hx := Bd.exec
  have hby := Bd.bytes
  have hml : cde.maxLocals = 1 := hml0
  have hown : s.vm.findClass "com/example/intrvl/intrvl/fixedwindow/FixedWindow" = some m.cls := findClass_of_methodNamed Bd.named
  have hnm := (name_of_methodNamed Bd.named Bd.method).1
  have X0 : Stand p l e ({ frames := 1, cells := 0, slots := 0, locals := 12 } : Room) s m #[(.ref a1)] below meth cde s₁ [] 0 0 := Stand.of_body Bd
  have e0 : s₁.heap = h0 := by rw [← hh, Bd.state]; rfl
  have N0 := Fr.nil n0
  have k : own_K p.tables e below (s₁.setTop (entryFrame m #[(.ref a1)] 1)) (s₁.setTop (mkF m 0 #[.val (.ref a1)] [])) := fun tt h => castTop (own_ef11 m a1) h
  have K1 : Keep h0 h0 [a1] := Keep.refl h0 [a1]
  replace k : own_K p.tables e below (s₁.setTop (entryFrame m #[(.ref a1)] 1)) (s₁.setTop (mkF m 1 #[.val (.ref a1)] [(.ref a1)])) := fun tt h => k tt (XS.aloadN X0.here hx rfl (hb hby own_d7_0) rfl rfl h)
  obtain ⟨T1, X1, e1, st1⟩ := initO X0 hx hZ hown (hw _ (List.mem_of_getElem? (i := 53) rfl)) (hw _ (List.mem_of_getElem? (i := 19) rfl)) (hw _ (List.mem_of_getElem? (i := 20) rfl)) e0 (g := (mkF m 1 #[.val (.ref a1)] [(.ref a1)])) rfl (by rw [hml]; rfl) rfl (hb hby own_d7_1) (by decide) (W := 0) (by show 2 * 0 + _ ≤ _; exact Nat.le_of_eq rfl) (by decide)
  replace k : own_K p.tables e below (s₁.setTop (entryFrame m #[(.ref a1)] 1)) (T1.setTop (mkF m 4 #[.val (.ref a1)] [])) := fun tt h => k tt (st1 _ h)
  replace k : own_K p.tables e below (s₁.setTop (entryFrame m #[(.ref a1)] 1)) (T1.setTop (mkF m 5 #[.val (.ref a1)] [(.ref a1)])) := fun tt h => k tt (XS.aloadN X1.here hx rfl (hb hby own_d7_4) rfl rfl h)
  replace k : own_K p.tables e below (s₁.setTop (entryFrame m #[(.ref a1)] 1)) (T1.setTop (mkF m 8 #[.val (.ref a1)] [(.long (-9223372036854775808 : Int64)), (.ref a1)])) := fun tt h => k tt (X1.ldc2Long hx hown (mvT hZ (hw _ (List.mem_of_getElem? (i := 54) rfl))) (g := (mkF m 5 #[.val (.ref a1)] [(.ref a1)])) rfl (hb hby own_d7_5) _ h)
  obtain ⟨T2, h2, X2, e2, W2, st2⟩ := putF X1 hx hZ hown (host := "") (Or.inl (hw _ (List.mem_of_getElem? (i := 55) rfl))) Via.refl e1 F_window E1 (Or.inl (hw _ (List.mem_of_getElem? (i := 56) rfl))) (hw _ (List.mem_of_getElem? (i := 48) rfl)) (ty := .long) (by decide) rfl rfl (g := (mkF m 8 #[.val (.ref a1)] [(.long (-9223372036854775808 : Int64)), (.ref a1)])) rfl rfl (hb hby own_d7_8)
  have N2 := Fr.snoc X2 N0 g1
  replace k : own_K p.tables e below (s₁.setTop (entryFrame m #[(.ref a1)] 1)) (T2.setTop (mkF m 11 #[.val (.ref a1)] [])) := fun tt h => k tt (st2 _ h)
  replace F_window := F_window.same W2
  replace F_admitted := F_admitted.other W2 (Or.inr (slot_ne (Or.inl (hw _ (List.mem_of_getElem? (i := 72) rfl))) (Or.inl (hw _ (List.mem_of_getElem? (i := 56) rfl))) (by decide) (t := .int) (t' := .long) (by decide) (by decide)))
  replace E1 := E1.wr W2
  replace K1 := K1.wr W2 (Or.inl (List.mem_of_getElem? (i := 0) rfl))
  obtain ⟨fs, hr, hrun, hended, hW, hsame⟩ := X2.leave (v := none) (fun _ => rfl) Bd.notSynchronized
  refine ⟨_, _, k _ (X2.returnOut hx Bd.returns (hb hby own_d7_11) hr), hrun, hended, _, _, rfl, ?_, ⟨_, rfl⟩, hW, hsame.mono (by decide) (by decide)⟩
  show Q11 Z a1 u0 A0 h0 n0 _ T2.heap _
  rw [e2]
  exact ⟨rfl, N2, K1, E1, F_window, F_admitted⟩
theorem own_pd4 : parseMethodDescriptor "()J" = some ⟨[], some .long⟩ := by decide +kernel
theorem own_pd5 : parseMethodDescriptor "(JJ)J" = some ⟨[.long, .long], some .long⟩ := by decide +kernel
theorem own_pd6 : parseMethodDescriptor "()I" = some ⟨[], some .int⟩ := by decide +kernel
theorem own_d8_0 : decode prog_3_method_2_code 0 = .ok (.lload_n 1, 1) := by decide +kernel
theorem own_d8_1 : decode prog_3_method_2_code 1 = .ok (.aload_n 3, 1) := by decide +kernel
theorem own_d8_2 : decode prog_3_method_2_code 2 = .ok (.invokevirtual 17, 3) := by decide +kernel
theorem own_d8_5 : decode prog_3_method_2_code 5 = .ok (.invokestatic 23, 3) := by decide +kernel
theorem own_d8_8 : decode prog_3_method_2_code 8 = .ok (.lstore 4, 2) := by decide +kernel
theorem own_d8_10 : decode prog_3_method_2_code 10 = .ok (.lload 4, 2) := by decide +kernel
theorem own_d8_12 : decode prog_3_method_2_code 12 = .ok (.aload_n 0, 1) := by decide +kernel
theorem own_d8_13 : decode prog_3_method_2_code 13 = .ok (.getfield 11, 3) := by decide +kernel
theorem own_d8_16 : decode prog_3_method_2_code 16 = .ok (.lcmp, 1) := by decide +kernel
theorem own_d8_17 : decode prog_3_method_2_code 17 = .ok (.ifCond .le 14, 3) := by decide +kernel
theorem own_d8_20 : decode prog_3_method_2_code 20 = .ok (.aload_n 0, 1) := by decide +kernel
theorem own_d8_21 : decode prog_3_method_2_code 21 = .ok (.lload 4, 2) := by decide +kernel
theorem own_d8_23 : decode prog_3_method_2_code 23 = .ok (.putfield 11, 3) := by decide +kernel
theorem own_d8_26 : decode prog_3_method_2_code 26 = .ok (.aload_n 0, 1) := by decide +kernel
theorem own_d8_27 : decode prog_3_method_2_code 27 = .ok (.iconst 0, 1) := by decide +kernel
theorem own_d8_28 : decode prog_3_method_2_code 28 = .ok (.putfield 29, 3) := by decide +kernel
theorem own_d8_31 : decode prog_3_method_2_code 31 = .ok (.aload_n 0, 1) := by decide +kernel
theorem own_d8_32 : decode prog_3_method_2_code 32 = .ok (.getfield 29, 3) := by decide +kernel
theorem own_d8_35 : decode prog_3_method_2_code 35 = .ok (.aload_n 3, 1) := by decide +kernel
theorem own_d8_36 : decode prog_3_method_2_code 36 = .ok (.invokevirtual 33, 3) := by decide +kernel
theorem own_d8_39 : decode prog_3_method_2_code 39 = .ok (.if_icmp .ge 7, 3) := by decide +kernel
theorem own_d8_42 : decode prog_3_method_2_code 42 = .ok (.iconst 1, 1) := by decide +kernel
theorem own_d8_43 : decode prog_3_method_2_code 43 = .ok (.goto 4, 3) := by decide +kernel
theorem own_d8_46 : decode prog_3_method_2_code 46 = .ok (.iconst 0, 1) := by decide +kernel
theorem own_d8_47 : decode prog_3_method_2_code 47 = .ok (.ireturn, 1) := by decide +kernel
theorem own_ef12 (m : MethodId) (y0 : Addr) (y1 : Int64) (y2 : Addr) : entryFrame m #[(.ref y0), (.long y1), (.ref y2)] 6 = mkF m 0 #[.val (.ref y0), .val (.long y1), .second, .val (.ref y2), .unset, .unset] [] := by first | (simp [entryFrame, mkF, argsToLocals, Value.category]; done) | rfl
def Q12 (Z : State) (a1 : Addr) (t : Int64) (cf : Addr) (tw : Int64) (mx : Int32) (W0 : Int64) (A0 : Int32) (h0 : Heap) (n0 : Nat) (v : Option Value) (h : Heap) (L : List Loc) : Prop := v = some (.int (own_room W0 (own_fd t tw) A0 mx)) ∧ Fr n0 L ∧ Keep h0 h [a1] ∧ Exa Z h a1 "com/example/intrvl/intrvl/fixedwindow/FixedWindow" ∧ Fld Z h a1 "com/example/intrvl/intrvl/fixedwindow/FixedWindow" "window" "J" (.long (own_win W0 (own_fd t tw))) ∧ Fld Z h a1 "com/example/intrvl/intrvl/fixedwindow/FixedWindow" "admitted" "I" (.int (own_adm W0 (own_fd t tw) A0))
set_option maxRecDepth 65536 in
set_option maxHeartbeats 40000000 in
theorem rm12 (l : Launch) (Z : State) (a0 : Array Value) (hw : ∀ d ∈ tables_1, d.before a0 Z = true) (ws : List Jvm.Cond) (a1 : Addr) (t : Int64) (cf : Addr) (tw : Int64) (mx : Int32) (W0 : Int64) (A0 : Int32) (h0 : Heap) (n0 : Nat) (E1 : Exa Z h0 a1 "com/example/intrvl/intrvl/fixedwindow/FixedWindow") (F_window : Fld Z h0 a1 "com/example/intrvl/intrvl/fixedwindow/FixedWindow" "window" "J" (.long W0)) (F_admitted : Fld Z h0 a1 "com/example/intrvl/intrvl/fixedwindow/FixedWindow" "admitted" "I" (.int A0)) (g1 : n0 ≤ a1) (EC : Exa Z h0 cf "com/example/intrvl/intrvl/limit/RateLimiterConfig") (FT : Fld Z h0 cf "com/example/intrvl/intrvl/limit/RateLimiterConfig" "timeWindowMillis" "J" (.long tw)) (FM : Fld Z h0 cf "com/example/intrvl/intrvl/limit/RateLimiterConfig" "maxRequests" "I" (.int mx)) (hy : tw ≠ 0) :
    MetFree l (⟨"com/example/intrvl/intrvl/fixedwindow/FixedWindow", "hasRoom", "(JLcom/example/intrvl/intrvl/limit/RateLimiterConfig;)Z"⟩ : MethodName) (head1 (Jvm.Cond.code (⟨"com/example/intrvl/intrvl/fixedwindow/FixedWindow", "hasRoom", "(JLcom/example/intrvl/intrvl/limit/RateLimiterConfig;)Z"⟩ : MethodName) prog_3_method_2_code 6 (some .boolean) :: ws) ({ frames := 1, cells := 0, slots := 0, locals := 20 } : Room)) (fun aaz U => aaz = #[(.ref a1), (.long t), (.ref cf)] ∧ Z.Warmed39 U.vm ∧ U.heap = h0) (fun _ _ _ _ _ => True) (fun _ U o U' => ∃ v L, o = .returned v ∧ Q12 Z a1 t cf tw mx W0 A0 h0 n0 v U'.heap L ∧ FrameEnd U o U' L ({ frames := 1, cells := 0, slots := 0, locals := 20 } : Room).cells ({ frames := 1, cells := 0, slots := 0, locals := 20 } : Room).slots) := by
  refine MetFree.of_bodySF (plainFor_of_name own_pn5) hisR ?_
  intro p e s m args below meth cde s₁ Bd hml0 hP hK
  obtain ⟨rfl, hZ, hh⟩ := hP
  have hx := Bd.exec
  have hby := Bd.bytes
  have hml : cde.maxLocals = 6 := hml0
  have hown : s.vm.findClass "com/example/intrvl/intrvl/fixedwindow/FixedWindow" = some m.cls := findClass_of_methodNamed Bd.named
  have hnm := (name_of_methodNamed Bd.named Bd.method).1
  have X0 : Stand p l e ({ frames := 1, cells := 0, slots := 0, locals := 20 } : Room) s m #[(.ref a1), (.long t), (.ref cf)] below meth cde s₁ [] 0 0 := Stand.of_body Bd
  have e0 : s₁.heap = h0 := by rw [← hh, Bd.state]; rfl
  have N0 := Fr.nil n0
  have k : own_K p.tables e below (s₁.setTop (entryFrame m #[(.ref a1), (.long t), (.ref cf)] 6)) (s₁.setTop (mkF m 0 #[.val (.ref a1), .val (.long t), .second, .val (.ref cf), .unset, .unset] [])) := fun tt h => castTop (own_ef12 m a1 t cf) h
  have K1 : Keep h0 h0 [a1] := Keep.refl h0 [a1]
  have ne1 : cf ≠ a1 := Exa.ne EC E1 (by decide)
  replace k : own_K p.tables e below (s₁.setTop (entryFrame m #[(.ref a1), (.long t), (.ref cf)] 6)) (s₁.setTop (mkF m 1 #[.val (.ref a1), .val (.long t), .second, .val (.ref cf), .unset, .unset] [(.long t)])) := fun tt h => k tt (XS.lloadN X0.here hx rfl (hb hby own_d8_0) rfl h)
  replace k : own_K p.tables e below (s₁.setTop (entryFrame m #[(.ref a1), (.long t), (.ref cf)] 6)) (s₁.setTop (mkF m 2 #[.val (.ref a1), .val (.long t), .second, .val (.ref cf), .unset, .unset] [(.ref cf), (.long t)])) := fun tt h => k tt (XS.aloadN X0.here hx rfl (hb hby own_d8_1) rfl rfl h)
  obtain ⟨cq2, kq2, q2a, q2b, q2c⟩ := isOf hZ e0 EC
  obtain ⟨_, _, ⟨T2, L2, kk2, n2⟩, -, X2, ⟨Lc2, hQ2, l2, y2, z2⟩, st2⟩ := X0.virtualBack hx (y := (⟨"com/example/intrvl/intrvl/limit/RateLimiterConfig", "timeWindowMillis", "()J"⟩ : MethodName)) (z := (⟨"com/example/intrvl/intrvl/limit/RateLimiterConfig", "timeWindowMillis", "()J"⟩ : MethodName)) hown (mvT hZ (hw _ (List.mem_of_getElem? (i := 62) rfl))) (mvT hZ (hw _ (List.mem_of_getElem? (i := 63) rfl))) (notFace_of_selects (args := #[]) (mvT hZ (hw _ (List.mem_of_getElem? (i := 65) rfl)))) (mvT hZ (hw _ (List.mem_of_getElem? (i := 65) rfl))) (mvT hZ (hw _ (List.mem_of_getElem? (i := 64) rfl))) (by decide) (backOf (W := 2) (rm6 l Z a0 hw [] cf tw h0 n0 FT) hZ (hw _ (List.mem_of_getElem? (i := 66) rfl)) (hw _ (List.mem_of_getElem? (i := 3) rfl)) (by decide) (by decide)) q2a q2c (g := (mkF m 2 #[.val (.ref a1), .val (.long t), .second, .val (.ref cf), .unset, .unset] [(.ref cf), (.long t)])) rfl (by rw [hml]; rfl) (Steps.refl _) (argsL := []) (rest := [(.long t)]) (lenOf own_pd4 rfl) rfl (by show 2 * 0 + _ ≤ _; exact Nat.le_of_eq rfl) (hb hby own_d8_2) (fun _ _ => ⟨rfl, e0, (by decide : 0 + 0 ≤ _), (by decide : 0 + 0 ≤ _)⟩)
  dsimp only [Pt.U, Pt.locs, Pt.cells, Pt.slots] at X2 l2 y2 z2 st2 hQ2
  rw [l2, y2, z2] at X2
  obtain ⟨rfl, N2q, eq1⟩ := hQ2
  have N2 := Fr.app N0 N2q
  replace k : own_K p.tables e below (s₁.setTop (entryFrame m #[(.ref a1), (.long t), (.ref cf)] 6)) (T2.setTop (mkF m 5 #[.val (.ref a1), .val (.long t), .second, .val (.ref cf), .unset, .unset] [(.long tw), (.long t)])) := fun tt h => k tt (st2.trans h)
  obtain ⟨_, _, ⟨T4, L4, kk4, n4⟩, -, X4, ⟨Lc4, hQ4, l4, y4, z4⟩, st4⟩ := Jvm.LawKit.callS X2 hx (y := (⟨"java/lang/Math", "floorDiv", "(JJ)J"⟩ : MethodName)) hown (mvT hZ (hw _ (List.mem_of_getElem? (i := 67) rfl))) (mvT hZ (hw _ (List.mem_of_getElem? (i := 68) rfl))) (mvT hZ (hw _ (List.mem_of_getElem? (i := 69) rfl))) (mvT hZ (hw _ (List.mem_of_getElem? (i := 70) rfl))) (by decide) (backOf (W := 0) (rm9 l Z a0 hw [] t tw h0 n0 hy) hZ (hw _ (List.mem_of_getElem? (i := 70) rfl)) (hw _ (List.mem_of_getElem? (i := 69) rfl)) (by decide) (by decide)) (g := (mkF m 5 #[.val (.ref a1), .val (.long t), .second, .val (.ref cf), .unset, .unset] [(.long tw), (.long t)])) rfl (by rw [hml]; rfl) (argsL := [(.long t), (.long tw)]) (rest := []) (lenOf own_pd5 rfl) rfl (by show 2 * 0 + _ ≤ _; exact Nat.le_of_eq rfl) (hb hby own_d8_5) (fun _ _ => ⟨rfl, eq1, (by decide : 0 + 0 ≤ _), (by decide : 0 + 0 ≤ _)⟩)
  dsimp only [Pt.U, Pt.locs, Pt.cells, Pt.slots] at X4 l4 y4 z4 st4 hQ4
  rw [l4, y4, z4] at X4
  obtain ⟨rfl, N4q, eq3⟩ := hQ4
  have N4 := Fr.app N2 N4q
  replace k : own_K p.tables e below (s₁.setTop (entryFrame m #[(.ref a1), (.long t), (.ref cf)] 6)) (T4.setTop (mkF m 8 #[.val (.ref a1), .val (.long t), .second, .val (.ref cf), .unset, .unset] [(.long (own_fd t tw))])) := fun tt h => k tt (st4 _ h)
  replace k : own_K p.tables e below (s₁.setTop (entryFrame m #[(.ref a1), (.long t), (.ref cf)] 6)) (T4.setTop (mkF m 10 #[.val (.ref a1), .val (.long t), .second, .val (.ref cf), .val (.long (own_fd t tw)), .second] [])) := fun tt h => k tt (XS.lstore X4.here hx rfl (hb hby own_d8_8) rfl (l' := #[.val (.ref a1), .val (.long t), .second, .val (.ref cf), .val (.long (own_fd t tw)), .second]) rfl h)
  replace k : own_K p.tables e below (s₁.setTop (entryFrame m #[(.ref a1), (.long t), (.ref cf)] 6)) (T4.setTop (mkF m 12 #[.val (.ref a1), .val (.long t), .second, .val (.ref cf), .val (.long (own_fd t tw)), .second] [(.long (own_fd t tw))])) := fun tt h => k tt (XS.lload X4.here hx rfl (hb hby own_d8_10) rfl h)
  replace k : own_K p.tables e below (s₁.setTop (entryFrame m #[(.ref a1), (.long t), (.ref cf)] 6)) (T4.setTop (mkF m 13 #[.val (.ref a1), .val (.long t), .second, .val (.ref cf), .val (.long (own_fd t tw)), .second] [(.ref a1), (.long (own_fd t tw))])) := fun tt h => k tt (XS.aloadN X4.here hx rfl (hb hby own_d8_12) rfl rfl h)
  obtain ⟨T5, X5, e5, st5⟩ := getF X4 hx hZ hown (host := "") (Or.inl (hw _ (List.mem_of_getElem? (i := 55) rfl))) Via.refl eq3 F_window (g := (mkF m 13 #[.val (.ref a1), .val (.long t), .second, .val (.ref cf), .val (.long (own_fd t tw)), .second] [(.ref a1), (.long (own_fd t tw))])) rfl rfl (hb hby own_d8_13)
  replace k : own_K p.tables e below (s₁.setTop (entryFrame m #[(.ref a1), (.long t), (.ref cf)] 6)) (T5.setTop (mkF m 16 #[.val (.ref a1), .val (.long t), .second, .val (.ref cf), .val (.long (own_fd t tw)), .second] [(.long W0), (.long (own_fd t tw))])) := fun tt h => k tt (st5 _ h)
  replace k : own_K p.tables e below (s₁.setTop (entryFrame m #[(.ref a1), (.long t), (.ref cf)] 6)) (T5.setTop (mkF m 17 #[.val (.ref a1), .val (.long t), .second, .val (.ref cf), .val (.long (own_fd t tw)), .second] [(.int (lcmpW (own_fd t tw) W0))])) := fun tt h => k tt (XS.lcmp X5.here hx rfl (hb hby own_d8_16) rfl h)
  by_cases cc6 : W0 < (own_fd t tw)
  · replace k : own_K p.tables e below (s₁.setTop (entryFrame m #[(.ref a1), (.long t), (.ref cf)] 6)) (T5.setTop (mkF m 20 #[.val (.ref a1), .val (.long t), .second, .val (.ref cf), .val (.long (own_fd t tw)), .second] [])) := fun tt h => k tt (XS.ifNo X5.here hx rfl (hb hby own_d8_17) rfl ((if0 _ _).trans (tlt ((lw_gt _ _).mpr cc6)).2.2.2) h)
    replace k : own_K p.tables e below (s₁.setTop (entryFrame m #[(.ref a1), (.long t), (.ref cf)] 6)) (T5.setTop (mkF m 21 #[.val (.ref a1), .val (.long t), .second, .val (.ref cf), .val (.long (own_fd t tw)), .second] [(.ref a1)])) := fun tt h => k tt (XS.aloadN X5.here hx rfl (hb hby own_d8_20) rfl rfl h)
    replace k : own_K p.tables e below (s₁.setTop (entryFrame m #[(.ref a1), (.long t), (.ref cf)] 6)) (T5.setTop (mkF m 23 #[.val (.ref a1), .val (.long t), .second, .val (.ref cf), .val (.long (own_fd t tw)), .second] [(.long (own_fd t tw)), (.ref a1)])) := fun tt h => k tt (XS.lload X5.here hx rfl (hb hby own_d8_21) rfl h)
    obtain ⟨T7, h7, X7, e7, W7, st7⟩ := putF X5 hx hZ hown (host := "") (Or.inl (hw _ (List.mem_of_getElem? (i := 55) rfl))) Via.refl e5 F_window E1 (Or.inl (hw _ (List.mem_of_getElem? (i := 56) rfl))) (hw _ (List.mem_of_getElem? (i := 48) rfl)) (ty := .long) (by decide) rfl rfl (g := (mkF m 23 #[.val (.ref a1), .val (.long t), .second, .val (.ref cf), .val (.long (own_fd t tw)), .second] [(.long (own_fd t tw)), (.ref a1)])) rfl rfl (hb hby own_d8_23)
    have N7 := Fr.snoc X7 N4 g1
    replace k : own_K p.tables e below (s₁.setTop (entryFrame m #[(.ref a1), (.long t), (.ref cf)] 6)) (T7.setTop (mkF m 26 #[.val (.ref a1), .val (.long t), .second, .val (.ref cf), .val (.long (own_fd t tw)), .second] [])) := fun tt h => k tt (st7 _ h)
    replace F_window := F_window.same W7
    replace F_admitted := F_admitted.other W7 (Or.inr (slot_ne (Or.inl (hw _ (List.mem_of_getElem? (i := 72) rfl))) (Or.inl (hw _ (List.mem_of_getElem? (i := 56) rfl))) (by decide) (t := .int) (t' := .long) (by decide) (by decide)))
    replace E1 := E1.wr W7
    replace K1 := K1.wr W7 (Or.inl (List.mem_of_getElem? (i := 0) rfl))
    replace EC := EC.wr W7
    replace FT := FT.other W7 (Or.inl ne1)
    replace FM := FM.other W7 (Or.inl ne1)
    replace k : own_K p.tables e below (s₁.setTop (entryFrame m #[(.ref a1), (.long t), (.ref cf)] 6)) (T7.setTop (mkF m 27 #[.val (.ref a1), .val (.long t), .second, .val (.ref cf), .val (.long (own_fd t tw)), .second] [(.ref a1)])) := fun tt h => k tt (XS.aloadN X7.here hx rfl (hb hby own_d8_26) rfl rfl h)
    replace k : own_K p.tables e below (s₁.setTop (entryFrame m #[(.ref a1), (.long t), (.ref cf)] 6)) (T7.setTop (mkF m 28 #[.val (.ref a1), .val (.long t), .second, .val (.ref cf), .val (.long (own_fd t tw)), .second] [(.int (0 : Int32)), (.ref a1)])) := fun tt h => k tt (XS.iconst X7.here hx rfl (hb hby own_d8_27) h)
    obtain ⟨T8, h8, X8, e8, W8, st8⟩ := putF X7 hx hZ hown (host := "") (Or.inl (hw _ (List.mem_of_getElem? (i := 71) rfl))) Via.refl e7 F_admitted E1 (Or.inl (hw _ (List.mem_of_getElem? (i := 72) rfl))) (hw _ (List.mem_of_getElem? (i := 48) rfl)) (ty := .int) (by decide) rfl rfl (g := (mkF m 28 #[.val (.ref a1), .val (.long t), .second, .val (.ref cf), .val (.long (own_fd t tw)), .second] [(.int (0 : Int32)), (.ref a1)])) rfl rfl (hb hby own_d8_28)
    have N8 := Fr.snoc X8 N7 g1
    replace k : own_K p.tables e below (s₁.setTop (entryFrame m #[(.ref a1), (.long t), (.ref cf)] 6)) (T8.setTop (mkF m 31 #[.val (.ref a1), .val (.long t), .second, .val (.ref cf), .val (.long (own_fd t tw)), .second] [])) := fun tt h => k tt (st8 _ h)
    replace F_admitted := F_admitted.same W8
    replace F_window := F_window.other W8 (Or.inr (slot_ne (Or.inl (hw _ (List.mem_of_getElem? (i := 56) rfl))) (Or.inl (hw _ (List.mem_of_getElem? (i := 72) rfl))) (by decide) (t := .long) (t' := .int) (by decide) (by decide)))
    replace E1 := E1.wr W8
    replace K1 := K1.wr W8 (Or.inl (List.mem_of_getElem? (i := 0) rfl))
    replace EC := EC.wr W8
    replace FT := FT.other W8 (Or.inl ne1)
    replace FM := FM.other W8 (Or.inl ne1)
    replace k : own_K p.tables e below (s₁.setTop (entryFrame m #[(.ref a1), (.long t), (.ref cf)] 6)) (T8.setTop (mkF m 32 #[.val (.ref a1), .val (.long t), .second, .val (.ref cf), .val (.long (own_fd t tw)), .second] [(.ref a1)])) := fun tt h => k tt (XS.aloadN X8.here hx rfl (hb hby own_d8_31) rfl rfl h)
    obtain ⟨T9, X9, e9, st9⟩ := getF X8 hx hZ hown (host := "") (Or.inl (hw _ (List.mem_of_getElem? (i := 71) rfl))) Via.refl e8 F_admitted (g := (mkF m 32 #[.val (.ref a1), .val (.long t), .second, .val (.ref cf), .val (.long (own_fd t tw)), .second] [(.ref a1)])) rfl rfl (hb hby own_d8_32)
    replace k : own_K p.tables e below (s₁.setTop (entryFrame m #[(.ref a1), (.long t), (.ref cf)] 6)) (T9.setTop (mkF m 35 #[.val (.ref a1), .val (.long t), .second, .val (.ref cf), .val (.long (own_fd t tw)), .second] [(.int (0 : Int32))])) := fun tt h => k tt (st9 _ h)
    replace k : own_K p.tables e below (s₁.setTop (entryFrame m #[(.ref a1), (.long t), (.ref cf)] 6)) (T9.setTop (mkF m 36 #[.val (.ref a1), .val (.long t), .second, .val (.ref cf), .val (.long (own_fd t tw)), .second] [(.ref cf), (.int (0 : Int32))])) := fun tt h => k tt (XS.aloadN X9.here hx rfl (hb hby own_d8_35) rfl rfl h)
    obtain ⟨cq11, kq11, q11a, q11b, q11c⟩ := isOf hZ e9 EC
    obtain ⟨_, _, ⟨T11, L11, kk11, n11⟩, -, X11, ⟨Lc11, hQ11, l11, y11, z11⟩, st11⟩ := X9.virtualBack hx (y := (⟨"com/example/intrvl/intrvl/limit/RateLimiterConfig", "maxRequests", "()I"⟩ : MethodName)) (z := (⟨"com/example/intrvl/intrvl/limit/RateLimiterConfig", "maxRequests", "()I"⟩ : MethodName)) hown (mvT hZ (hw _ (List.mem_of_getElem? (i := 73) rfl))) (mvT hZ (hw _ (List.mem_of_getElem? (i := 74) rfl))) (notFace_of_selects (args := #[]) (mvT hZ (hw _ (List.mem_of_getElem? (i := 76) rfl)))) (mvT hZ (hw _ (List.mem_of_getElem? (i := 76) rfl))) (mvT hZ (hw _ (List.mem_of_getElem? (i := 75) rfl))) (by decide) (backOf (W := 1) (rm7 l Z a0 hw [] cf mx h8 n0 FM) hZ (hw _ (List.mem_of_getElem? (i := 77) rfl)) (hw _ (List.mem_of_getElem? (i := 3) rfl)) (by decide) (by decide)) q11a q11c (g := (mkF m 36 #[.val (.ref a1), .val (.long t), .second, .val (.ref cf), .val (.long (own_fd t tw)), .second] [(.ref cf), (.int (0 : Int32))])) rfl (by rw [hml]; rfl) (Steps.refl _) (argsL := []) (rest := [(.int (0 : Int32))]) (lenOf own_pd6 rfl) rfl (by show 2 * 0 + _ ≤ _; exact Nat.le_of_eq rfl) (hb hby own_d8_36) (fun _ _ => ⟨rfl, e9, (by decide : 0 + 0 ≤ _), (by decide : 0 + 0 ≤ _)⟩)
    dsimp only [Pt.U, Pt.locs, Pt.cells, Pt.slots] at X11 l11 y11 z11 st11 hQ11
    rw [l11, y11, z11] at X11
    obtain ⟨rfl, N11q, eq10⟩ := hQ11
    have N11 := Fr.app N8 N11q
    replace k : own_K p.tables e below (s₁.setTop (entryFrame m #[(.ref a1), (.long t), (.ref cf)] 6)) (T11.setTop (mkF m 39 #[.val (.ref a1), .val (.long t), .second, .val (.ref cf), .val (.long (own_fd t tw)), .second] [(.int mx), (.int (0 : Int32))])) := fun tt h => k tt (st11.trans h)
    by_cases cc12 : (0 : Int32) < mx
    · replace k : own_K p.tables e below (s₁.setTop (entryFrame m #[(.ref a1), (.long t), (.ref cf)] 6)) (T11.setTop (mkF m 42 #[.val (.ref a1), .val (.long t), .second, .val (.ref cf), .val (.long (own_fd t tw)), .second] [])) := fun tt h => k tt (XS.icmpNo X11.here hx rfl (hb hby own_d8_39) rfl (tlt cc12).2.1 h)
      replace k : own_K p.tables e below (s₁.setTop (entryFrame m #[(.ref a1), (.long t), (.ref cf)] 6)) (T11.setTop (mkF m 43 #[.val (.ref a1), .val (.long t), .second, .val (.ref cf), .val (.long (own_fd t tw)), .second] [(.int (1 : Int32))])) := fun tt h => k tt (XS.iconst X11.here hx rfl (hb hby own_d8_42) h)
      replace k : own_K p.tables e below (s₁.setTop (entryFrame m #[(.ref a1), (.long t), (.ref cf)] 6)) (T11.setTop (mkF m 47 #[.val (.ref a1), .val (.long t), .second, .val (.ref cf), .val (.long (own_fd t tw)), .second] [(.int (1 : Int32))])) := fun tt h => k tt (XS.goto X11.here hx rfl (pc0 := 43) (pc' := 47) rfl (hb hby own_d8_43) (by decide) (by decide) h)
      obtain ⟨fs, hr, hrun, hended, hW, hsame⟩ := X11.leave (v := some (.int (1 : Int32))) (fun h => by rw [Bd.returns] at h; cases h) Bd.notSynchronized
      refine ⟨_, _, k _ (retOut X11 hx Bd.returns rfl (Or.inl ⟨rfl, by simp, _, rfl⟩) (hb hby own_d8_47) hr), hrun, hended, _, _, rfl, ?_, ⟨_, rfl⟩, hW, hsame.mono (by decide) (by decide)⟩
      show Q12 Z a1 t cf tw mx W0 A0 h0 n0 _ T11.heap _
      rw [eq10]
      exact ⟨(by simp [own_room, own_adm, cc6, cc12]), N11, K1, E1, (by rw [show own_win W0 (own_fd t tw) = (own_fd t tw) from by simp [own_win, cc6]]; exact F_window), (by rw [show own_adm W0 (own_fd t tw) A0 = (0 : Int32) from by simp [own_adm, cc6]]; exact F_admitted)⟩
    · replace k : own_K p.tables e below (s₁.setTop (entryFrame m #[(.ref a1), (.long t), (.ref cf)] 6)) (T11.setTop (mkF m 46 #[.val (.ref a1), .val (.long t), .second, .val (.ref cf), .val (.long (own_fd t tw)), .second] [])) := fun tt h => k tt (XS.icmpYes X11.here hx rfl (pc0 := 39) (pc' := 46) rfl (hb hby own_d8_39) rfl (flt cc12).2.1 (by decide) (by decide) h)
      replace k : own_K p.tables e below (s₁.setTop (entryFrame m #[(.ref a1), (.long t), (.ref cf)] 6)) (T11.setTop (mkF m 47 #[.val (.ref a1), .val (.long t), .second, .val (.ref cf), .val (.long (own_fd t tw)), .second] [(.int (0 : Int32))])) := fun tt h => k tt (XS.iconst X11.here hx rfl (hb hby own_d8_46) h)
      obtain ⟨fs, hr, hrun, hended, hW, hsame⟩ := X11.leave (v := some (.int (0 : Int32))) (fun h => by rw [Bd.returns] at h; cases h) Bd.notSynchronized
      refine ⟨_, _, k _ (retOut X11 hx Bd.returns rfl (Or.inl ⟨rfl, by simp, _, rfl⟩) (hb hby own_d8_47) hr), hrun, hended, _, _, rfl, ?_, ⟨_, rfl⟩, hW, hsame.mono (by decide) (by decide)⟩
      show Q12 Z a1 t cf tw mx W0 A0 h0 n0 _ T11.heap _
      rw [eq10]
      exact ⟨(by simp [own_room, own_adm, cc6, cc12]), N11, K1, E1, (by rw [show own_win W0 (own_fd t tw) = (own_fd t tw) from by simp [own_win, cc6]]; exact F_window), (by rw [show own_adm W0 (own_fd t tw) A0 = (0 : Int32) from by simp [own_adm, cc6]]; exact F_admitted)⟩
  · replace k : own_K p.tables e below (s₁.setTop (entryFrame m #[(.ref a1), (.long t), (.ref cf)] 6)) (T5.setTop (mkF m 31 #[.val (.ref a1), .val (.long t), .second, .val (.ref cf), .val (.long (own_fd t tw)), .second] [])) := fun tt h => k tt (XS.ifYes X5.here hx rfl (pc0 := 17) (pc' := 31) rfl (hb hby own_d8_17) rfl ((if0 _ _).trans (flt (fun q => cc6 ((lw_gt _ _).mp q))).2.2.2) (by decide) (by decide) h)
    replace k : own_K p.tables e below (s₁.setTop (entryFrame m #[(.ref a1), (.long t), (.ref cf)] 6)) (T5.setTop (mkF m 32 #[.val (.ref a1), .val (.long t), .second, .val (.ref cf), .val (.long (own_fd t tw)), .second] [(.ref a1)])) := fun tt h => k tt (XS.aloadN X5.here hx rfl (hb hby own_d8_31) rfl rfl h)
    obtain ⟨T13, X13, e13, st13⟩ := getF X5 hx hZ hown (host := "") (Or.inl (hw _ (List.mem_of_getElem? (i := 71) rfl))) Via.refl e5 F_admitted (g := (mkF m 32 #[.val (.ref a1), .val (.long t), .second, .val (.ref cf), .val (.long (own_fd t tw)), .second] [(.ref a1)])) rfl rfl (hb hby own_d8_32)
    replace k : own_K p.tables e below (s₁.setTop (entryFrame m #[(.ref a1), (.long t), (.ref cf)] 6)) (T13.setTop (mkF m 35 #[.val (.ref a1), .val (.long t), .second, .val (.ref cf), .val (.long (own_fd t tw)), .second] [(.int A0)])) := fun tt h => k tt (st13 _ h)
    replace k : own_K p.tables e below (s₁.setTop (entryFrame m #[(.ref a1), (.long t), (.ref cf)] 6)) (T13.setTop (mkF m 36 #[.val (.ref a1), .val (.long t), .second, .val (.ref cf), .val (.long (own_fd t tw)), .second] [(.ref cf), (.int A0)])) := fun tt h => k tt (XS.aloadN X13.here hx rfl (hb hby own_d8_35) rfl rfl h)
    obtain ⟨cq15, kq15, q15a, q15b, q15c⟩ := isOf hZ e13 EC
    obtain ⟨_, _, ⟨T15, L15, kk15, n15⟩, -, X15, ⟨Lc15, hQ15, l15, y15, z15⟩, st15⟩ := X13.virtualBack hx (y := (⟨"com/example/intrvl/intrvl/limit/RateLimiterConfig", "maxRequests", "()I"⟩ : MethodName)) (z := (⟨"com/example/intrvl/intrvl/limit/RateLimiterConfig", "maxRequests", "()I"⟩ : MethodName)) hown (mvT hZ (hw _ (List.mem_of_getElem? (i := 73) rfl))) (mvT hZ (hw _ (List.mem_of_getElem? (i := 74) rfl))) (notFace_of_selects (args := #[]) (mvT hZ (hw _ (List.mem_of_getElem? (i := 76) rfl)))) (mvT hZ (hw _ (List.mem_of_getElem? (i := 76) rfl))) (mvT hZ (hw _ (List.mem_of_getElem? (i := 75) rfl))) (by decide) (backOf (W := 1) (rm7 l Z a0 hw [] cf mx h0 n0 FM) hZ (hw _ (List.mem_of_getElem? (i := 77) rfl)) (hw _ (List.mem_of_getElem? (i := 3) rfl)) (by decide) (by decide)) q15a q15c (g := (mkF m 36 #[.val (.ref a1), .val (.long t), .second, .val (.ref cf), .val (.long (own_fd t tw)), .second] [(.ref cf), (.int A0)])) rfl (by rw [hml]; rfl) (Steps.refl _) (argsL := []) (rest := [(.int A0)]) (lenOf own_pd6 rfl) rfl (by show 2 * 0 + _ ≤ _; exact Nat.le_of_eq rfl) (hb hby own_d8_36) (fun _ _ => ⟨rfl, e13, (by decide : 0 + 0 ≤ _), (by decide : 0 + 0 ≤ _)⟩)
    dsimp only [Pt.U, Pt.locs, Pt.cells, Pt.slots] at X15 l15 y15 z15 st15 hQ15
    rw [l15, y15, z15] at X15
    obtain ⟨rfl, N15q, eq14⟩ := hQ15
    have N15 := Fr.app N4 N15q
    replace k : own_K p.tables e below (s₁.setTop (entryFrame m #[(.ref a1), (.long t), (.ref cf)] 6)) (T15.setTop (mkF m 39 #[.val (.ref a1), .val (.long t), .second, .val (.ref cf), .val (.long (own_fd t tw)), .second] [(.int mx), (.int A0)])) := fun tt h => k tt (st15.trans h)
    by_cases cc16 : A0 < mx
    · replace k : own_K p.tables e below (s₁.setTop (entryFrame m #[(.ref a1), (.long t), (.ref cf)] 6)) (T15.setTop (mkF m 42 #[.val (.ref a1), .val (.long t), .second, .val (.ref cf), .val (.long (own_fd t tw)), .second] [])) := fun tt h => k tt (XS.icmpNo X15.here hx rfl (hb hby own_d8_39) rfl (tlt cc16).2.1 h)
      replace k : own_K p.tables e below (s₁.setTop (entryFrame m #[(.ref a1), (.long t), (.ref cf)] 6)) (T15.setTop (mkF m 43 #[.val (.ref a1), .val (.long t), .second, .val (.ref cf), .val (.long (own_fd t tw)), .second] [(.int (1 : Int32))])) := fun tt h => k tt (XS.iconst X15.here hx rfl (hb hby own_d8_42) h)
      replace k : own_K p.tables e below (s₁.setTop (entryFrame m #[(.ref a1), (.long t), (.ref cf)] 6)) (T15.setTop (mkF m 47 #[.val (.ref a1), .val (.long t), .second, .val (.ref cf), .val (.long (own_fd t tw)), .second] [(.int (1 : Int32))])) := fun tt h => k tt (XS.goto X15.here hx rfl (pc0 := 43) (pc' := 47) rfl (hb hby own_d8_43) (by decide) (by decide) h)
      obtain ⟨fs, hr, hrun, hended, hW, hsame⟩ := X15.leave (v := some (.int (1 : Int32))) (fun h => by rw [Bd.returns] at h; cases h) Bd.notSynchronized
      refine ⟨_, _, k _ (retOut X15 hx Bd.returns rfl (Or.inl ⟨rfl, by simp, _, rfl⟩) (hb hby own_d8_47) hr), hrun, hended, _, _, rfl, ?_, ⟨_, rfl⟩, hW, hsame.mono (by decide) (by decide)⟩
      show Q12 Z a1 t cf tw mx W0 A0 h0 n0 _ T15.heap _
      rw [eq14]
      exact ⟨(by simp [own_room, own_adm, cc6, cc16]), N15, K1, E1, (by rw [show own_win W0 (own_fd t tw) = W0 from by simp [own_win, cc6]]; exact F_window), (by rw [show own_adm W0 (own_fd t tw) A0 = A0 from by simp [own_adm, cc6]]; exact F_admitted)⟩
    · replace k : own_K p.tables e below (s₁.setTop (entryFrame m #[(.ref a1), (.long t), (.ref cf)] 6)) (T15.setTop (mkF m 46 #[.val (.ref a1), .val (.long t), .second, .val (.ref cf), .val (.long (own_fd t tw)), .second] [])) := fun tt h => k tt (XS.icmpYes X15.here hx rfl (pc0 := 39) (pc' := 46) rfl (hb hby own_d8_39) rfl (flt cc16).2.1 (by decide) (by decide) h)
      replace k : own_K p.tables e below (s₁.setTop (entryFrame m #[(.ref a1), (.long t), (.ref cf)] 6)) (T15.setTop (mkF m 47 #[.val (.ref a1), .val (.long t), .second, .val (.ref cf), .val (.long (own_fd t tw)), .second] [(.int (0 : Int32))])) := fun tt h => k tt (XS.iconst X15.here hx rfl (hb hby own_d8_46) h)
      obtain ⟨fs, hr, hrun, hended, hW, hsame⟩ := X15.leave (v := some (.int (0 : Int32))) (fun h => by rw [Bd.returns] at h; cases h) Bd.notSynchronized
      refine ⟨_, _, k _ (retOut X15 hx Bd.returns rfl (Or.inl ⟨rfl, by simp, _, rfl⟩) (hb hby own_d8_47) hr), hrun, hended, _, _, rfl, ?_, ⟨_, rfl⟩, hW, hsame.mono (by decide) (by decide)⟩
      show Q12 Z a1 t cf tw mx W0 A0 h0 n0 _ T15.heap _
      rw [eq14]
      exact ⟨(by simp [own_room, own_adm, cc6, cc16]), N15, K1, E1, (by rw [show own_win W0 (own_fd t tw) = W0 from by simp [own_win, cc6]]; exact F_window), (by rw [show own_adm W0 (own_fd t tw) A0 = A0 from by simp [own_adm, cc6]]; exact F_admitted)⟩
theorem own_d12_0 : decode prog_3_method_3_code 0 = .ok (.aload_n 0, 1) := by decide +kernel
theorem own_d12_1 : decode prog_3_method_3_code 1 = .ok (.getfield 29, 3) := by decide +kernel
theorem own_d12_4 : decode prog_3_method_3_code 4 = .ok (.ifCond .eq 19, 3) := by decide +kernel
theorem own_d12_7 : decode prog_3_method_3_code 7 = .ok (.lload_n 1, 1) := by decide +kernel
theorem own_d12_8 : decode prog_3_method_3_code 8 = .ok (.aload_n 3, 1) := by decide +kernel
theorem own_d12_9 : decode prog_3_method_3_code 9 = .ok (.invokevirtual 17, 3) := by decide +kernel
theorem own_d12_12 : decode prog_3_method_3_code 12 = .ok (.invokestatic 23, 3) := by decide +kernel
theorem own_d12_15 : decode prog_3_method_3_code 15 = .ok (.aload_n 0, 1) := by decide +kernel
theorem own_d12_16 : decode prog_3_method_3_code 16 = .ok (.getfield 11, 3) := by decide +kernel
theorem own_d12_19 : decode prog_3_method_3_code 19 = .ok (.lcmp, 1) := by decide +kernel
theorem own_d12_20 : decode prog_3_method_3_code 20 = .ok (.ifCond .le 7, 3) := by decide +kernel
theorem own_d12_23 : decode prog_3_method_3_code 23 = .ok (.iconst 1, 1) := by decide +kernel
theorem own_d12_24 : decode prog_3_method_3_code 24 = .ok (.goto 4, 3) := by decide +kernel
theorem own_d12_27 : decode prog_3_method_3_code 27 = .ok (.iconst 0, 1) := by decide +kernel
theorem own_d12_28 : decode prog_3_method_3_code 28 = .ok (.ireturn, 1) := by decide +kernel
theorem own_ef13 (m : MethodId) (y0 : Addr) (y1 : Int64) (y2 : Addr) : entryFrame m #[(.ref y0), (.long y1), (.ref y2)] 4 = mkF m 0 #[.val (.ref y0), .val (.long y1), .second, .val (.ref y2)] [] := by first | (simp [entryFrame, mkF, argsToLocals, Value.category]; done) | rfl
def Q13 (Z : State) (a1 : Addr) (t : Int64) (cf : Addr) (tw : Int64) (mx : Int32) (W0 : Int64) (A0 : Int32) (h0 : Heap) (n0 : Nat) (v : Option Value) (h : Heap) (L : List Loc) : Prop := v = some (.int (own_emp A0 W0 (own_fd t tw))) ∧ Fr n0 L ∧ h = h0
set_option maxRecDepth 65536 in
set_option maxHeartbeats 40000000 in
theorem rm13 (l : Launch) (Z : State) (a0 : Array Value) (hw : ∀ d ∈ tables_1, d.before a0 Z = true) (ws : List Jvm.Cond) (a1 : Addr) (t : Int64) (cf : Addr) (tw : Int64) (mx : Int32) (W0 : Int64) (A0 : Int32) (h0 : Heap) (n0 : Nat) (E1 : Exa Z h0 a1 "com/example/intrvl/intrvl/fixedwindow/FixedWindow") (F_window : Fld Z h0 a1 "com/example/intrvl/intrvl/fixedwindow/FixedWindow" "window" "J" (.long W0)) (F_admitted : Fld Z h0 a1 "com/example/intrvl/intrvl/fixedwindow/FixedWindow" "admitted" "I" (.int A0)) (EC : Exa Z h0 cf "com/example/intrvl/intrvl/limit/RateLimiterConfig") (FT : Fld Z h0 cf "com/example/intrvl/intrvl/limit/RateLimiterConfig" "timeWindowMillis" "J" (.long tw)) (FM : Fld Z h0 cf "com/example/intrvl/intrvl/limit/RateLimiterConfig" "maxRequests" "I" (.int mx)) (hy : tw ≠ 0) :
    MetFree l (⟨"com/example/intrvl/intrvl/fixedwindow/FixedWindow", "isEmpty", "(JLcom/example/intrvl/intrvl/limit/RateLimiterConfig;)Z"⟩ : MethodName) (head1 (Jvm.Cond.code (⟨"com/example/intrvl/intrvl/fixedwindow/FixedWindow", "isEmpty", "(JLcom/example/intrvl/intrvl/limit/RateLimiterConfig;)Z"⟩ : MethodName) prog_3_method_3_code 4 (some .boolean) :: ws) ({ frames := 1, cells := 0, slots := 0, locals := 20 } : Room)) (fun aaz U => aaz = #[(.ref a1), (.long t), (.ref cf)] ∧ Z.Warmed39 U.vm ∧ U.heap = h0) (fun _ _ _ _ _ => True) (fun _ U o U' => ∃ v L, o = .returned v ∧ Q13 Z a1 t cf tw mx W0 A0 h0 n0 v U'.heap L ∧ FrameEnd U o U' L ({ frames := 1, cells := 0, slots := 0, locals := 20 } : Room).cells ({ frames := 1, cells := 0, slots := 0, locals := 20 } : Room).slots) := by
  refine MetFree.of_bodySF (plainFor_of_name own_pn5) hisR ?_
  intro p e s m args below meth cde s₁ Bd hml0 hP hK
  obtain ⟨rfl, hZ, hh⟩ := hP
  have hx := Bd.exec
  have hby := Bd.bytes
  have hml : cde.maxLocals = 4 := hml0
  have hown : s.vm.findClass "com/example/intrvl/intrvl/fixedwindow/FixedWindow" = some m.cls := findClass_of_methodNamed Bd.named
  have hnm := (name_of_methodNamed Bd.named Bd.method).1
  have X0 : Stand p l e ({ frames := 1, cells := 0, slots := 0, locals := 20 } : Room) s m #[(.ref a1), (.long t), (.ref cf)] below meth cde s₁ [] 0 0 := Stand.of_body Bd
  have e0 : s₁.heap = h0 := by rw [← hh, Bd.state]; rfl
  have N0 := Fr.nil n0
  have k : own_K p.tables e below (s₁.setTop (entryFrame m #[(.ref a1), (.long t), (.ref cf)] 4)) (s₁.setTop (mkF m 0 #[.val (.ref a1), .val (.long t), .second, .val (.ref cf)] [])) := fun tt h => castTop (own_ef13 m a1 t cf) h
  replace k : own_K p.tables e below (s₁.setTop (entryFrame m #[(.ref a1), (.long t), (.ref cf)] 4)) (s₁.setTop (mkF m 1 #[.val (.ref a1), .val (.long t), .second, .val (.ref cf)] [(.ref a1)])) := fun tt h => k tt (XS.aloadN X0.here hx rfl (hb hby own_d12_0) rfl rfl h)
  obtain ⟨T1, X1, e1, st1⟩ := getF X0 hx hZ hown (host := "") (Or.inl (hw _ (List.mem_of_getElem? (i := 71) rfl))) Via.refl e0 F_admitted (g := (mkF m 1 #[.val (.ref a1), .val (.long t), .second, .val (.ref cf)] [(.ref a1)])) rfl rfl (hb hby own_d12_1)
  replace k : own_K p.tables e below (s₁.setTop (entryFrame m #[(.ref a1), (.long t), (.ref cf)] 4)) (T1.setTop (mkF m 4 #[.val (.ref a1), .val (.long t), .second, .val (.ref cf)] [(.int A0)])) := fun tt h => k tt (st1 _ h)
  by_cases cc2 : A0 = (0 : Int32)
  · replace k : own_K p.tables e below (s₁.setTop (entryFrame m #[(.ref a1), (.long t), (.ref cf)] 4)) (T1.setTop (mkF m 23 #[.val (.ref a1), .val (.long t), .second, .val (.ref cf)] [])) := fun tt h => k tt (XS.ifYes X1.here hx rfl (pc0 := 4) (pc' := 23) rfl (hb hby own_d12_4) rfl ((if0 _ _).trans (teq cc2).1) (by decide) (by decide) h)
    replace k : own_K p.tables e below (s₁.setTop (entryFrame m #[(.ref a1), (.long t), (.ref cf)] 4)) (T1.setTop (mkF m 24 #[.val (.ref a1), .val (.long t), .second, .val (.ref cf)] [(.int (1 : Int32))])) := fun tt h => k tt (XS.iconst X1.here hx rfl (hb hby own_d12_23) h)
    replace k : own_K p.tables e below (s₁.setTop (entryFrame m #[(.ref a1), (.long t), (.ref cf)] 4)) (T1.setTop (mkF m 28 #[.val (.ref a1), .val (.long t), .second, .val (.ref cf)] [(.int (1 : Int32))])) := fun tt h => k tt (XS.goto X1.here hx rfl (pc0 := 24) (pc' := 28) rfl (hb hby own_d12_24) (by decide) (by decide) h)
    obtain ⟨fs, hr, hrun, hended, hW, hsame⟩ := X1.leave (v := some (.int (1 : Int32))) (fun h => by rw [Bd.returns] at h; cases h) Bd.notSynchronized
    refine ⟨_, _, k _ (retOut X1 hx Bd.returns rfl (Or.inl ⟨rfl, by simp, _, rfl⟩) (hb hby own_d12_28) hr), hrun, hended, _, _, rfl, ?_, ⟨_, rfl⟩, hW, hsame.mono (by decide) (by decide)⟩
    show Q13 Z a1 t cf tw mx W0 A0 h0 n0 _ T1.heap _
    rw [e1]
    exact ⟨(by simp [own_emp, cc2]), N0, rfl⟩
  · replace k : own_K p.tables e below (s₁.setTop (entryFrame m #[(.ref a1), (.long t), (.ref cf)] 4)) (T1.setTop (mkF m 7 #[.val (.ref a1), .val (.long t), .second, .val (.ref cf)] [])) := fun tt h => k tt (XS.ifNo X1.here hx rfl (hb hby own_d12_4) rfl ((if0 _ _).trans (feq cc2).1) h)
    replace k : own_K p.tables e below (s₁.setTop (entryFrame m #[(.ref a1), (.long t), (.ref cf)] 4)) (T1.setTop (mkF m 8 #[.val (.ref a1), .val (.long t), .second, .val (.ref cf)] [(.long t)])) := fun tt h => k tt (XS.lloadN X1.here hx rfl (hb hby own_d12_7) rfl h)
    replace k : own_K p.tables e below (s₁.setTop (entryFrame m #[(.ref a1), (.long t), (.ref cf)] 4)) (T1.setTop (mkF m 9 #[.val (.ref a1), .val (.long t), .second, .val (.ref cf)] [(.ref cf), (.long t)])) := fun tt h => k tt (XS.aloadN X1.here hx rfl (hb hby own_d12_8) rfl rfl h)
    obtain ⟨cq4, kq4, q4a, q4b, q4c⟩ := isOf hZ e1 EC
    obtain ⟨_, _, ⟨T4, L4, kk4, n4⟩, -, X4, ⟨Lc4, hQ4, l4, y4, z4⟩, st4⟩ := X1.virtualBack hx (y := (⟨"com/example/intrvl/intrvl/limit/RateLimiterConfig", "timeWindowMillis", "()J"⟩ : MethodName)) (z := (⟨"com/example/intrvl/intrvl/limit/RateLimiterConfig", "timeWindowMillis", "()J"⟩ : MethodName)) hown (mvT hZ (hw _ (List.mem_of_getElem? (i := 62) rfl))) (mvT hZ (hw _ (List.mem_of_getElem? (i := 63) rfl))) (notFace_of_selects (args := #[]) (mvT hZ (hw _ (List.mem_of_getElem? (i := 65) rfl)))) (mvT hZ (hw _ (List.mem_of_getElem? (i := 65) rfl))) (mvT hZ (hw _ (List.mem_of_getElem? (i := 64) rfl))) (by decide) (backOf (W := 2) (rm6 l Z a0 hw [] cf tw h0 n0 FT) hZ (hw _ (List.mem_of_getElem? (i := 66) rfl)) (hw _ (List.mem_of_getElem? (i := 3) rfl)) (by decide) (by decide)) q4a q4c (g := (mkF m 9 #[.val (.ref a1), .val (.long t), .second, .val (.ref cf)] [(.ref cf), (.long t)])) rfl (by rw [hml]; rfl) (Steps.refl _) (argsL := []) (rest := [(.long t)]) (lenOf own_pd4 rfl) rfl (by show 2 * 0 + _ ≤ _; exact Nat.le_of_eq rfl) (hb hby own_d12_9) (fun _ _ => ⟨rfl, e1, (by decide : 0 + 0 ≤ _), (by decide : 0 + 0 ≤ _)⟩)
    dsimp only [Pt.U, Pt.locs, Pt.cells, Pt.slots] at X4 l4 y4 z4 st4 hQ4
    rw [l4, y4, z4] at X4
    obtain ⟨rfl, N4q, eq3⟩ := hQ4
    have N4 := Fr.app N0 N4q
    replace k : own_K p.tables e below (s₁.setTop (entryFrame m #[(.ref a1), (.long t), (.ref cf)] 4)) (T4.setTop (mkF m 12 #[.val (.ref a1), .val (.long t), .second, .val (.ref cf)] [(.long tw), (.long t)])) := fun tt h => k tt (st4.trans h)
    obtain ⟨_, _, ⟨T6, L6, kk6, n6⟩, -, X6, ⟨Lc6, hQ6, l6, y6, z6⟩, st6⟩ := Jvm.LawKit.callS X4 hx (y := (⟨"java/lang/Math", "floorDiv", "(JJ)J"⟩ : MethodName)) hown (mvT hZ (hw _ (List.mem_of_getElem? (i := 67) rfl))) (mvT hZ (hw _ (List.mem_of_getElem? (i := 68) rfl))) (mvT hZ (hw _ (List.mem_of_getElem? (i := 69) rfl))) (mvT hZ (hw _ (List.mem_of_getElem? (i := 70) rfl))) (by decide) (backOf (W := 0) (rm9 l Z a0 hw [] t tw h0 n0 hy) hZ (hw _ (List.mem_of_getElem? (i := 70) rfl)) (hw _ (List.mem_of_getElem? (i := 69) rfl)) (by decide) (by decide)) (g := (mkF m 12 #[.val (.ref a1), .val (.long t), .second, .val (.ref cf)] [(.long tw), (.long t)])) rfl (by rw [hml]; rfl) (argsL := [(.long t), (.long tw)]) (rest := []) (lenOf own_pd5 rfl) rfl (by show 2 * 0 + _ ≤ _; exact Nat.le_of_eq rfl) (hb hby own_d12_12) (fun _ _ => ⟨rfl, eq3, (by decide : 0 + 0 ≤ _), (by decide : 0 + 0 ≤ _)⟩)
    dsimp only [Pt.U, Pt.locs, Pt.cells, Pt.slots] at X6 l6 y6 z6 st6 hQ6
    rw [l6, y6, z6] at X6
    obtain ⟨rfl, N6q, eq5⟩ := hQ6
    have N6 := Fr.app N4 N6q
    replace k : own_K p.tables e below (s₁.setTop (entryFrame m #[(.ref a1), (.long t), (.ref cf)] 4)) (T6.setTop (mkF m 15 #[.val (.ref a1), .val (.long t), .second, .val (.ref cf)] [(.long (own_fd t tw))])) := fun tt h => k tt (st6 _ h)
    replace k : own_K p.tables e below (s₁.setTop (entryFrame m #[(.ref a1), (.long t), (.ref cf)] 4)) (T6.setTop (mkF m 16 #[.val (.ref a1), .val (.long t), .second, .val (.ref cf)] [(.ref a1), (.long (own_fd t tw))])) := fun tt h => k tt (XS.aloadN X6.here hx rfl (hb hby own_d12_15) rfl rfl h)
    obtain ⟨T7, X7, e7, st7⟩ := getF X6 hx hZ hown (host := "") (Or.inl (hw _ (List.mem_of_getElem? (i := 55) rfl))) Via.refl eq5 F_window (g := (mkF m 16 #[.val (.ref a1), .val (.long t), .second, .val (.ref cf)] [(.ref a1), (.long (own_fd t tw))])) rfl rfl (hb hby own_d12_16)
    replace k : own_K p.tables e below (s₁.setTop (entryFrame m #[(.ref a1), (.long t), (.ref cf)] 4)) (T7.setTop (mkF m 19 #[.val (.ref a1), .val (.long t), .second, .val (.ref cf)] [(.long W0), (.long (own_fd t tw))])) := fun tt h => k tt (st7 _ h)
    replace k : own_K p.tables e below (s₁.setTop (entryFrame m #[(.ref a1), (.long t), (.ref cf)] 4)) (T7.setTop (mkF m 20 #[.val (.ref a1), .val (.long t), .second, .val (.ref cf)] [(.int (lcmpW (own_fd t tw) W0))])) := fun tt h => k tt (XS.lcmp X7.here hx rfl (hb hby own_d12_19) rfl h)
    by_cases cc8 : W0 < (own_fd t tw)
    · replace k : own_K p.tables e below (s₁.setTop (entryFrame m #[(.ref a1), (.long t), (.ref cf)] 4)) (T7.setTop (mkF m 23 #[.val (.ref a1), .val (.long t), .second, .val (.ref cf)] [])) := fun tt h => k tt (XS.ifNo X7.here hx rfl (hb hby own_d12_20) rfl ((if0 _ _).trans (tlt ((lw_gt _ _).mpr cc8)).2.2.2) h)
      replace k : own_K p.tables e below (s₁.setTop (entryFrame m #[(.ref a1), (.long t), (.ref cf)] 4)) (T7.setTop (mkF m 24 #[.val (.ref a1), .val (.long t), .second, .val (.ref cf)] [(.int (1 : Int32))])) := fun tt h => k tt (XS.iconst X7.here hx rfl (hb hby own_d12_23) h)
      replace k : own_K p.tables e below (s₁.setTop (entryFrame m #[(.ref a1), (.long t), (.ref cf)] 4)) (T7.setTop (mkF m 28 #[.val (.ref a1), .val (.long t), .second, .val (.ref cf)] [(.int (1 : Int32))])) := fun tt h => k tt (XS.goto X7.here hx rfl (pc0 := 24) (pc' := 28) rfl (hb hby own_d12_24) (by decide) (by decide) h)
      obtain ⟨fs, hr, hrun, hended, hW, hsame⟩ := X7.leave (v := some (.int (1 : Int32))) (fun h => by rw [Bd.returns] at h; cases h) Bd.notSynchronized
      refine ⟨_, _, k _ (retOut X7 hx Bd.returns rfl (Or.inl ⟨rfl, by simp, _, rfl⟩) (hb hby own_d12_28) hr), hrun, hended, _, _, rfl, ?_, ⟨_, rfl⟩, hW, hsame.mono (by decide) (by decide)⟩
      show Q13 Z a1 t cf tw mx W0 A0 h0 n0 _ T7.heap _
      rw [e7]
      exact ⟨(by simp [own_emp, cc2, cc8]), N6, rfl⟩
    · replace k : own_K p.tables e below (s₁.setTop (entryFrame m #[(.ref a1), (.long t), (.ref cf)] 4)) (T7.setTop (mkF m 27 #[.val (.ref a1), .val (.long t), .second, .val (.ref cf)] [])) := fun tt h => k tt (XS.ifYes X7.here hx rfl (pc0 := 20) (pc' := 27) rfl (hb hby own_d12_20) rfl ((if0 _ _).trans (flt (fun q => cc8 ((lw_gt _ _).mp q))).2.2.2) (by decide) (by decide) h)
      replace k : own_K p.tables e below (s₁.setTop (entryFrame m #[(.ref a1), (.long t), (.ref cf)] 4)) (T7.setTop (mkF m 28 #[.val (.ref a1), .val (.long t), .second, .val (.ref cf)] [(.int (0 : Int32))])) := fun tt h => k tt (XS.iconst X7.here hx rfl (hb hby own_d12_27) h)
      obtain ⟨fs, hr, hrun, hended, hW, hsame⟩ := X7.leave (v := some (.int (0 : Int32))) (fun h => by rw [Bd.returns] at h; cases h) Bd.notSynchronized
      refine ⟨_, _, k _ (retOut X7 hx Bd.returns rfl (Or.inl ⟨rfl, by simp, _, rfl⟩) (hb hby own_d12_28) hr), hrun, hended, _, _, rfl, ?_, ⟨_, rfl⟩, hW, hsame.mono (by decide) (by decide)⟩
      show Q13 Z a1 t cf tw mx W0 A0 h0 n0 _ T7.heap _
      rw [e7]
      exact ⟨(by simp [own_emp, cc2, cc8]), N6, rfl⟩
theorem own_d14_0 : decode prog_3_method_4_code 0 = .ok (.aload_n 0, 1) := by decide +kernel
theorem own_d14_1 : decode prog_3_method_4_code 1 = .ok (.dup, 1) := by decide +kernel
theorem own_d14_2 : decode prog_3_method_4_code 2 = .ok (.getfield 29, 3) := by decide +kernel
theorem own_d14_5 : decode prog_3_method_4_code 5 = .ok (.iconst 1, 1) := by decide +kernel
theorem own_d14_6 : decode prog_3_method_4_code 6 = .ok (.iadd, 1) := by decide +kernel
theorem own_d14_7 : decode prog_3_method_4_code 7 = .ok (.putfield 29, 3) := by decide +kernel
theorem own_d14_10 : decode prog_3_method_4_code 10 = .ok (.return_, 1) := by decide +kernel
theorem own_ef14 (m : MethodId) (y0 : Addr) : entryFrame m #[(.ref y0)] 1 = mkF m 0 #[.val (.ref y0)] [] := by first | (simp [entryFrame, mkF, argsToLocals, Value.category]; done) | rfl
def Q14 (Z : State) (a1 : Addr) (W0 : Int64) (A0 : Int32) (h0 : Heap) (n0 : Nat) (v : Option Value) (h : Heap) (L : List Loc) : Prop := v = none ∧ Fr n0 L ∧ Keep h0 h [a1] ∧ Exa Z h a1 "com/example/intrvl/intrvl/fixedwindow/FixedWindow" ∧ Fld Z h a1 "com/example/intrvl/intrvl/fixedwindow/FixedWindow" "window" "J" (.long W0) ∧ Fld Z h a1 "com/example/intrvl/intrvl/fixedwindow/FixedWindow" "admitted" "I" (.int (A0 + (1 : Int32)))
set_option maxRecDepth 65536 in
set_option maxHeartbeats 40000000 in
theorem rm14 (l : Launch) (Z : State) (a0 : Array Value) (hw : ∀ d ∈ tables_1, d.before a0 Z = true) (ws : List Jvm.Cond) (a1 : Addr) (W0 : Int64) (A0 : Int32) (h0 : Heap) (n0 : Nat) (E1 : Exa Z h0 a1 "com/example/intrvl/intrvl/fixedwindow/FixedWindow") (F_window : Fld Z h0 a1 "com/example/intrvl/intrvl/fixedwindow/FixedWindow" "window" "J" (.long W0)) (F_admitted : Fld Z h0 a1 "com/example/intrvl/intrvl/fixedwindow/FixedWindow" "admitted" "I" (.int A0)) (g1 : n0 ≤ a1) :
    MetFree l (⟨"com/example/intrvl/intrvl/fixedwindow/FixedWindow", "count", "()V"⟩ : MethodName) (head1 (Jvm.Cond.code (⟨"com/example/intrvl/intrvl/fixedwindow/FixedWindow", "count", "()V"⟩ : MethodName) prog_3_method_4_code 1 none :: ws) ({ frames := 0, cells := 0, slots := 0, locals := 0 } : Room)) (fun aaz U => aaz = #[(.ref a1)] ∧ Z.Warmed39 U.vm ∧ U.heap = h0) (fun _ _ _ _ _ => True) (fun _ U o U' => ∃ v L, o = .returned v ∧ Q14 Z a1 W0 A0 h0 n0 v U'.heap L ∧ FrameEnd U o U' L ({ frames := 0, cells := 0, slots := 0, locals := 0 } : Room).cells ({ frames := 0, cells := 0, slots := 0, locals := 0 } : Room).slots) := by
  refine MetFree.of_bodySF (plainFor_of_name own_pn5) hisR ?_
  intro p e s m args below meth cde s₁ Bd hml0 hP hK
  obtain ⟨rfl, hZ, hh⟩ := hP
  have hx := Bd.exec
  have hby := Bd.bytes
  have hml : cde.maxLocals = 1 := hml0
  have hown : s.vm.findClass "com/example/intrvl/intrvl/fixedwindow/FixedWindow" = some m.cls := findClass_of_methodNamed Bd.named
  have hnm := (name_of_methodNamed Bd.named Bd.method).1
  have X0 : Stand p l e ({ frames := 0, cells := 0, slots := 0, locals := 0 } : Room) s m #[(.ref a1)] below meth cde s₁ [] 0 0 := Stand.of_body Bd
  have e0 : s₁.heap = h0 := by rw [← hh, Bd.state]; rfl
  have N0 := Fr.nil n0
  have k : own_K p.tables e below (s₁.setTop (entryFrame m #[(.ref a1)] 1)) (s₁.setTop (mkF m 0 #[.val (.ref a1)] [])) := fun tt h => castTop (own_ef14 m a1) h
  have K1 : Keep h0 h0 [a1] := Keep.refl h0 [a1]
  replace k : own_K p.tables e below (s₁.setTop (entryFrame m #[(.ref a1)] 1)) (s₁.setTop (mkF m 1 #[.val (.ref a1)] [(.ref a1)])) := fun tt h => k tt (XS.aloadN X0.here hx rfl (hb hby own_d14_0) rfl rfl h)
  replace k : own_K p.tables e below (s₁.setTop (entryFrame m #[(.ref a1)] 1)) (s₁.setTop (mkF m 2 #[.val (.ref a1)] [(.ref a1), (.ref a1)])) := fun tt h => k tt (XS.dup X0.here hx rfl (hb hby own_d14_1) rfl rfl h)
  obtain ⟨T1, X1, e1, st1⟩ := getF X0 hx hZ hown (host := "") (Or.inl (hw _ (List.mem_of_getElem? (i := 71) rfl))) Via.refl e0 F_admitted (g := (mkF m 2 #[.val (.ref a1)] [(.ref a1), (.ref a1)])) rfl rfl (hb hby own_d14_2)
  replace k : own_K p.tables e below (s₁.setTop (entryFrame m #[(.ref a1)] 1)) (T1.setTop (mkF m 5 #[.val (.ref a1)] [(.int A0), (.ref a1)])) := fun tt h => k tt (st1 _ h)
  replace k : own_K p.tables e below (s₁.setTop (entryFrame m #[(.ref a1)] 1)) (T1.setTop (mkF m 6 #[.val (.ref a1)] [(.int (1 : Int32)), (.int A0), (.ref a1)])) := fun tt h => k tt (XS.iconst X1.here hx rfl (hb hby own_d14_5) h)
  replace k : own_K p.tables e below (s₁.setTop (entryFrame m #[(.ref a1)] 1)) (T1.setTop (mkF m 7 #[.val (.ref a1)] [(.int (A0 + (1 : Int32))), (.ref a1)])) := fun tt h => k tt (XS.iadd X1.here hx rfl (hb hby own_d14_6) rfl h)
  obtain ⟨T2, h2, X2, e2, W2, st2⟩ := putF X1 hx hZ hown (host := "") (Or.inl (hw _ (List.mem_of_getElem? (i := 71) rfl))) Via.refl e1 F_admitted E1 (Or.inl (hw _ (List.mem_of_getElem? (i := 72) rfl))) (hw _ (List.mem_of_getElem? (i := 48) rfl)) (ty := .int) (by decide) rfl rfl (g := (mkF m 7 #[.val (.ref a1)] [(.int (A0 + (1 : Int32))), (.ref a1)])) rfl rfl (hb hby own_d14_7)
  have N2 := Fr.snoc X2 N0 g1
  replace k : own_K p.tables e below (s₁.setTop (entryFrame m #[(.ref a1)] 1)) (T2.setTop (mkF m 10 #[.val (.ref a1)] [])) := fun tt h => k tt (st2 _ h)
  replace F_admitted := F_admitted.same W2
  replace F_window := F_window.other W2 (Or.inr (slot_ne (Or.inl (hw _ (List.mem_of_getElem? (i := 56) rfl))) (Or.inl (hw _ (List.mem_of_getElem? (i := 72) rfl))) (by decide) (t := .long) (t' := .int) (by decide) (by decide)))
  replace E1 := E1.wr W2
  replace K1 := K1.wr W2 (Or.inl (List.mem_of_getElem? (i := 0) rfl))
  obtain ⟨fs, hr, hrun, hended, hW, hsame⟩ := X2.leave (v := none) (fun _ => rfl) Bd.notSynchronized
  refine ⟨_, _, k _ (X2.returnOut hx Bd.returns (hb hby own_d14_10) hr), hrun, hended, _, _, rfl, ?_, ⟨_, rfl⟩, hW, hsame.mono (by decide) (by decide)⟩
  show Q14 Z a1 W0 A0 h0 n0 _ T2.heap _
  rw [e2]
  exact ⟨rfl, N2, K1, E1, F_window, F_admitted⟩
theorem own_pd7 : parseMethodDescriptor "(IJLcom/example/intrvl/intrvl/limit/RateLimiterType;)V" = some ⟨[.int, .long, (.object "com/example/intrvl/intrvl/limit/RateLimiterType")], none⟩ := by decide +kernel
theorem own_pd8 : parseMethodDescriptor "(JLcom/example/intrvl/intrvl/limit/RateLimiterConfig;)Z" = some ⟨[.long, (.object "com/example/intrvl/intrvl/limit/RateLimiterConfig")], some .boolean⟩ := by decide +kernel
theorem own_ef0 (m : MethodId) (y0 : Int64) (y1 : Int64) (y2 : Int64) (y3 : Int32) (y4 : Int32) : entryFrame m #[(.long y0), (.long y1), (.long y2), (.int y3), (.int y4)] maxLocals = mkF m 0 #[.val (.long y0), .second, .val (.long y1), .second, .val (.long y2), .second, .val (.int y3), .val (.int y4), .unset, .unset, .unset, .unset, .unset, .unset, .unset, .unset, .unset, .unset] [] := by first | (simp [entryFrame, mkF, argsToLocals, Value.category, maxLocals]; done) | rfl
def Q0 (Z : State) (t0 : Int64) (t1 : Int64) (t : Int64) (ai : Int32) (fi : Int32) (ty : Addr) (h0 : Heap) (n0 : Nat) (v : Option Value) (h : Heap) (L : List Loc) : Prop := v = some (.int 1) ∧ Fr n0 L
set_option maxRecDepth 65536 in
set_option maxHeartbeats 40000000 in
theorem rm0 (l : Launch) (Z : State) (a0 : Array Value) (hw : ∀ d ∈ tables_1, d.before a0 Z = true) (ws : List Jvm.Cond) (t0 : Int64) (t1 : Int64) (t : Int64) (ai : Int32) (fi : Int32) (ty : Addr) (h0 : Heap) (n0 : Nat) (Z0 : n0 ≤ h0.size) (S1 : Sta Z h0 "com/example/intrvl/intrvl/limit/RateLimiterType" "FIXED_WINDOW" "Lcom/example/intrvl/intrvl/limit/RateLimiterType;" (.ref ty)) :
    MetFree l x (head1 (Jvm.Cond.code x code maxLocals ret :: ws) room_1) (fun aaz U => aaz = #[(.long t0), (.long t1), (.long t), (.int ai), (.int fi)] ∧ Z.Warmed39 U.vm ∧ U.heap = h0) (fun _ _ _ _ _ => True) (fun _ U o U' => ∃ v L, o = .returned v ∧ Q0 Z t0 t1 t ai fi ty h0 n0 v U'.heap L ∧ ReturnedEndW U o U' L room_1.cells room_1.slots) := by
  refine MetFree.of_bodySF (plainFor_of_name own_pn4) hisR ?_
  intro p e s m args below meth cde s₁ Bd hml0 hP hK
  obtain ⟨rfl, hZ, hh⟩ := hP
  have hx := Bd.exec
  have hby := Bd.bytes
  have hml : cde.maxLocals = 18 := hml0
  have hown : (s.setVm s.vm).vm.findClass "com/example/intrvl/intrvl/fixedwindow/FixedWindowIsEmptyPinLaw" = some m.cls := findClass_of_methodNamed Bd.named
  have hZ : Z.Warmed39 (s.setVm s.vm).vm := hZ
  have hnm := (name_of_methodNamed Bd.named Bd.method).1
  have X0 : Stand p l e room_1 (s.setVm s.vm) m #[(.long t0), (.long t1), (.long t), (.int ai), (.int fi)] below meth cde s₁ [] 0 0 := Stand.of_body Bd
  have e0 : s₁.heap = h0 := by rw [← hh, Bd.state]; rfl
  have N0 := Fr.nil n0
  have hS0 : s.Since s.vm h0.size := (State.WarmedH.refl s).since _
  have hk0 : h0.size ≤ h0.size := Nat.le_refl _
  have k : own_K p.tables e below (s₁.setTop (entryFrame m #[(.long t0), (.long t1), (.long t), (.int ai), (.int fi)] maxLocals)) (s₁.setTop (mkF m 0 #[.val (.long t0), .second, .val (.long t1), .second, .val (.long t), .second, .val (.int ai), .val (.int fi), .unset, .unset, .unset, .unset, .unset, .unset, .unset, .unset, .unset, .unset] [])) := fun tt h => castTop (own_ef0 m t0 t1 t ai fi) h
  refine cps (A := ∃ (TJ : State) (len now : Int64) (LJ : List Loc), Fr n0 LJ ∧ Stand p l e room_1 (s.setVm s.vm) m #[(.long t0), (.long t1), (.long t), (.int ai), (.int fi)] below meth cde TJ LJ 0 0 ∧ TJ.heap = h0 ∧ (0 : Int64) < len ∧ own_K p.tables e below (s₁.setTop (entryFrame m #[(.long t0), (.long t1), (.long t), (.int ai), (.int fi)] maxLocals)) (TJ.setTop (mkF m 59 #[.val (.long t0), .second, .val (.long t1), .second, .val (.long t), .second, .val (.int ai), .val (.int fi), .val (.long len), .second, .val (.int ((ai &&& (3 : Int32)) + (1 : Int32))), .val (.long now), .second, .unset, .unset, .unset, .unset, .unset] []))) (fun tail => ?_) ?_
  · replace k : own_K p.tables e below (s₁.setTop (entryFrame m #[(.long t0), (.long t1), (.long t), (.int ai), (.int fi)] maxLocals)) (s₁.setTop (mkF m 2 #[.val (.long t0), .second, .val (.long t1), .second, .val (.long t), .second, .val (.int ai), .val (.int fi), .unset, .unset, .unset, .unset, .unset, .unset, .unset, .unset, .unset, .unset] [(.int fi)])) := fun tt h => k tt (XS.iload X0.here hx rfl (hb hby at_0) rfl h)
    replace k : own_K p.tables e below (s₁.setTop (entryFrame m #[(.long t0), (.long t1), (.long t), (.int ai), (.int fi)] maxLocals)) (s₁.setTop (mkF m 3 #[.val (.long t0), .second, .val (.long t1), .second, .val (.long t), .second, .val (.int ai), .val (.int fi), .unset, .unset, .unset, .unset, .unset, .unset, .unset, .unset, .unset, .unset] [(.int (1 : Int32)), (.int fi)])) := fun tt h => k tt (XS.iconst X0.here hx rfl (hb hby at_2) h)
    replace k : own_K p.tables e below (s₁.setTop (entryFrame m #[(.long t0), (.long t1), (.long t), (.int ai), (.int fi)] maxLocals)) (s₁.setTop (mkF m 4 #[.val (.long t0), .second, .val (.long t1), .second, .val (.long t), .second, .val (.int ai), .val (.int fi), .unset, .unset, .unset, .unset, .unset, .unset, .unset, .unset, .unset, .unset] [(.int (fi &&& (1 : Int32)))])) := fun tt h => k tt (XS.iand X0.here hx rfl (hb hby at_3) rfl h)
    by_cases cc1 : (fi &&& (1 : Int32)) = (0 : Int32)
    · replace k : own_K p.tables e below (s₁.setTop (entryFrame m #[(.long t0), (.long t1), (.long t), (.int ai), (.int fi)] maxLocals)) (s₁.setTop (mkF m 18 #[.val (.long t0), .second, .val (.long t1), .second, .val (.long t), .second, .val (.int ai), .val (.int fi), .unset, .unset, .unset, .unset, .unset, .unset, .unset, .unset, .unset, .unset] [])) := fun tt h => k tt (XS.ifYes X0.here hx rfl (pc0 := 4) (pc' := 18) rfl (hb hby at_4) rfl ((if0 _ _).trans (teq cc1).1) (by decide) (by decide) h)
      replace k : own_K p.tables e below (s₁.setTop (entryFrame m #[(.long t0), (.long t1), (.long t), (.int ai), (.int fi)] maxLocals)) (s₁.setTop (mkF m 19 #[.val (.long t0), .second, .val (.long t1), .second, .val (.long t), .second, .val (.int ai), .val (.int fi), .unset, .unset, .unset, .unset, .unset, .unset, .unset, .unset, .unset, .unset] [(.long (1 : Int64))])) := fun tt h => k tt (XS.lconst X0.here hx rfl (hb hby at_18) h)
      replace k : own_K p.tables e below (s₁.setTop (entryFrame m #[(.long t0), (.long t1), (.long t), (.int ai), (.int fi)] maxLocals)) (s₁.setTop (mkF m 21 #[.val (.long t0), .second, .val (.long t1), .second, .val (.long t), .second, .val (.int ai), .val (.int fi), .unset, .unset, .unset, .unset, .unset, .unset, .unset, .unset, .unset, .unset] [(.long t), (.long (1 : Int64))])) := fun tt h => k tt (XS.lload X0.here hx rfl (hb hby at_19) rfl h)
      replace k : own_K p.tables e below (s₁.setTop (entryFrame m #[(.long t0), (.long t1), (.long t), (.int ai), (.int fi)] maxLocals)) (s₁.setTop (mkF m 24 #[.val (.long t0), .second, .val (.long t1), .second, .val (.long t), .second, .val (.int ai), .val (.int fi), .unset, .unset, .unset, .unset, .unset, .unset, .unset, .unset, .unset, .unset] [(.long (9223372036854775807 : Int64)), (.long t), (.long (1 : Int64))])) := fun tt h => k tt (X0.ldc2Long hx hown (mvT hZ (hw _ (List.mem_of_getElem? (i := 83) rfl))) (g := (mkF m 21 #[.val (.long t0), .second, .val (.long t1), .second, .val (.long t), .second, .val (.int ai), .val (.int fi), .unset, .unset, .unset, .unset, .unset, .unset, .unset, .unset, .unset, .unset] [(.long t), (.long (1 : Int64))])) rfl (hb hby at_21) _ h)
      replace k : own_K p.tables e below (s₁.setTop (entryFrame m #[(.long t0), (.long t1), (.long t), (.int ai), (.int fi)] maxLocals)) (s₁.setTop (mkF m 25 #[.val (.long t0), .second, .val (.long t1), .second, .val (.long t), .second, .val (.int ai), .val (.int fi), .unset, .unset, .unset, .unset, .unset, .unset, .unset, .unset, .unset, .unset] [(.long (t &&& (9223372036854775807 : Int64))), (.long (1 : Int64))])) := fun tt h => k tt (XS.land X0.here hx rfl (hb hby at_24) rfl h)
      obtain ⟨_, _, ⟨T3, L3, kk3, n3⟩, -, X3, ⟨Lc3, hQ3, l3, y3, z3⟩, st3⟩ := Jvm.LawKit.callS X0 hx (y := (⟨"java/lang/Math", "max", "(JJ)J"⟩ : MethodName)) hown (mvT hZ (hw _ (List.mem_of_getElem? (i := 84) rfl))) (mvT hZ (hw _ (List.mem_of_getElem? (i := 85) rfl))) (mvT hZ (hw _ (List.mem_of_getElem? (i := 69) rfl))) (mvT hZ (hw _ (List.mem_of_getElem? (i := 86) rfl))) (by decide) (backOf (W := 0) (rm8 l Z a0 hw [] (1 : Int64) (t &&& (9223372036854775807 : Int64)) h0 n0) hZ (hw _ (List.mem_of_getElem? (i := 86) rfl)) (hw _ (List.mem_of_getElem? (i := 69) rfl)) (by decide) (by decide)) (g := (mkF m 25 #[.val (.long t0), .second, .val (.long t1), .second, .val (.long t), .second, .val (.int ai), .val (.int fi), .unset, .unset, .unset, .unset, .unset, .unset, .unset, .unset, .unset, .unset] [(.long (t &&& (9223372036854775807 : Int64))), (.long (1 : Int64))])) rfl (by rw [hml]; rfl) (argsL := [(.long (1 : Int64)), (.long (t &&& (9223372036854775807 : Int64)))]) (rest := []) (lenOf own_pd5 rfl) rfl (by show 2 * 0 + _ ≤ _; exact Nat.le_of_eq rfl) (hb hby at_25) (fun _ _ => ⟨rfl, e0, (by decide : 0 + 0 ≤ _), (by decide : 0 + 0 ≤ _)⟩)
      dsimp only [Pt.U, Pt.locs, Pt.cells, Pt.slots] at X3 l3 y3 z3 st3 hQ3
      rw [l3, y3, z3] at X3
      obtain ⟨rfl, N3q, eq2⟩ := hQ3
      have N3 := Fr.app N0 N3q
      replace k : own_K p.tables e below (s₁.setTop (entryFrame m #[(.long t0), (.long t1), (.long t), (.int ai), (.int fi)] maxLocals)) (T3.setTop (mkF m 28 #[.val (.long t0), .second, .val (.long t1), .second, .val (.long t), .second, .val (.int ai), .val (.int fi), .unset, .unset, .unset, .unset, .unset, .unset, .unset, .unset, .unset, .unset] [(.long (own_max (1 : Int64) (t &&& (9223372036854775807 : Int64))))])) := fun tt h => k tt (st3 _ h)
      replace k : own_K p.tables e below (s₁.setTop (entryFrame m #[(.long t0), (.long t1), (.long t), (.int ai), (.int fi)] maxLocals)) (T3.setTop (mkF m 30 #[.val (.long t0), .second, .val (.long t1), .second, .val (.long t), .second, .val (.int ai), .val (.int fi), .val (.long (own_max (1 : Int64) (t &&& (9223372036854775807 : Int64)))), .second, .unset, .unset, .unset, .unset, .unset, .unset, .unset, .unset] [])) := fun tt h => k tt (XS.lstore X3.here hx rfl (hb hby at_28) rfl (l' := #[.val (.long t0), .second, .val (.long t1), .second, .val (.long t), .second, .val (.int ai), .val (.int fi), .val (.long (own_max (1 : Int64) (t &&& (9223372036854775807 : Int64)))), .second, .unset, .unset, .unset, .unset, .unset, .unset, .unset, .unset]) rfl h)
      replace k : own_K p.tables e below (s₁.setTop (entryFrame m #[(.long t0), (.long t1), (.long t), (.int ai), (.int fi)] maxLocals)) (T3.setTop (mkF m 32 #[.val (.long t0), .second, .val (.long t1), .second, .val (.long t), .second, .val (.int ai), .val (.int fi), .val (.long (own_max (1 : Int64) (t &&& (9223372036854775807 : Int64)))), .second, .unset, .unset, .unset, .unset, .unset, .unset, .unset, .unset] [(.int ai)])) := fun tt h => k tt (XS.iload X3.here hx rfl (hb hby at_30) rfl h)
      replace k : own_K p.tables e below (s₁.setTop (entryFrame m #[(.long t0), (.long t1), (.long t), (.int ai), (.int fi)] maxLocals)) (T3.setTop (mkF m 33 #[.val (.long t0), .second, .val (.long t1), .second, .val (.long t), .second, .val (.int ai), .val (.int fi), .val (.long (own_max (1 : Int64) (t &&& (9223372036854775807 : Int64)))), .second, .unset, .unset, .unset, .unset, .unset, .unset, .unset, .unset] [(.int (3 : Int32)), (.int ai)])) := fun tt h => k tt (XS.iconst X3.here hx rfl (hb hby at_32) h)
      replace k : own_K p.tables e below (s₁.setTop (entryFrame m #[(.long t0), (.long t1), (.long t), (.int ai), (.int fi)] maxLocals)) (T3.setTop (mkF m 34 #[.val (.long t0), .second, .val (.long t1), .second, .val (.long t), .second, .val (.int ai), .val (.int fi), .val (.long (own_max (1 : Int64) (t &&& (9223372036854775807 : Int64)))), .second, .unset, .unset, .unset, .unset, .unset, .unset, .unset, .unset] [(.int (ai &&& (3 : Int32)))])) := fun tt h => k tt (XS.iand X3.here hx rfl (hb hby at_33) rfl h)
      replace k : own_K p.tables e below (s₁.setTop (entryFrame m #[(.long t0), (.long t1), (.long t), (.int ai), (.int fi)] maxLocals)) (T3.setTop (mkF m 35 #[.val (.long t0), .second, .val (.long t1), .second, .val (.long t), .second, .val (.int ai), .val (.int fi), .val (.long (own_max (1 : Int64) (t &&& (9223372036854775807 : Int64)))), .second, .unset, .unset, .unset, .unset, .unset, .unset, .unset, .unset] [(.int (1 : Int32)), (.int (ai &&& (3 : Int32)))])) := fun tt h => k tt (XS.iconst X3.here hx rfl (hb hby at_34) h)
      replace k : own_K p.tables e below (s₁.setTop (entryFrame m #[(.long t0), (.long t1), (.long t), (.int ai), (.int fi)] maxLocals)) (T3.setTop (mkF m 36 #[.val (.long t0), .second, .val (.long t1), .second, .val (.long t), .second, .val (.int ai), .val (.int fi), .val (.long (own_max (1 : Int64) (t &&& (9223372036854775807 : Int64)))), .second, .unset, .unset, .unset, .unset, .unset, .unset, .unset, .unset] [(.int ((ai &&& (3 : Int32)) + (1 : Int32)))])) := fun tt h => k tt (XS.iadd X3.here hx rfl (hb hby at_35) rfl h)
      replace k : own_K p.tables e below (s₁.setTop (entryFrame m #[(.long t0), (.long t1), (.long t), (.int ai), (.int fi)] maxLocals)) (T3.setTop (mkF m 38 #[.val (.long t0), .second, .val (.long t1), .second, .val (.long t), .second, .val (.int ai), .val (.int fi), .val (.long (own_max (1 : Int64) (t &&& (9223372036854775807 : Int64)))), .second, .val (.int ((ai &&& (3 : Int32)) + (1 : Int32))), .unset, .unset, .unset, .unset, .unset, .unset, .unset] [])) := fun tt h => k tt (XS.istore X3.here hx rfl (hb hby at_36) rfl (l' := #[.val (.long t0), .second, .val (.long t1), .second, .val (.long t), .second, .val (.int ai), .val (.int fi), .val (.long (own_max (1 : Int64) (t &&& (9223372036854775807 : Int64)))), .second, .val (.int ((ai &&& (3 : Int32)) + (1 : Int32))), .unset, .unset, .unset, .unset, .unset, .unset, .unset]) rfl h)
      replace k : own_K p.tables e below (s₁.setTop (entryFrame m #[(.long t0), (.long t1), (.long t), (.int ai), (.int fi)] maxLocals)) (T3.setTop (mkF m 40 #[.val (.long t0), .second, .val (.long t1), .second, .val (.long t), .second, .val (.int ai), .val (.int fi), .val (.long (own_max (1 : Int64) (t &&& (9223372036854775807 : Int64)))), .second, .val (.int ((ai &&& (3 : Int32)) + (1 : Int32))), .unset, .unset, .unset, .unset, .unset, .unset, .unset] [(.int fi)])) := fun tt h => k tt (XS.iload X3.here hx rfl (hb hby at_38) rfl h)
      replace k : own_K p.tables e below (s₁.setTop (entryFrame m #[(.long t0), (.long t1), (.long t), (.int ai), (.int fi)] maxLocals)) (T3.setTop (mkF m 42 #[.val (.long t0), .second, .val (.long t1), .second, .val (.long t), .second, .val (.int ai), .val (.int fi), .val (.long (own_max (1 : Int64) (t &&& (9223372036854775807 : Int64)))), .second, .val (.int ((ai &&& (3 : Int32)) + (1 : Int32))), .unset, .unset, .unset, .unset, .unset, .unset, .unset] [(.int (8 : Int32)), (.int fi)])) := fun tt h => k tt (XS.bipush X3.here hx rfl (hb hby at_40) h)
      replace k : own_K p.tables e below (s₁.setTop (entryFrame m #[(.long t0), (.long t1), (.long t), (.int ai), (.int fi)] maxLocals)) (T3.setTop (mkF m 43 #[.val (.long t0), .second, .val (.long t1), .second, .val (.long t), .second, .val (.int ai), .val (.int fi), .val (.long (own_max (1 : Int64) (t &&& (9223372036854775807 : Int64)))), .second, .val (.int ((ai &&& (3 : Int32)) + (1 : Int32))), .unset, .unset, .unset, .unset, .unset, .unset, .unset] [(.int (fi &&& (8 : Int32)))])) := fun tt h => k tt (XS.iand X3.here hx rfl (hb hby at_42) rfl h)
      by_cases cc4 : (fi &&& (8 : Int32)) = (0 : Int32)
      · replace k : own_K p.tables e below (s₁.setTop (entryFrame m #[(.long t0), (.long t1), (.long t), (.int ai), (.int fi)] maxLocals)) (T3.setTop (mkF m 56 #[.val (.long t0), .second, .val (.long t1), .second, .val (.long t), .second, .val (.int ai), .val (.int fi), .val (.long (own_max (1 : Int64) (t &&& (9223372036854775807 : Int64)))), .second, .val (.int ((ai &&& (3 : Int32)) + (1 : Int32))), .unset, .unset, .unset, .unset, .unset, .unset, .unset] [])) := fun tt h => k tt (XS.ifYes X3.here hx rfl (pc0 := 43) (pc' := 56) rfl (hb hby at_43) rfl ((if0 _ _).trans (teq cc4).1) (by decide) (by decide) h)
        replace k : own_K p.tables e below (s₁.setTop (entryFrame m #[(.long t0), (.long t1), (.long t), (.int ai), (.int fi)] maxLocals)) (T3.setTop (mkF m 57 #[.val (.long t0), .second, .val (.long t1), .second, .val (.long t), .second, .val (.int ai), .val (.int fi), .val (.long (own_max (1 : Int64) (t &&& (9223372036854775807 : Int64)))), .second, .val (.int ((ai &&& (3 : Int32)) + (1 : Int32))), .unset, .unset, .unset, .unset, .unset, .unset, .unset] [(.long t1)])) := fun tt h => k tt (XS.lloadN X3.here hx rfl (hb hby at_56) rfl h)
        replace k : own_K p.tables e below (s₁.setTop (entryFrame m #[(.long t0), (.long t1), (.long t), (.int ai), (.int fi)] maxLocals)) (T3.setTop (mkF m 59 #[.val (.long t0), .second, .val (.long t1), .second, .val (.long t), .second, .val (.int ai), .val (.int fi), .val (.long (own_max (1 : Int64) (t &&& (9223372036854775807 : Int64)))), .second, .val (.int ((ai &&& (3 : Int32)) + (1 : Int32))), .val (.long t1), .second, .unset, .unset, .unset, .unset, .unset] [])) := fun tt h => k tt (XS.lstore X3.here hx rfl (hb hby at_57) rfl (l' := #[.val (.long t0), .second, .val (.long t1), .second, .val (.long t), .second, .val (.int ai), .val (.int fi), .val (.long (own_max (1 : Int64) (t &&& (9223372036854775807 : Int64)))), .second, .val (.int ((ai &&& (3 : Int32)) + (1 : Int32))), .val (.long t1), .second, .unset, .unset, .unset, .unset, .unset]) rfl h)
        exact tail ⟨T3, (own_max (1 : Int64) (t &&& (9223372036854775807 : Int64))), t1, _, N3, X3, eq2, (own_len2 _), k⟩
      · replace k : own_K p.tables e below (s₁.setTop (entryFrame m #[(.long t0), (.long t1), (.long t), (.int ai), (.int fi)] maxLocals)) (T3.setTop (mkF m 46 #[.val (.long t0), .second, .val (.long t1), .second, .val (.long t), .second, .val (.int ai), .val (.int fi), .val (.long (own_max (1 : Int64) (t &&& (9223372036854775807 : Int64)))), .second, .val (.int ((ai &&& (3 : Int32)) + (1 : Int32))), .unset, .unset, .unset, .unset, .unset, .unset, .unset] [])) := fun tt h => k tt (XS.ifNo X3.here hx rfl (hb hby at_43) rfl ((if0 _ _).trans (feq cc4).1) h)
        replace k : own_K p.tables e below (s₁.setTop (entryFrame m #[(.long t0), (.long t1), (.long t), (.int ai), (.int fi)] maxLocals)) (T3.setTop (mkF m 47 #[.val (.long t0), .second, .val (.long t1), .second, .val (.long t), .second, .val (.int ai), .val (.int fi), .val (.long (own_max (1 : Int64) (t &&& (9223372036854775807 : Int64)))), .second, .val (.int ((ai &&& (3 : Int32)) + (1 : Int32))), .unset, .unset, .unset, .unset, .unset, .unset, .unset] [(.long t0)])) := fun tt h => k tt (XS.lloadN X3.here hx rfl (hb hby at_46) rfl h)
        replace k : own_K p.tables e below (s₁.setTop (entryFrame m #[(.long t0), (.long t1), (.long t), (.int ai), (.int fi)] maxLocals)) (T3.setTop (mkF m 48 #[.val (.long t0), .second, .val (.long t1), .second, .val (.long t), .second, .val (.int ai), .val (.int fi), .val (.long (own_max (1 : Int64) (t &&& (9223372036854775807 : Int64)))), .second, .val (.int ((ai &&& (3 : Int32)) + (1 : Int32))), .unset, .unset, .unset, .unset, .unset, .unset, .unset] [(.long t1), (.long t0)])) := fun tt h => k tt (XS.lloadN X3.here hx rfl (hb hby at_47) rfl h)
        replace k : own_K p.tables e below (s₁.setTop (entryFrame m #[(.long t0), (.long t1), (.long t), (.int ai), (.int fi)] maxLocals)) (T3.setTop (mkF m 51 #[.val (.long t0), .second, .val (.long t1), .second, .val (.long t), .second, .val (.int ai), .val (.int fi), .val (.long (own_max (1 : Int64) (t &&& (9223372036854775807 : Int64)))), .second, .val (.int ((ai &&& (3 : Int32)) + (1 : Int32))), .unset, .unset, .unset, .unset, .unset, .unset, .unset] [(.long (512 : Int64)), (.long t1), (.long t0)])) := fun tt h => k tt (X3.ldc2Long hx hown (mvT hZ (hw _ (List.mem_of_getElem? (i := 87) rfl))) (g := (mkF m 48 #[.val (.long t0), .second, .val (.long t1), .second, .val (.long t), .second, .val (.int ai), .val (.int fi), .val (.long (own_max (1 : Int64) (t &&& (9223372036854775807 : Int64)))), .second, .val (.int ((ai &&& (3 : Int32)) + (1 : Int32))), .unset, .unset, .unset, .unset, .unset, .unset, .unset] [(.long t1), (.long t0)])) rfl (hb hby at_48) _ h)
        replace k : own_K p.tables e below (s₁.setTop (entryFrame m #[(.long t0), (.long t1), (.long t), (.int ai), (.int fi)] maxLocals)) (T3.setTop (mkF m 52 #[.val (.long t0), .second, .val (.long t1), .second, .val (.long t), .second, .val (.int ai), .val (.int fi), .val (.long (own_max (1 : Int64) (t &&& (9223372036854775807 : Int64)))), .second, .val (.int ((ai &&& (3 : Int32)) + (1 : Int32))), .unset, .unset, .unset, .unset, .unset, .unset, .unset] [(.long (t1 % (512 : Int64))), (.long t0)])) := fun tt h => k tt (own_lremM X3 hx rfl (hb hby at_51) rfl (by decide) h)
        replace k : own_K p.tables e below (s₁.setTop (entryFrame m #[(.long t0), (.long t1), (.long t), (.int ai), (.int fi)] maxLocals)) (T3.setTop (mkF m 53 #[.val (.long t0), .second, .val (.long t1), .second, .val (.long t), .second, .val (.int ai), .val (.int fi), .val (.long (own_max (1 : Int64) (t &&& (9223372036854775807 : Int64)))), .second, .val (.int ((ai &&& (3 : Int32)) + (1 : Int32))), .unset, .unset, .unset, .unset, .unset, .unset, .unset] [(.long (t0 + (t1 % (512 : Int64))))])) := fun tt h => k tt (XS.ladd X3.here hx rfl (hb hby at_52) rfl h)
        replace k : own_K p.tables e below (s₁.setTop (entryFrame m #[(.long t0), (.long t1), (.long t), (.int ai), (.int fi)] maxLocals)) (T3.setTop (mkF m 57 #[.val (.long t0), .second, .val (.long t1), .second, .val (.long t), .second, .val (.int ai), .val (.int fi), .val (.long (own_max (1 : Int64) (t &&& (9223372036854775807 : Int64)))), .second, .val (.int ((ai &&& (3 : Int32)) + (1 : Int32))), .unset, .unset, .unset, .unset, .unset, .unset, .unset] [(.long (t0 + (t1 % (512 : Int64))))])) := fun tt h => k tt (XS.goto X3.here hx rfl (pc0 := 53) (pc' := 57) rfl (hb hby at_53) (by decide) (by decide) h)
        replace k : own_K p.tables e below (s₁.setTop (entryFrame m #[(.long t0), (.long t1), (.long t), (.int ai), (.int fi)] maxLocals)) (T3.setTop (mkF m 59 #[.val (.long t0), .second, .val (.long t1), .second, .val (.long t), .second, .val (.int ai), .val (.int fi), .val (.long (own_max (1 : Int64) (t &&& (9223372036854775807 : Int64)))), .second, .val (.int ((ai &&& (3 : Int32)) + (1 : Int32))), .val (.long (t0 + (t1 % (512 : Int64)))), .second, .unset, .unset, .unset, .unset, .unset] [])) := fun tt h => k tt (XS.lstore X3.here hx rfl (hb hby at_57) rfl (l' := #[.val (.long t0), .second, .val (.long t1), .second, .val (.long t), .second, .val (.int ai), .val (.int fi), .val (.long (own_max (1 : Int64) (t &&& (9223372036854775807 : Int64)))), .second, .val (.int ((ai &&& (3 : Int32)) + (1 : Int32))), .val (.long (t0 + (t1 % (512 : Int64)))), .second, .unset, .unset, .unset, .unset, .unset]) rfl h)
        exact tail ⟨T3, (own_max (1 : Int64) (t &&& (9223372036854775807 : Int64))), (t0 + (t1 % (512 : Int64))), _, N3, X3, eq2, (own_len2 _), k⟩
    · replace k : own_K p.tables e below (s₁.setTop (entryFrame m #[(.long t0), (.long t1), (.long t), (.int ai), (.int fi)] maxLocals)) (s₁.setTop (mkF m 7 #[.val (.long t0), .second, .val (.long t1), .second, .val (.long t), .second, .val (.int ai), .val (.int fi), .unset, .unset, .unset, .unset, .unset, .unset, .unset, .unset, .unset, .unset] [])) := fun tt h => k tt (XS.ifNo X0.here hx rfl (hb hby at_4) rfl ((if0 _ _).trans (feq cc1).1) h)
      replace k : own_K p.tables e below (s₁.setTop (entryFrame m #[(.long t0), (.long t1), (.long t), (.int ai), (.int fi)] maxLocals)) (s₁.setTop (mkF m 9 #[.val (.long t0), .second, .val (.long t1), .second, .val (.long t), .second, .val (.int ai), .val (.int fi), .unset, .unset, .unset, .unset, .unset, .unset, .unset, .unset, .unset, .unset] [(.long t)])) := fun tt h => k tt (XS.lload X0.here hx rfl (hb hby at_7) rfl h)
      replace k : own_K p.tables e below (s₁.setTop (entryFrame m #[(.long t0), (.long t1), (.long t), (.int ai), (.int fi)] maxLocals)) (s₁.setTop (mkF m 12 #[.val (.long t0), .second, .val (.long t1), .second, .val (.long t), .second, .val (.int ai), .val (.int fi), .unset, .unset, .unset, .unset, .unset, .unset, .unset, .unset, .unset, .unset] [(.long (255 : Int64)), (.long t)])) := fun tt h => k tt (X0.ldc2Long hx hown (mvT hZ (hw _ (List.mem_of_getElem? (i := 0) rfl))) (g := (mkF m 9 #[.val (.long t0), .second, .val (.long t1), .second, .val (.long t), .second, .val (.int ai), .val (.int fi), .unset, .unset, .unset, .unset, .unset, .unset, .unset, .unset, .unset, .unset] [(.long t)])) rfl (hb hby at_9) _ h)
      replace k : own_K p.tables e below (s₁.setTop (entryFrame m #[(.long t0), (.long t1), (.long t), (.int ai), (.int fi)] maxLocals)) (s₁.setTop (mkF m 13 #[.val (.long t0), .second, .val (.long t1), .second, .val (.long t), .second, .val (.int ai), .val (.int fi), .unset, .unset, .unset, .unset, .unset, .unset, .unset, .unset, .unset, .unset] [(.long (t &&& (255 : Int64)))])) := fun tt h => k tt (XS.land X0.here hx rfl (hb hby at_12) rfl h)
      replace k : own_K p.tables e below (s₁.setTop (entryFrame m #[(.long t0), (.long t1), (.long t), (.int ai), (.int fi)] maxLocals)) (s₁.setTop (mkF m 14 #[.val (.long t0), .second, .val (.long t1), .second, .val (.long t), .second, .val (.int ai), .val (.int fi), .unset, .unset, .unset, .unset, .unset, .unset, .unset, .unset, .unset, .unset] [(.long (1 : Int64)), (.long (t &&& (255 : Int64)))])) := fun tt h => k tt (XS.lconst X0.here hx rfl (hb hby at_13) h)
      replace k : own_K p.tables e below (s₁.setTop (entryFrame m #[(.long t0), (.long t1), (.long t), (.int ai), (.int fi)] maxLocals)) (s₁.setTop (mkF m 15 #[.val (.long t0), .second, .val (.long t1), .second, .val (.long t), .second, .val (.int ai), .val (.int fi), .unset, .unset, .unset, .unset, .unset, .unset, .unset, .unset, .unset, .unset] [(.long ((t &&& (255 : Int64)) + (1 : Int64)))])) := fun tt h => k tt (XS.ladd X0.here hx rfl (hb hby at_14) rfl h)
      replace k : own_K p.tables e below (s₁.setTop (entryFrame m #[(.long t0), (.long t1), (.long t), (.int ai), (.int fi)] maxLocals)) (s₁.setTop (mkF m 28 #[.val (.long t0), .second, .val (.long t1), .second, .val (.long t), .second, .val (.int ai), .val (.int fi), .unset, .unset, .unset, .unset, .unset, .unset, .unset, .unset, .unset, .unset] [(.long ((t &&& (255 : Int64)) + (1 : Int64)))])) := fun tt h => k tt (XS.goto X0.here hx rfl (pc0 := 15) (pc' := 28) rfl (hb hby at_15) (by decide) (by decide) h)
      replace k : own_K p.tables e below (s₁.setTop (entryFrame m #[(.long t0), (.long t1), (.long t), (.int ai), (.int fi)] maxLocals)) (s₁.setTop (mkF m 30 #[.val (.long t0), .second, .val (.long t1), .second, .val (.long t), .second, .val (.int ai), .val (.int fi), .val (.long ((t &&& (255 : Int64)) + (1 : Int64))), .second, .unset, .unset, .unset, .unset, .unset, .unset, .unset, .unset] [])) := fun tt h => k tt (XS.lstore X0.here hx rfl (hb hby at_28) rfl (l' := #[.val (.long t0), .second, .val (.long t1), .second, .val (.long t), .second, .val (.int ai), .val (.int fi), .val (.long ((t &&& (255 : Int64)) + (1 : Int64))), .second, .unset, .unset, .unset, .unset, .unset, .unset, .unset, .unset]) rfl h)
      replace k : own_K p.tables e below (s₁.setTop (entryFrame m #[(.long t0), (.long t1), (.long t), (.int ai), (.int fi)] maxLocals)) (s₁.setTop (mkF m 32 #[.val (.long t0), .second, .val (.long t1), .second, .val (.long t), .second, .val (.int ai), .val (.int fi), .val (.long ((t &&& (255 : Int64)) + (1 : Int64))), .second, .unset, .unset, .unset, .unset, .unset, .unset, .unset, .unset] [(.int ai)])) := fun tt h => k tt (XS.iload X0.here hx rfl (hb hby at_30) rfl h)
      replace k : own_K p.tables e below (s₁.setTop (entryFrame m #[(.long t0), (.long t1), (.long t), (.int ai), (.int fi)] maxLocals)) (s₁.setTop (mkF m 33 #[.val (.long t0), .second, .val (.long t1), .second, .val (.long t), .second, .val (.int ai), .val (.int fi), .val (.long ((t &&& (255 : Int64)) + (1 : Int64))), .second, .unset, .unset, .unset, .unset, .unset, .unset, .unset, .unset] [(.int (3 : Int32)), (.int ai)])) := fun tt h => k tt (XS.iconst X0.here hx rfl (hb hby at_32) h)
      replace k : own_K p.tables e below (s₁.setTop (entryFrame m #[(.long t0), (.long t1), (.long t), (.int ai), (.int fi)] maxLocals)) (s₁.setTop (mkF m 34 #[.val (.long t0), .second, .val (.long t1), .second, .val (.long t), .second, .val (.int ai), .val (.int fi), .val (.long ((t &&& (255 : Int64)) + (1 : Int64))), .second, .unset, .unset, .unset, .unset, .unset, .unset, .unset, .unset] [(.int (ai &&& (3 : Int32)))])) := fun tt h => k tt (XS.iand X0.here hx rfl (hb hby at_33) rfl h)
      replace k : own_K p.tables e below (s₁.setTop (entryFrame m #[(.long t0), (.long t1), (.long t), (.int ai), (.int fi)] maxLocals)) (s₁.setTop (mkF m 35 #[.val (.long t0), .second, .val (.long t1), .second, .val (.long t), .second, .val (.int ai), .val (.int fi), .val (.long ((t &&& (255 : Int64)) + (1 : Int64))), .second, .unset, .unset, .unset, .unset, .unset, .unset, .unset, .unset] [(.int (1 : Int32)), (.int (ai &&& (3 : Int32)))])) := fun tt h => k tt (XS.iconst X0.here hx rfl (hb hby at_34) h)
      replace k : own_K p.tables e below (s₁.setTop (entryFrame m #[(.long t0), (.long t1), (.long t), (.int ai), (.int fi)] maxLocals)) (s₁.setTop (mkF m 36 #[.val (.long t0), .second, .val (.long t1), .second, .val (.long t), .second, .val (.int ai), .val (.int fi), .val (.long ((t &&& (255 : Int64)) + (1 : Int64))), .second, .unset, .unset, .unset, .unset, .unset, .unset, .unset, .unset] [(.int ((ai &&& (3 : Int32)) + (1 : Int32)))])) := fun tt h => k tt (XS.iadd X0.here hx rfl (hb hby at_35) rfl h)
      replace k : own_K p.tables e below (s₁.setTop (entryFrame m #[(.long t0), (.long t1), (.long t), (.int ai), (.int fi)] maxLocals)) (s₁.setTop (mkF m 38 #[.val (.long t0), .second, .val (.long t1), .second, .val (.long t), .second, .val (.int ai), .val (.int fi), .val (.long ((t &&& (255 : Int64)) + (1 : Int64))), .second, .val (.int ((ai &&& (3 : Int32)) + (1 : Int32))), .unset, .unset, .unset, .unset, .unset, .unset, .unset] [])) := fun tt h => k tt (XS.istore X0.here hx rfl (hb hby at_36) rfl (l' := #[.val (.long t0), .second, .val (.long t1), .second, .val (.long t), .second, .val (.int ai), .val (.int fi), .val (.long ((t &&& (255 : Int64)) + (1 : Int64))), .second, .val (.int ((ai &&& (3 : Int32)) + (1 : Int32))), .unset, .unset, .unset, .unset, .unset, .unset, .unset]) rfl h)
      replace k : own_K p.tables e below (s₁.setTop (entryFrame m #[(.long t0), (.long t1), (.long t), (.int ai), (.int fi)] maxLocals)) (s₁.setTop (mkF m 40 #[.val (.long t0), .second, .val (.long t1), .second, .val (.long t), .second, .val (.int ai), .val (.int fi), .val (.long ((t &&& (255 : Int64)) + (1 : Int64))), .second, .val (.int ((ai &&& (3 : Int32)) + (1 : Int32))), .unset, .unset, .unset, .unset, .unset, .unset, .unset] [(.int fi)])) := fun tt h => k tt (XS.iload X0.here hx rfl (hb hby at_38) rfl h)
      replace k : own_K p.tables e below (s₁.setTop (entryFrame m #[(.long t0), (.long t1), (.long t), (.int ai), (.int fi)] maxLocals)) (s₁.setTop (mkF m 42 #[.val (.long t0), .second, .val (.long t1), .second, .val (.long t), .second, .val (.int ai), .val (.int fi), .val (.long ((t &&& (255 : Int64)) + (1 : Int64))), .second, .val (.int ((ai &&& (3 : Int32)) + (1 : Int32))), .unset, .unset, .unset, .unset, .unset, .unset, .unset] [(.int (8 : Int32)), (.int fi)])) := fun tt h => k tt (XS.bipush X0.here hx rfl (hb hby at_40) h)
      replace k : own_K p.tables e below (s₁.setTop (entryFrame m #[(.long t0), (.long t1), (.long t), (.int ai), (.int fi)] maxLocals)) (s₁.setTop (mkF m 43 #[.val (.long t0), .second, .val (.long t1), .second, .val (.long t), .second, .val (.int ai), .val (.int fi), .val (.long ((t &&& (255 : Int64)) + (1 : Int64))), .second, .val (.int ((ai &&& (3 : Int32)) + (1 : Int32))), .unset, .unset, .unset, .unset, .unset, .unset, .unset] [(.int (fi &&& (8 : Int32)))])) := fun tt h => k tt (XS.iand X0.here hx rfl (hb hby at_42) rfl h)
      by_cases cc5 : (fi &&& (8 : Int32)) = (0 : Int32)
      · replace k : own_K p.tables e below (s₁.setTop (entryFrame m #[(.long t0), (.long t1), (.long t), (.int ai), (.int fi)] maxLocals)) (s₁.setTop (mkF m 56 #[.val (.long t0), .second, .val (.long t1), .second, .val (.long t), .second, .val (.int ai), .val (.int fi), .val (.long ((t &&& (255 : Int64)) + (1 : Int64))), .second, .val (.int ((ai &&& (3 : Int32)) + (1 : Int32))), .unset, .unset, .unset, .unset, .unset, .unset, .unset] [])) := fun tt h => k tt (XS.ifYes X0.here hx rfl (pc0 := 43) (pc' := 56) rfl (hb hby at_43) rfl ((if0 _ _).trans (teq cc5).1) (by decide) (by decide) h)
        replace k : own_K p.tables e below (s₁.setTop (entryFrame m #[(.long t0), (.long t1), (.long t), (.int ai), (.int fi)] maxLocals)) (s₁.setTop (mkF m 57 #[.val (.long t0), .second, .val (.long t1), .second, .val (.long t), .second, .val (.int ai), .val (.int fi), .val (.long ((t &&& (255 : Int64)) + (1 : Int64))), .second, .val (.int ((ai &&& (3 : Int32)) + (1 : Int32))), .unset, .unset, .unset, .unset, .unset, .unset, .unset] [(.long t1)])) := fun tt h => k tt (XS.lloadN X0.here hx rfl (hb hby at_56) rfl h)
        replace k : own_K p.tables e below (s₁.setTop (entryFrame m #[(.long t0), (.long t1), (.long t), (.int ai), (.int fi)] maxLocals)) (s₁.setTop (mkF m 59 #[.val (.long t0), .second, .val (.long t1), .second, .val (.long t), .second, .val (.int ai), .val (.int fi), .val (.long ((t &&& (255 : Int64)) + (1 : Int64))), .second, .val (.int ((ai &&& (3 : Int32)) + (1 : Int32))), .val (.long t1), .second, .unset, .unset, .unset, .unset, .unset] [])) := fun tt h => k tt (XS.lstore X0.here hx rfl (hb hby at_57) rfl (l' := #[.val (.long t0), .second, .val (.long t1), .second, .val (.long t), .second, .val (.int ai), .val (.int fi), .val (.long ((t &&& (255 : Int64)) + (1 : Int64))), .second, .val (.int ((ai &&& (3 : Int32)) + (1 : Int32))), .val (.long t1), .second, .unset, .unset, .unset, .unset, .unset]) rfl h)
        exact tail ⟨s₁, ((t &&& (255 : Int64)) + (1 : Int64)), t1, _, N0, X0, e0, (own_len1 t), k⟩
      · replace k : own_K p.tables e below (s₁.setTop (entryFrame m #[(.long t0), (.long t1), (.long t), (.int ai), (.int fi)] maxLocals)) (s₁.setTop (mkF m 46 #[.val (.long t0), .second, .val (.long t1), .second, .val (.long t), .second, .val (.int ai), .val (.int fi), .val (.long ((t &&& (255 : Int64)) + (1 : Int64))), .second, .val (.int ((ai &&& (3 : Int32)) + (1 : Int32))), .unset, .unset, .unset, .unset, .unset, .unset, .unset] [])) := fun tt h => k tt (XS.ifNo X0.here hx rfl (hb hby at_43) rfl ((if0 _ _).trans (feq cc5).1) h)
        replace k : own_K p.tables e below (s₁.setTop (entryFrame m #[(.long t0), (.long t1), (.long t), (.int ai), (.int fi)] maxLocals)) (s₁.setTop (mkF m 47 #[.val (.long t0), .second, .val (.long t1), .second, .val (.long t), .second, .val (.int ai), .val (.int fi), .val (.long ((t &&& (255 : Int64)) + (1 : Int64))), .second, .val (.int ((ai &&& (3 : Int32)) + (1 : Int32))), .unset, .unset, .unset, .unset, .unset, .unset, .unset] [(.long t0)])) := fun tt h => k tt (XS.lloadN X0.here hx rfl (hb hby at_46) rfl h)
        replace k : own_K p.tables e below (s₁.setTop (entryFrame m #[(.long t0), (.long t1), (.long t), (.int ai), (.int fi)] maxLocals)) (s₁.setTop (mkF m 48 #[.val (.long t0), .second, .val (.long t1), .second, .val (.long t), .second, .val (.int ai), .val (.int fi), .val (.long ((t &&& (255 : Int64)) + (1 : Int64))), .second, .val (.int ((ai &&& (3 : Int32)) + (1 : Int32))), .unset, .unset, .unset, .unset, .unset, .unset, .unset] [(.long t1), (.long t0)])) := fun tt h => k tt (XS.lloadN X0.here hx rfl (hb hby at_47) rfl h)
        replace k : own_K p.tables e below (s₁.setTop (entryFrame m #[(.long t0), (.long t1), (.long t), (.int ai), (.int fi)] maxLocals)) (s₁.setTop (mkF m 51 #[.val (.long t0), .second, .val (.long t1), .second, .val (.long t), .second, .val (.int ai), .val (.int fi), .val (.long ((t &&& (255 : Int64)) + (1 : Int64))), .second, .val (.int ((ai &&& (3 : Int32)) + (1 : Int32))), .unset, .unset, .unset, .unset, .unset, .unset, .unset] [(.long (512 : Int64)), (.long t1), (.long t0)])) := fun tt h => k tt (X0.ldc2Long hx hown (mvT hZ (hw _ (List.mem_of_getElem? (i := 87) rfl))) (g := (mkF m 48 #[.val (.long t0), .second, .val (.long t1), .second, .val (.long t), .second, .val (.int ai), .val (.int fi), .val (.long ((t &&& (255 : Int64)) + (1 : Int64))), .second, .val (.int ((ai &&& (3 : Int32)) + (1 : Int32))), .unset, .unset, .unset, .unset, .unset, .unset, .unset] [(.long t1), (.long t0)])) rfl (hb hby at_48) _ h)
        replace k : own_K p.tables e below (s₁.setTop (entryFrame m #[(.long t0), (.long t1), (.long t), (.int ai), (.int fi)] maxLocals)) (s₁.setTop (mkF m 52 #[.val (.long t0), .second, .val (.long t1), .second, .val (.long t), .second, .val (.int ai), .val (.int fi), .val (.long ((t &&& (255 : Int64)) + (1 : Int64))), .second, .val (.int ((ai &&& (3 : Int32)) + (1 : Int32))), .unset, .unset, .unset, .unset, .unset, .unset, .unset] [(.long (t1 % (512 : Int64))), (.long t0)])) := fun tt h => k tt (own_lremM X0 hx rfl (hb hby at_51) rfl (by decide) h)
        replace k : own_K p.tables e below (s₁.setTop (entryFrame m #[(.long t0), (.long t1), (.long t), (.int ai), (.int fi)] maxLocals)) (s₁.setTop (mkF m 53 #[.val (.long t0), .second, .val (.long t1), .second, .val (.long t), .second, .val (.int ai), .val (.int fi), .val (.long ((t &&& (255 : Int64)) + (1 : Int64))), .second, .val (.int ((ai &&& (3 : Int32)) + (1 : Int32))), .unset, .unset, .unset, .unset, .unset, .unset, .unset] [(.long (t0 + (t1 % (512 : Int64))))])) := fun tt h => k tt (XS.ladd X0.here hx rfl (hb hby at_52) rfl h)
        replace k : own_K p.tables e below (s₁.setTop (entryFrame m #[(.long t0), (.long t1), (.long t), (.int ai), (.int fi)] maxLocals)) (s₁.setTop (mkF m 57 #[.val (.long t0), .second, .val (.long t1), .second, .val (.long t), .second, .val (.int ai), .val (.int fi), .val (.long ((t &&& (255 : Int64)) + (1 : Int64))), .second, .val (.int ((ai &&& (3 : Int32)) + (1 : Int32))), .unset, .unset, .unset, .unset, .unset, .unset, .unset] [(.long (t0 + (t1 % (512 : Int64))))])) := fun tt h => k tt (XS.goto X0.here hx rfl (pc0 := 53) (pc' := 57) rfl (hb hby at_53) (by decide) (by decide) h)
        replace k : own_K p.tables e below (s₁.setTop (entryFrame m #[(.long t0), (.long t1), (.long t), (.int ai), (.int fi)] maxLocals)) (s₁.setTop (mkF m 59 #[.val (.long t0), .second, .val (.long t1), .second, .val (.long t), .second, .val (.int ai), .val (.int fi), .val (.long ((t &&& (255 : Int64)) + (1 : Int64))), .second, .val (.int ((ai &&& (3 : Int32)) + (1 : Int32))), .val (.long (t0 + (t1 % (512 : Int64)))), .second, .unset, .unset, .unset, .unset, .unset] [])) := fun tt h => k tt (XS.lstore X0.here hx rfl (hb hby at_57) rfl (l' := #[.val (.long t0), .second, .val (.long t1), .second, .val (.long t), .second, .val (.int ai), .val (.int fi), .val (.long ((t &&& (255 : Int64)) + (1 : Int64))), .second, .val (.int ((ai &&& (3 : Int32)) + (1 : Int32))), .val (.long (t0 + (t1 % (512 : Int64)))), .second, .unset, .unset, .unset, .unset, .unset]) rfl h)
        exact tail ⟨s₁, ((t &&& (255 : Int64)) + (1 : Int64)), (t0 + (t1 % (512 : Int64))), _, N0, X0, e0, (own_len1 t), k⟩
  · rintro ⟨TJ, len, now, LJ, NJ, XJ, eJ, hlen, k⟩
    have hy : len ≠ 0 := own_nz hlen
    obtain ⟨mx, hmx⟩ : ∃ z, z = ((ai &&& (3 : Int32)) + (1 : Int32)) := ⟨_, rfl⟩
    rw [← hmx] at k
    have hmx1 : (0 : Int32) < mx := by rw [hmx]; exact own_mx ai
    replace k : own_K p.tables e below (s₁.setTop (entryFrame m #[(.long t0), (.long t1), (.long t), (.int ai), (.int fi)] maxLocals)) (TJ.setTop (mkF m 61 #[.val (.long t0), .second, .val (.long t1), .second, .val (.long t), .second, .val (.int ai), .val (.int fi), .val (.long len), .second, .val (.int mx), .val (.long now), .second, .unset, .unset, .unset, .unset, .unset] [(.int fi)])) := fun tt h => k tt (XS.iload XJ.here hx rfl (hb hby at_59) rfl h)
    replace k : own_K p.tables e below (s₁.setTop (entryFrame m #[(.long t0), (.long t1), (.long t), (.int ai), (.int fi)] maxLocals)) (TJ.setTop (mkF m 62 #[.val (.long t0), .second, .val (.long t1), .second, .val (.long t), .second, .val (.int ai), .val (.int fi), .val (.long len), .second, .val (.int mx), .val (.long now), .second, .unset, .unset, .unset, .unset, .unset] [(.int (1 : Int32)), (.int fi)])) := fun tt h => k tt (XS.iconst XJ.here hx rfl (hb hby at_61) h)
    replace k : own_K p.tables e below (s₁.setTop (entryFrame m #[(.long t0), (.long t1), (.long t), (.int ai), (.int fi)] maxLocals)) (TJ.setTop (mkF m 63 #[.val (.long t0), .second, .val (.long t1), .second, .val (.long t), .second, .val (.int ai), .val (.int fi), .val (.long len), .second, .val (.int mx), .val (.long now), .second, .unset, .unset, .unset, .unset, .unset] [(.int ((fi.toUInt32 >>> ((1 : Int32) &&& 31).toUInt32).toInt32))])) := fun tt h => k tt (XS.iushr XJ.here hx rfl (hb hby at_62) rfl h)
    replace k : own_K p.tables e below (s₁.setTop (entryFrame m #[(.long t0), (.long t1), (.long t), (.int ai), (.int fi)] maxLocals)) (TJ.setTop (mkF m 64 #[.val (.long t0), .second, .val (.long t1), .second, .val (.long t), .second, .val (.int ai), .val (.int fi), .val (.long len), .second, .val (.int mx), .val (.long now), .second, .unset, .unset, .unset, .unset, .unset] [(.int (3 : Int32)), (.int ((fi.toUInt32 >>> ((1 : Int32) &&& 31).toUInt32).toInt32))])) := fun tt h => k tt (XS.iconst XJ.here hx rfl (hb hby at_63) h)
    replace k : own_K p.tables e below (s₁.setTop (entryFrame m #[(.long t0), (.long t1), (.long t), (.int ai), (.int fi)] maxLocals)) (TJ.setTop (mkF m 65 #[.val (.long t0), .second, .val (.long t1), .second, .val (.long t), .second, .val (.int ai), .val (.int fi), .val (.long len), .second, .val (.int mx), .val (.long now), .second, .unset, .unset, .unset, .unset, .unset] [(.int (((fi.toUInt32 >>> ((1 : Int32) &&& 31).toUInt32).toInt32) &&& (3 : Int32)))])) := fun tt h => k tt (XS.iand XJ.here hx rfl (hb hby at_64) rfl h)
    obtain ⟨mode, hmode⟩ : ∃ z, z = (((fi.toUInt32 >>> ((1 : Int32) &&& 31).toUInt32).toInt32) &&& (3 : Int32)) := ⟨_, rfl⟩
    rw [← hmode] at k
    replace k : own_K p.tables e below (s₁.setTop (entryFrame m #[(.long t0), (.long t1), (.long t), (.int ai), (.int fi)] maxLocals)) (TJ.setTop (mkF m 67 #[.val (.long t0), .second, .val (.long t1), .second, .val (.long t), .second, .val (.int ai), .val (.int fi), .val (.long len), .second, .val (.int mx), .val (.long now), .second, .val (.int mode), .unset, .unset, .unset, .unset] [])) := fun tt h => k tt (XS.istore XJ.here hx rfl (hb hby at_65) rfl (l' := #[.val (.long t0), .second, .val (.long t1), .second, .val (.long t), .second, .val (.int ai), .val (.int fi), .val (.long len), .second, .val (.int mx), .val (.long now), .second, .val (.int mode), .unset, .unset, .unset, .unset]) rfl h)
    obtain ⟨T6, h6, X6, e6, E6, A6, D6, -, st6⟩ := newO XJ hx hZ hown (hw _ (List.mem_of_getElem? (i := 1) rfl)) (hw _ (List.mem_of_getElem? (i := 2) rfl)) (hw _ (List.mem_of_getElem? (i := 3) rfl)) eJ (g := (mkF m 67 #[.val (.long t0), .second, .val (.long t1), .second, .val (.long t), .second, .val (.int ai), .val (.int fi), .val (.long len), .second, .val (.int mx), .val (.long now), .second, .val (.int mode), .unset, .unset, .unset, .unset] [])) rfl (hb hby at_67) (by decide) (by decide)
    obtain ⟨b6, g6⟩ : ∃ z, z = h0.size := ⟨_, rfl⟩
    rw [← g6] at A6 D6 st6
    have ge_b6 : n0 ≤ b6 := Nat.le_trans Z0 (Nat.le_of_eq g6.symm)
    have Z6 : n0 ≤ h6.size := Nat.le_trans Z0 E6.1
    replace k : own_K p.tables e below (s₁.setTop (entryFrame m #[(.long t0), (.long t1), (.long t), (.int ai), (.int fi)] maxLocals)) (T6.setTop (mkF m 70 #[.val (.long t0), .second, .val (.long t1), .second, .val (.long t), .second, .val (.int ai), .val (.int fi), .val (.long len), .second, .val (.int mx), .val (.long now), .second, .val (.int mode), .unset, .unset, .unset, .unset] [(.ref b6)])) := fun tt h => k tt (st6 _ h)
    replace hk0 := Nat.le_trans hk0 E6.1
    have G_maxRequests : Fld Z h6 b6 "com/example/intrvl/intrvl/limit/RateLimiterConfig" "maxRequests" "I" (.int (0 : Int32)) := D6 (Or.inr (hw _ (List.mem_of_getElem? (i := 40) rfl))) (ty := .int) (by decide)
    have G_timeWindowMillis : Fld Z h6 b6 "com/example/intrvl/intrvl/limit/RateLimiterConfig" "timeWindowMillis" "J" (.long (0 : Int64)) := D6 (Or.inr (hw _ (List.mem_of_getElem? (i := 42) rfl))) (ty := .long) (by decide)
    have G_type : Fld Z h6 b6 "com/example/intrvl/intrvl/limit/RateLimiterConfig" "type" "Lcom/example/intrvl/intrvl/limit/RateLimiterType;" .null := D6 (Or.inr (hw _ (List.mem_of_getElem? (i := 44) rfl))) (ty := (.object "com/example/intrvl/intrvl/limit/RateLimiterType")) (by decide)
    have G_burst : Fld Z h6 b6 "com/example/intrvl/intrvl/limit/RateLimiterConfig" "burst" "I" (.int (0 : Int32)) := D6 (Or.inr (hw _ (List.mem_of_getElem? (i := 46) rfl))) (ty := .int) (by decide)
    replace S1 := S1.ext E6
    replace k : own_K p.tables e below (s₁.setTop (entryFrame m #[(.long t0), (.long t1), (.long t), (.int ai), (.int fi)] maxLocals)) (T6.setTop (mkF m 71 #[.val (.long t0), .second, .val (.long t1), .second, .val (.long t), .second, .val (.int ai), .val (.int fi), .val (.long len), .second, .val (.int mx), .val (.long now), .second, .val (.int mode), .unset, .unset, .unset, .unset] [(.ref b6), (.ref b6)])) := fun tt h => k tt (XS.dup X6.here hx rfl (hb hby at_70) rfl rfl h)
    replace k : own_K p.tables e below (s₁.setTop (entryFrame m #[(.long t0), (.long t1), (.long t), (.int ai), (.int fi)] maxLocals)) (T6.setTop (mkF m 73 #[.val (.long t0), .second, .val (.long t1), .second, .val (.long t), .second, .val (.int ai), .val (.int fi), .val (.long len), .second, .val (.int mx), .val (.long now), .second, .val (.int mode), .unset, .unset, .unset, .unset] [(.int mx), (.ref b6), (.ref b6)])) := fun tt h => k tt (XS.iload X6.here hx rfl (hb hby at_71) rfl h)
    replace k : own_K p.tables e below (s₁.setTop (entryFrame m #[(.long t0), (.long t1), (.long t), (.int ai), (.int fi)] maxLocals)) (T6.setTop (mkF m 75 #[.val (.long t0), .second, .val (.long t1), .second, .val (.long t), .second, .val (.int ai), .val (.int fi), .val (.long len), .second, .val (.int mx), .val (.long now), .second, .val (.int mode), .unset, .unset, .unset, .unset] [(.long len), (.int mx), (.ref b6), (.ref b6)])) := fun tt h => k tt (XS.lload X6.here hx rfl (hb hby at_73) rfl h)
    obtain ⟨T7, X7, e7, st7⟩ := getS2 X6 hx hZ hown (host := "") (Or.inl (hw _ (List.mem_of_getElem? (i := 4) rfl))) Via.refl e6 S1 (g := (mkF m 75 #[.val (.long t0), .second, .val (.long t1), .second, .val (.long t), .second, .val (.int ai), .val (.int fi), .val (.long len), .second, .val (.int mx), .val (.long now), .second, .val (.int mode), .unset, .unset, .unset, .unset] [(.long len), (.int mx), (.ref b6), (.ref b6)])) rfl (hb hby at_75)
    replace k : own_K p.tables e below (s₁.setTop (entryFrame m #[(.long t0), (.long t1), (.long t), (.int ai), (.int fi)] maxLocals)) (T7.setTop (mkF m 78 #[.val (.long t0), .second, .val (.long t1), .second, .val (.long t), .second, .val (.int ai), .val (.int fi), .val (.long len), .second, .val (.int mx), .val (.long now), .second, .val (.int mode), .unset, .unset, .unset, .unset] [(.ref ty), (.long len), (.int mx), (.ref b6), (.ref b6)])) := fun tt h => k tt (st7 _ h)
    obtain ⟨_, _, ⟨T8, L8, kk8, n8⟩, -, X8, S8, gr8, ⟨Lc8, hQ8, l8, y8, z8⟩, st8⟩ := X7.specialBackS hx (y := (⟨"com/example/intrvl/intrvl/limit/RateLimiterConfig", "<init>", "(IJLcom/example/intrvl/intrvl/limit/RateLimiterType;)V"⟩ : MethodName)) rfl hown (mvT hZ (hw _ (List.mem_of_getElem? (i := 7) rfl))) (mvT hZ (hw _ (List.mem_of_getElem? (i := 8) rfl))) (mvT hZ (hw _ (List.mem_of_getElem? (i := 9) rfl))) (by decide) (backOfS (W := 1) (rm5 l Z a0 hw [] b6 mx len ty (.int (0 : Int32)) (.long (0 : Int64)) .null (.int (0 : Int32)) h6 n0 A6 ge_b6 hmx1 hlen G_maxRequests G_timeWindowMillis G_type G_burst) hZ (hw _ (List.mem_of_getElem? (i := 9) rfl)) (hw _ (List.mem_of_getElem? (i := 3) rfl)) (by decide) (by decide)) (g := (mkF m 78 #[.val (.long t0), .second, .val (.long t1), .second, .val (.long t), .second, .val (.int ai), .val (.int fi), .val (.long len), .second, .val (.int mx), .val (.long now), .second, .val (.int mode), .unset, .unset, .unset, .unset] [(.ref ty), (.long len), (.int mx), (.ref b6), (.ref b6)])) rfl (by rw [hml]; rfl) (Steps.refl _) (a := b6) (argsL := [(.int mx), (.long len), (.ref ty)]) (rest := [(.ref b6)]) (lenOf own_pd7 rfl) rfl (by show 2 * 0 + _ ≤ _; exact Nat.le_of_eq rfl) (hb hby at_78) (fun _ _ => ⟨rfl, e7, (by decide : 1 + 8 ≤ _), (by decide : 4 + 160 ≤ _)⟩)
    dsimp only [Pt.U, Pt.locs, Pt.cells, Pt.slots] at X8 l8 y8 z8 st8 hQ8 S8 gr8
    rw [l8, y8, z8] at X8
    obtain ⟨rfl, N8q, KC, EC, FM, FT⟩ := hQ8
    have N8 := Fr.app NJ N8q
    obtain ⟨X8, hS8, hZ8, hown8⟩ := rebS hS0 hk0 X8 S8 (by rw [← e7]; exact gr8) hZ hown
    have hk8 : T8.heap.size ≤ T8.heap.size := Nat.le_refl _
    replace k : own_K p.tables e below (s₁.setTop (entryFrame m #[(.long t0), (.long t1), (.long t), (.int ai), (.int fi)] maxLocals)) (T8.setTop (mkF m 81 #[.val (.long t0), .second, .val (.long t1), .second, .val (.long t), .second, .val (.int ai), .val (.int fi), .val (.long len), .second, .val (.int mx), .val (.long now), .second, .val (.int mode), .unset, .unset, .unset, .unset] [(.ref b6)])) := fun tt h => k tt (st8.trans h)
    have ZC : n0 ≤ T8.heap.size := Nat.le_trans Z6 KC.1
    replace k : own_K p.tables e below (s₁.setTop (entryFrame m #[(.long t0), (.long t1), (.long t), (.int ai), (.int fi)] maxLocals)) (T8.setTop (mkF m 83 #[.val (.long t0), .second, .val (.long t1), .second, .val (.long t), .second, .val (.int ai), .val (.int fi), .val (.long len), .second, .val (.int mx), .val (.long now), .second, .val (.int mode), .val (.ref b6), .unset, .unset, .unset] [])) := fun tt h => k tt (XS.astore X8.here hx rfl (hb hby at_81) rfl rfl (l' := #[.val (.long t0), .second, .val (.long t1), .second, .val (.long t), .second, .val (.int ai), .val (.int fi), .val (.long len), .second, .val (.int mx), .val (.long now), .second, .val (.int mode), .val (.ref b6), .unset, .unset, .unset]) rfl h)
    obtain ⟨T9, h9, X9, e9, E9, A9, D9, -, st9⟩ := newO X8 hx hZ8 hown8 (hw _ (List.mem_of_getElem? (i := 47) rfl)) (hw _ (List.mem_of_getElem? (i := 48) rfl)) (hw _ (List.mem_of_getElem? (i := 49) rfl)) rfl (g := (mkF m 83 #[.val (.long t0), .second, .val (.long t1), .second, .val (.long t), .second, .val (.int ai), .val (.int fi), .val (.long len), .second, .val (.int mx), .val (.long now), .second, .val (.int mode), .val (.ref b6), .unset, .unset, .unset] [])) rfl (hb hby at_83) (by decide) (by decide)
    obtain ⟨b9, g9⟩ : ∃ z, z = T8.heap.size := ⟨_, rfl⟩
    rw [← g9] at A9 D9 st9
    have ge_b9 : n0 ≤ b9 := Nat.le_trans ZC (Nat.le_of_eq g9.symm)
    have Z9 : n0 ≤ h9.size := Nat.le_trans ZC E9.1
    replace k : own_K p.tables e below (s₁.setTop (entryFrame m #[(.long t0), (.long t1), (.long t), (.int ai), (.int fi)] maxLocals)) (T9.setTop (mkF m 86 #[.val (.long t0), .second, .val (.long t1), .second, .val (.long t), .second, .val (.int ai), .val (.int fi), .val (.long len), .second, .val (.int mx), .val (.long now), .second, .val (.int mode), .val (.ref b6), .unset, .unset, .unset] [(.ref b9)])) := fun tt h => k tt (st9 _ h)
    replace hk8 := Nat.le_trans hk8 E9.1
    have F_window : Fld Z h9 b9 "com/example/intrvl/intrvl/fixedwindow/FixedWindow" "window" "J" (.long (0 : Int64)) := D9 (Or.inl (hw _ (List.mem_of_getElem? (i := 56) rfl))) (ty := .long) (by decide)
    have F_admitted : Fld Z h9 b9 "com/example/intrvl/intrvl/fixedwindow/FixedWindow" "admitted" "I" (.int (0 : Int32)) := D9 (Or.inl (hw _ (List.mem_of_getElem? (i := 72) rfl))) (ty := .int) (by decide)
    replace EC := EC.ext E9
    replace FM := FM.ext E9
    replace FT := FT.ext E9
    have E1 := A9
    replace k : own_K p.tables e below (s₁.setTop (entryFrame m #[(.long t0), (.long t1), (.long t), (.int ai), (.int fi)] maxLocals)) (T9.setTop (mkF m 87 #[.val (.long t0), .second, .val (.long t1), .second, .val (.long t), .second, .val (.int ai), .val (.int fi), .val (.long len), .second, .val (.int mx), .val (.long now), .second, .val (.int mode), .val (.ref b6), .unset, .unset, .unset] [(.ref b9), (.ref b9)])) := fun tt h => k tt (XS.dup X9.here hx rfl (hb hby at_86) rfl rfl h)
    have ne1 : b6 ≠ b9 := Exa.ne EC E1 (by decide)
    obtain ⟨_, _, ⟨T10, L10, kk10, n10⟩, -, X10, ⟨Lc10, hQ10, l10, y10, z10⟩, st10⟩ := X9.specialBack hx (y := (⟨"com/example/intrvl/intrvl/fixedwindow/FixedWindow", "<init>", "()V"⟩ : MethodName)) rfl hown8 (mvT hZ8 (hw _ (List.mem_of_getElem? (i := 50) rfl))) (mvT hZ8 (hw _ (List.mem_of_getElem? (i := 51) rfl))) (mvT hZ8 (hw _ (List.mem_of_getElem? (i := 52) rfl))) (by decide) (backOf (W := 1) (rm11 l Z a0 hw [] b9 (.long (0 : Int64)) (0 : Int32) h9 n0 E1 ge_b9 F_window F_admitted) hZ8 (hw _ (List.mem_of_getElem? (i := 52) rfl)) (hw _ (List.mem_of_getElem? (i := 49) rfl)) (by decide) (by decide)) (g := (mkF m 87 #[.val (.long t0), .second, .val (.long t1), .second, .val (.long t), .second, .val (.int ai), .val (.int fi), .val (.long len), .second, .val (.int mx), .val (.long now), .second, .val (.int mode), .val (.ref b6), .unset, .unset, .unset] [(.ref b9), (.ref b9)])) rfl (by rw [hml]; rfl) (Steps.refl _) (a := b9) (argsL := []) (rest := [(.ref b9)]) (lenOf own_pd0 rfl) rfl (by show 2 * 0 + _ ≤ _; exact Nat.le_of_eq rfl) (hb hby at_87) (fun _ _ => ⟨rfl, e9, (by decide : 10 + 0 ≤ _), (by decide : 166 + 0 ≤ _)⟩)
    dsimp only [Pt.U, Pt.locs, Pt.cells, Pt.slots] at X10 l10 y10 z10 st10 hQ10
    rw [l10, y10, z10] at X10
    obtain ⟨rfl, N10q, KW, E1, F_window, F_admitted⟩ := hQ10
    have N10 := Fr.app N8 N10q
    replace k : own_K p.tables e below (s₁.setTop (entryFrame m #[(.long t0), (.long t1), (.long t), (.int ai), (.int fi)] maxLocals)) (T10.setTop (mkF m 90 #[.val (.long t0), .second, .val (.long t1), .second, .val (.long t), .second, .val (.int ai), .val (.int fi), .val (.long len), .second, .val (.int mx), .val (.long now), .second, .val (.int mode), .val (.ref b6), .unset, .unset, .unset] [(.ref b9)])) := fun tt h => k tt (st10.trans h)
    replace EC := EC.keep KW
    replace FM := FM.keep KW (ninS ne1 nin0)
    replace FT := FT.keep KW (ninS ne1 nin0)
    replace hk8 := Nat.le_trans hk8 KW.1
    replace k : own_K p.tables e below (s₁.setTop (entryFrame m #[(.long t0), (.long t1), (.long t), (.int ai), (.int fi)] maxLocals)) (T10.setTop (mkF m 92 #[.val (.long t0), .second, .val (.long t1), .second, .val (.long t), .second, .val (.int ai), .val (.int fi), .val (.long len), .second, .val (.int mx), .val (.long now), .second, .val (.int mode), .val (.ref b6), .val (.ref b9), .unset, .unset] [])) := fun tt h => k tt (XS.astore X10.here hx rfl (hb hby at_90) rfl rfl (l' := #[.val (.long t0), .second, .val (.long t1), .second, .val (.long t), .second, .val (.int ai), .val (.int fi), .val (.long len), .second, .val (.int mx), .val (.long now), .second, .val (.int mode), .val (.ref b6), .val (.ref b9), .unset, .unset]) rfl h)
    replace k : own_K p.tables e below (s₁.setTop (entryFrame m #[(.long t0), (.long t1), (.long t), (.int ai), (.int fi)] maxLocals)) (T10.setTop (mkF m 93 #[.val (.long t0), .second, .val (.long t1), .second, .val (.long t), .second, .val (.int ai), .val (.int fi), .val (.long len), .second, .val (.int mx), .val (.long now), .second, .val (.int mode), .val (.ref b6), .val (.ref b9), .unset, .unset] [(.int (0 : Int32))])) := fun tt h => k tt (XS.iconst X10.here hx rfl (hb hby at_92) h)
    replace k : own_K p.tables e below (s₁.setTop (entryFrame m #[(.long t0), (.long t1), (.long t), (.int ai), (.int fi)] maxLocals)) (T10.setTop (mkF m 95 #[.val (.long t0), .second, .val (.long t1), .second, .val (.long t), .second, .val (.int ai), .val (.int fi), .val (.long len), .second, .val (.int mx), .val (.long now), .second, .val (.int mode), .val (.ref b6), .val (.ref b9), .val (.int (0 : Int32)), .unset] [])) := fun tt h => k tt (XS.istore X10.here hx rfl (hb hby at_93) rfl (l' := #[.val (.long t0), .second, .val (.long t1), .second, .val (.long t), .second, .val (.int ai), .val (.int fi), .val (.long len), .second, .val (.int mx), .val (.long now), .second, .val (.int mode), .val (.ref b6), .val (.ref b9), .val (.int (0 : Int32)), .unset]) rfl h)
    refine cps (A := ∃ (vm : Vm) (k0 : Nat) (TK : State) (hhK : Heap) (LL : List Loc) (cc : Int32) (ww : Int64), Stand p l e room_1 (s.setVm vm) m #[(.long t0), (.long t1), (.long t), (.int ai), (.int fi)] below meth cde TK LL 10 166 ∧ TK.heap = hhK ∧ s.Since vm k0 ∧ k0 ≤ hhK.size ∧ Z.Warmed39 (s.setVm vm).vm ∧ (s.setVm vm).vm.findClass "com/example/intrvl/intrvl/fixedwindow/FixedWindowIsEmptyPinLaw" = some m.cls ∧ Fr n0 LL ∧ Exa Z hhK b9 "com/example/intrvl/intrvl/fixedwindow/FixedWindow" ∧ Fld Z hhK b9 "com/example/intrvl/intrvl/fixedwindow/FixedWindow" "window" "J" (.long ww) ∧ Fld Z hhK b9 "com/example/intrvl/intrvl/fixedwindow/FixedWindow" "admitted" "I" (.int cc) ∧ Exa Z hhK b6 "com/example/intrvl/intrvl/limit/RateLimiterConfig" ∧ Fld Z hhK b6 "com/example/intrvl/intrvl/limit/RateLimiterConfig" "maxRequests" "I" (.int mx) ∧ Fld Z hhK b6 "com/example/intrvl/intrvl/limit/RateLimiterConfig" "timeWindowMillis" "J" (.long len) ∧ (cc = (0 : Int32) ∨ ww = own_fd t0 len) ∧ own_K p.tables e below (s₁.setTop (entryFrame m #[(.long t0), (.long t1), (.long t), (.int ai), (.int fi)] maxLocals)) (TK.setTop (mkF m 151 #[.val (.long t0), .second, .val (.long t1), .second, .val (.long t), .second, .val (.int ai), .val (.int fi), .val (.long len), .second, .val (.int mx), .val (.long now), .second, .val (.int mode), .val (.ref b6), .val (.ref b9), .val (.int cc), .unset] []))) (fun tail => ?_) ?_
    · replace k : own_K p.tables e below (s₁.setTop (entryFrame m #[(.long t0), (.long t1), (.long t), (.int ai), (.int fi)] maxLocals)) (T10.setTop (mkF m 97 #[.val (.long t0), .second, .val (.long t1), .second, .val (.long t), .second, .val (.int ai), .val (.int fi), .val (.long len), .second, .val (.int mx), .val (.long now), .second, .val (.int mode), .val (.ref b6), .val (.ref b9), .val (.int (0 : Int32)), .unset] [(.int mode)])) := fun tt h => k tt (XS.iload X10.here hx rfl (hb hby at_95) rfl h)
      replace k : own_K p.tables e below (s₁.setTop (entryFrame m #[(.long t0), (.long t1), (.long t), (.int ai), (.int fi)] maxLocals)) (T10.setTop (mkF m 98 #[.val (.long t0), .second, .val (.long t1), .second, .val (.long t), .second, .val (.int ai), .val (.int fi), .val (.long len), .second, .val (.int mx), .val (.long now), .second, .val (.int mode), .val (.ref b6), .val (.ref b9), .val (.int (0 : Int32)), .unset] [(.int (1 : Int32)), (.int mode)])) := fun tt h => k tt (XS.iconst X10.here hx rfl (hb hby at_97) h)
      by_cases cc11 : mode < (1 : Int32)
      · replace k : own_K p.tables e below (s₁.setTop (entryFrame m #[(.long t0), (.long t1), (.long t), (.int ai), (.int fi)] maxLocals)) (T10.setTop (mkF m 151 #[.val (.long t0), .second, .val (.long t1), .second, .val (.long t), .second, .val (.int ai), .val (.int fi), .val (.long len), .second, .val (.int mx), .val (.long now), .second, .val (.int mode), .val (.ref b6), .val (.ref b9), .val (.int (0 : Int32)), .unset] [])) := fun tt h => k tt (XS.icmpYes X10.here hx rfl (pc0 := 98) (pc' := 151) rfl (hb hby at_98) rfl (tlt cc11).1 (by decide) (by decide) h)
        exact tail ⟨_, _, T10, T10.heap, _, _, _, X10, rfl, hS8, hk8, hZ8, hown8, N10, E1, F_window, F_admitted, EC, FM, FT, (Or.inl rfl), k⟩
      · replace k : own_K p.tables e below (s₁.setTop (entryFrame m #[(.long t0), (.long t1), (.long t), (.int ai), (.int fi)] maxLocals)) (T10.setTop (mkF m 101 #[.val (.long t0), .second, .val (.long t1), .second, .val (.long t), .second, .val (.int ai), .val (.int fi), .val (.long len), .second, .val (.int mx), .val (.long now), .second, .val (.int mode), .val (.ref b6), .val (.ref b9), .val (.int (0 : Int32)), .unset] [])) := fun tt h => k tt (XS.icmpNo X10.here hx rfl (hb hby at_98) rfl (flt cc11).1 h)
        replace k : own_K p.tables e below (s₁.setTop (entryFrame m #[(.long t0), (.long t1), (.long t), (.int ai), (.int fi)] maxLocals)) (T10.setTop (mkF m 103 #[.val (.long t0), .second, .val (.long t1), .second, .val (.long t), .second, .val (.int ai), .val (.int fi), .val (.long len), .second, .val (.int mx), .val (.long now), .second, .val (.int mode), .val (.ref b6), .val (.ref b9), .val (.int (0 : Int32)), .unset] [(.ref b9)])) := fun tt h => k tt (XS.aload X10.here hx rfl (hb hby at_101) rfl rfl h)
        replace k : own_K p.tables e below (s₁.setTop (entryFrame m #[(.long t0), (.long t1), (.long t), (.int ai), (.int fi)] maxLocals)) (T10.setTop (mkF m 104 #[.val (.long t0), .second, .val (.long t1), .second, .val (.long t), .second, .val (.int ai), .val (.int fi), .val (.long len), .second, .val (.int mx), .val (.long now), .second, .val (.int mode), .val (.ref b6), .val (.ref b9), .val (.int (0 : Int32)), .unset] [(.long t0), (.ref b9)])) := fun tt h => k tt (XS.lloadN X10.here hx rfl (hb hby at_103) rfl h)
        replace k : own_K p.tables e below (s₁.setTop (entryFrame m #[(.long t0), (.long t1), (.long t), (.int ai), (.int fi)] maxLocals)) (T10.setTop (mkF m 106 #[.val (.long t0), .second, .val (.long t1), .second, .val (.long t), .second, .val (.int ai), .val (.int fi), .val (.long len), .second, .val (.int mx), .val (.long now), .second, .val (.int mode), .val (.ref b6), .val (.ref b9), .val (.int (0 : Int32)), .unset] [(.ref b6), (.long t0), (.ref b9)])) := fun tt h => k tt (XS.aload X10.here hx rfl (hb hby at_104) rfl rfl h)
        obtain ⟨cq12, kq12, q12a, q12b, q12c⟩ := isOf hZ8 rfl E1
        obtain ⟨_, _, ⟨T12, L12, kk12, n12⟩, -, X12, ⟨Lc12, hQ12, l12, y12, z12⟩, st12⟩ := X10.virtualBack hx (y := (⟨"com/example/intrvl/intrvl/fixedwindow/FixedWindow", "hasRoom", "(JLcom/example/intrvl/intrvl/limit/RateLimiterConfig;)Z"⟩ : MethodName)) (z := (⟨"com/example/intrvl/intrvl/fixedwindow/FixedWindow", "hasRoom", "(JLcom/example/intrvl/intrvl/limit/RateLimiterConfig;)Z"⟩ : MethodName)) hown8 (mvT hZ8 (hw _ (List.mem_of_getElem? (i := 57) rfl))) (mvT hZ8 (hw _ (List.mem_of_getElem? (i := 58) rfl))) (notFace_of_selects (args := #[]) (mvT hZ8 (hw _ (List.mem_of_getElem? (i := 60) rfl)))) (mvT hZ8 (hw _ (List.mem_of_getElem? (i := 60) rfl))) (mvT hZ8 (hw _ (List.mem_of_getElem? (i := 59) rfl))) (by decide) (backOf (W := 0) (rm12 l Z a0 hw [] b9 t0 b6 len mx (-9223372036854775808 : Int64) (0 : Int32) T10.heap n0 E1 F_window F_admitted ge_b9 EC FT FM hy) hZ8 (hw _ (List.mem_of_getElem? (i := 61) rfl)) (hw _ (List.mem_of_getElem? (i := 49) rfl)) (by decide) (by decide)) q12a q12c (g := (mkF m 106 #[.val (.long t0), .second, .val (.long t1), .second, .val (.long t), .second, .val (.int ai), .val (.int fi), .val (.long len), .second, .val (.int mx), .val (.long now), .second, .val (.int mode), .val (.ref b6), .val (.ref b9), .val (.int (0 : Int32)), .unset] [(.ref b6), (.long t0), (.ref b9)])) rfl (by rw [hml]; rfl) (Steps.refl _) (argsL := [(.long t0), (.ref b6)]) (rest := []) (lenOf own_pd8 rfl) rfl (by show 2 * 0 + _ ≤ _; exact Nat.le_of_eq rfl) (hb hby at_106) (fun _ _ => ⟨rfl, rfl, (by decide : 10 + 0 ≤ _), (by decide : 166 + 0 ≤ _)⟩)
        dsimp only [Pt.U, Pt.locs, Pt.cells, Pt.slots] at X12 l12 y12 z12 st12 hQ12
        rw [l12, y12, z12] at X12
        obtain ⟨rfl, N12q, KH, E1, F_window, F_admitted⟩ := hQ12
        have N12 := Fr.app N10 N12q
        replace k : own_K p.tables e below (s₁.setTop (entryFrame m #[(.long t0), (.long t1), (.long t), (.int ai), (.int fi)] maxLocals)) (T12.setTop (mkF m 109 #[.val (.long t0), .second, .val (.long t1), .second, .val (.long t), .second, .val (.int ai), .val (.int fi), .val (.long len), .second, .val (.int mx), .val (.long now), .second, .val (.int mode), .val (.ref b6), .val (.ref b9), .val (.int (0 : Int32)), .unset] [(.int (own_room (-9223372036854775808 : Int64) (own_fd t0 len) (0 : Int32) mx))])) := fun tt h => k tt (st12.trans h)
        replace EC := EC.keep KH
        replace FM := FM.keep KH (ninS ne1 nin0)
        replace FT := FT.keep KH (ninS ne1 nin0)
        replace hk8 := Nat.le_trans hk8 KH.1
        rw [own_win_min] at F_window
        rw [own_adm0] at F_admitted
        replace k : own_K p.tables e below (s₁.setTop (entryFrame m #[(.long t0), (.long t1), (.long t), (.int ai), (.int fi)] maxLocals)) (T12.setTop (mkF m 112 #[.val (.long t0), .second, .val (.long t1), .second, .val (.long t), .second, .val (.int ai), .val (.int fi), .val (.long len), .second, .val (.int mx), .val (.long now), .second, .val (.int mode), .val (.ref b6), .val (.ref b9), .val (.int (0 : Int32)), .unset] [])) := fun tt h => k tt (XS.ifNo X12.here hx rfl (hb hby at_109) rfl ((if0 _ _).trans (feq (by unfold own_room; rw [own_adm0, if_pos hmx1]; decide)).1) h)
        replace k : own_K p.tables e below (s₁.setTop (entryFrame m #[(.long t0), (.long t1), (.long t), (.int ai), (.int fi)] maxLocals)) (T12.setTop (mkF m 114 #[.val (.long t0), .second, .val (.long t1), .second, .val (.long t), .second, .val (.int ai), .val (.int fi), .val (.long len), .second, .val (.int mx), .val (.long now), .second, .val (.int mode), .val (.ref b6), .val (.ref b9), .val (.int (0 : Int32)), .unset] [(.int mode)])) := fun tt h => k tt (XS.iload X12.here hx rfl (hb hby at_112) rfl h)
        replace k : own_K p.tables e below (s₁.setTop (entryFrame m #[(.long t0), (.long t1), (.long t), (.int ai), (.int fi)] maxLocals)) (T12.setTop (mkF m 115 #[.val (.long t0), .second, .val (.long t1), .second, .val (.long t), .second, .val (.int ai), .val (.int fi), .val (.long len), .second, .val (.int mx), .val (.long now), .second, .val (.int mode), .val (.ref b6), .val (.ref b9), .val (.int (0 : Int32)), .unset] [(.int (2 : Int32)), (.int mode)])) := fun tt h => k tt (XS.iconst X12.here hx rfl (hb hby at_114) h)
        by_cases cc13 : mode < (2 : Int32)
        · replace k : own_K p.tables e below (s₁.setTop (entryFrame m #[(.long t0), (.long t1), (.long t), (.int ai), (.int fi)] maxLocals)) (T12.setTop (mkF m 151 #[.val (.long t0), .second, .val (.long t1), .second, .val (.long t), .second, .val (.int ai), .val (.int fi), .val (.long len), .second, .val (.int mx), .val (.long now), .second, .val (.int mode), .val (.ref b6), .val (.ref b9), .val (.int (0 : Int32)), .unset] [])) := fun tt h => k tt (XS.icmpYes X12.here hx rfl (pc0 := 115) (pc' := 151) rfl (hb hby at_115) rfl (tlt cc13).1 (by decide) (by decide) h)
          exact tail ⟨_, _, T12, T12.heap, _, _, _, X12, rfl, hS8, hk8, hZ8, hown8, N12, E1, F_window, F_admitted, EC, FM, FT, (Or.inl rfl), k⟩
        · replace k : own_K p.tables e below (s₁.setTop (entryFrame m #[(.long t0), (.long t1), (.long t), (.int ai), (.int fi)] maxLocals)) (T12.setTop (mkF m 118 #[.val (.long t0), .second, .val (.long t1), .second, .val (.long t), .second, .val (.int ai), .val (.int fi), .val (.long len), .second, .val (.int mx), .val (.long now), .second, .val (.int mode), .val (.ref b6), .val (.ref b9), .val (.int (0 : Int32)), .unset] [])) := fun tt h => k tt (XS.icmpNo X12.here hx rfl (hb hby at_115) rfl (flt cc13).1 h)
          replace k : own_K p.tables e below (s₁.setTop (entryFrame m #[(.long t0), (.long t1), (.long t), (.int ai), (.int fi)] maxLocals)) (T12.setTop (mkF m 120 #[.val (.long t0), .second, .val (.long t1), .second, .val (.long t), .second, .val (.int ai), .val (.int fi), .val (.long len), .second, .val (.int mx), .val (.long now), .second, .val (.int mode), .val (.ref b6), .val (.ref b9), .val (.int (0 : Int32)), .unset] [(.ref b9)])) := fun tt h => k tt (XS.aload X12.here hx rfl (hb hby at_118) rfl rfl h)
          obtain ⟨cq14, kq14, q14a, q14b, q14c⟩ := isOf hZ8 rfl E1
          obtain ⟨_, _, ⟨T14, L14, kk14, n14⟩, -, X14, ⟨Lc14, hQ14, l14, y14, z14⟩, st14⟩ := X12.virtualBack hx (y := (⟨"com/example/intrvl/intrvl/fixedwindow/FixedWindow", "count", "()V"⟩ : MethodName)) (z := (⟨"com/example/intrvl/intrvl/fixedwindow/FixedWindow", "count", "()V"⟩ : MethodName)) hown8 (mvT hZ8 (hw _ (List.mem_of_getElem? (i := 88) rfl))) (mvT hZ8 (hw _ (List.mem_of_getElem? (i := 89) rfl))) (notFace_of_selects (args := #[]) (mvT hZ8 (hw _ (List.mem_of_getElem? (i := 91) rfl)))) (mvT hZ8 (hw _ (List.mem_of_getElem? (i := 91) rfl))) (mvT hZ8 (hw _ (List.mem_of_getElem? (i := 90) rfl))) (by decide) (backOf (W := 0) (rm14 l Z a0 hw [] b9 (own_fd t0 len) (0 : Int32) T12.heap n0 E1 F_window F_admitted ge_b9) hZ8 (hw _ (List.mem_of_getElem? (i := 92) rfl)) (hw _ (List.mem_of_getElem? (i := 49) rfl)) (by decide) (by decide)) q14a q14c (g := (mkF m 120 #[.val (.long t0), .second, .val (.long t1), .second, .val (.long t), .second, .val (.int ai), .val (.int fi), .val (.long len), .second, .val (.int mx), .val (.long now), .second, .val (.int mode), .val (.ref b6), .val (.ref b9), .val (.int (0 : Int32)), .unset] [(.ref b9)])) rfl (by rw [hml]; rfl) (Steps.refl _) (argsL := []) (rest := []) (lenOf own_pd0 rfl) rfl (by show 2 * 0 + _ ≤ _; exact Nat.le_of_eq rfl) (hb hby at_120) (fun _ _ => ⟨rfl, rfl, (by decide : 10 + 0 ≤ _), (by decide : 166 + 0 ≤ _)⟩)
          dsimp only [Pt.U, Pt.locs, Pt.cells, Pt.slots] at X14 l14 y14 z14 st14 hQ14
          rw [l14, y14, z14] at X14
          obtain ⟨rfl, N14q, KH, E1, F_window, F_admitted⟩ := hQ14
          have N14 := Fr.app N12 N14q
          replace k : own_K p.tables e below (s₁.setTop (entryFrame m #[(.long t0), (.long t1), (.long t), (.int ai), (.int fi)] maxLocals)) (T14.setTop (mkF m 123 #[.val (.long t0), .second, .val (.long t1), .second, .val (.long t), .second, .val (.int ai), .val (.int fi), .val (.long len), .second, .val (.int mx), .val (.long now), .second, .val (.int mode), .val (.ref b6), .val (.ref b9), .val (.int (0 : Int32)), .unset] [])) := fun tt h => k tt (st14.trans h)
          replace EC := EC.keep KH
          replace FM := FM.keep KH (ninS ne1 nin0)
          replace FT := FT.keep KH (ninS ne1 nin0)
          replace hk8 := Nat.le_trans hk8 KH.1
          replace F_admitted : Fld Z T14.heap b9 "com/example/intrvl/intrvl/fixedwindow/FixedWindow" "admitted" "I" (.int (1 : Int32)) := F_admitted
          replace k : own_K p.tables e below (s₁.setTop (entryFrame m #[(.long t0), (.long t1), (.long t), (.int ai), (.int fi)] maxLocals)) (T14.setTop (mkF m 124 #[.val (.long t0), .second, .val (.long t1), .second, .val (.long t), .second, .val (.int ai), .val (.int fi), .val (.long len), .second, .val (.int mx), .val (.long now), .second, .val (.int mode), .val (.ref b6), .val (.ref b9), .val (.int (0 : Int32)), .unset] [(.int (1 : Int32))])) := fun tt h => k tt (XS.iconst X14.here hx rfl (hb hby at_123) h)
          replace k : own_K p.tables e below (s₁.setTop (entryFrame m #[(.long t0), (.long t1), (.long t), (.int ai), (.int fi)] maxLocals)) (T14.setTop (mkF m 126 #[.val (.long t0), .second, .val (.long t1), .second, .val (.long t), .second, .val (.int ai), .val (.int fi), .val (.long len), .second, .val (.int mx), .val (.long now), .second, .val (.int mode), .val (.ref b6), .val (.ref b9), .val (.int (1 : Int32)), .unset] [])) := fun tt h => k tt (XS.istore X14.here hx rfl (hb hby at_124) rfl (l' := #[.val (.long t0), .second, .val (.long t1), .second, .val (.long t), .second, .val (.int ai), .val (.int fi), .val (.long len), .second, .val (.int mx), .val (.long now), .second, .val (.int mode), .val (.ref b6), .val (.ref b9), .val (.int (1 : Int32)), .unset]) rfl h)
          replace k : own_K p.tables e below (s₁.setTop (entryFrame m #[(.long t0), (.long t1), (.long t), (.int ai), (.int fi)] maxLocals)) (T14.setTop (mkF m 128 #[.val (.long t0), .second, .val (.long t1), .second, .val (.long t), .second, .val (.int ai), .val (.int fi), .val (.long len), .second, .val (.int mx), .val (.long now), .second, .val (.int mode), .val (.ref b6), .val (.ref b9), .val (.int (1 : Int32)), .unset] [(.int mode)])) := fun tt h => k tt (XS.iload X14.here hx rfl (hb hby at_126) rfl h)
          replace k : own_K p.tables e below (s₁.setTop (entryFrame m #[(.long t0), (.long t1), (.long t), (.int ai), (.int fi)] maxLocals)) (T14.setTop (mkF m 129 #[.val (.long t0), .second, .val (.long t1), .second, .val (.long t), .second, .val (.int ai), .val (.int fi), .val (.long len), .second, .val (.int mx), .val (.long now), .second, .val (.int mode), .val (.ref b6), .val (.ref b9), .val (.int (1 : Int32)), .unset] [(.int (3 : Int32)), (.int mode)])) := fun tt h => k tt (XS.iconst X14.here hx rfl (hb hby at_128) h)
          by_cases cc15 : mode = (3 : Int32)
          · replace k : own_K p.tables e below (s₁.setTop (entryFrame m #[(.long t0), (.long t1), (.long t), (.int ai), (.int fi)] maxLocals)) (T14.setTop (mkF m 132 #[.val (.long t0), .second, .val (.long t1), .second, .val (.long t), .second, .val (.int ai), .val (.int fi), .val (.long len), .second, .val (.int mx), .val (.long now), .second, .val (.int mode), .val (.ref b6), .val (.ref b9), .val (.int (1 : Int32)), .unset] [])) := fun tt h => k tt (XS.icmpNo X14.here hx rfl (hb hby at_129) rfl (teq cc15).2 h)
            replace k : own_K p.tables e below (s₁.setTop (entryFrame m #[(.long t0), (.long t1), (.long t), (.int ai), (.int fi)] maxLocals)) (T14.setTop (mkF m 134 #[.val (.long t0), .second, .val (.long t1), .second, .val (.long t), .second, .val (.int ai), .val (.int fi), .val (.long len), .second, .val (.int mx), .val (.long now), .second, .val (.int mode), .val (.ref b6), .val (.ref b9), .val (.int (1 : Int32)), .unset] [(.ref b9)])) := fun tt h => k tt (XS.aload X14.here hx rfl (hb hby at_132) rfl rfl h)
            replace k : own_K p.tables e below (s₁.setTop (entryFrame m #[(.long t0), (.long t1), (.long t), (.int ai), (.int fi)] maxLocals)) (T14.setTop (mkF m 135 #[.val (.long t0), .second, .val (.long t1), .second, .val (.long t), .second, .val (.int ai), .val (.int fi), .val (.long len), .second, .val (.int mx), .val (.long now), .second, .val (.int mode), .val (.ref b6), .val (.ref b9), .val (.int (1 : Int32)), .unset] [(.long t0), (.ref b9)])) := fun tt h => k tt (XS.lloadN X14.here hx rfl (hb hby at_134) rfl h)
            replace k : own_K p.tables e below (s₁.setTop (entryFrame m #[(.long t0), (.long t1), (.long t), (.int ai), (.int fi)] maxLocals)) (T14.setTop (mkF m 137 #[.val (.long t0), .second, .val (.long t1), .second, .val (.long t), .second, .val (.int ai), .val (.int fi), .val (.long len), .second, .val (.int mx), .val (.long now), .second, .val (.int mode), .val (.ref b6), .val (.ref b9), .val (.int (1 : Int32)), .unset] [(.ref b6), (.long t0), (.ref b9)])) := fun tt h => k tt (XS.aload X14.here hx rfl (hb hby at_135) rfl rfl h)
            obtain ⟨cq16, kq16, q16a, q16b, q16c⟩ := isOf hZ8 rfl E1
            obtain ⟨_, _, ⟨T16, L16, kk16, n16⟩, -, X16, ⟨Lc16, hQ16, l16, y16, z16⟩, st16⟩ := X14.virtualBack hx (y := (⟨"com/example/intrvl/intrvl/fixedwindow/FixedWindow", "hasRoom", "(JLcom/example/intrvl/intrvl/limit/RateLimiterConfig;)Z"⟩ : MethodName)) (z := (⟨"com/example/intrvl/intrvl/fixedwindow/FixedWindow", "hasRoom", "(JLcom/example/intrvl/intrvl/limit/RateLimiterConfig;)Z"⟩ : MethodName)) hown8 (mvT hZ8 (hw _ (List.mem_of_getElem? (i := 57) rfl))) (mvT hZ8 (hw _ (List.mem_of_getElem? (i := 58) rfl))) (notFace_of_selects (args := #[]) (mvT hZ8 (hw _ (List.mem_of_getElem? (i := 60) rfl)))) (mvT hZ8 (hw _ (List.mem_of_getElem? (i := 60) rfl))) (mvT hZ8 (hw _ (List.mem_of_getElem? (i := 59) rfl))) (by decide) (backOf (W := 0) (rm12 l Z a0 hw [] b9 t0 b6 len mx (own_fd t0 len) (1 : Int32) T14.heap n0 E1 F_window F_admitted ge_b9 EC FT FM hy) hZ8 (hw _ (List.mem_of_getElem? (i := 61) rfl)) (hw _ (List.mem_of_getElem? (i := 49) rfl)) (by decide) (by decide)) q16a q16c (g := (mkF m 137 #[.val (.long t0), .second, .val (.long t1), .second, .val (.long t), .second, .val (.int ai), .val (.int fi), .val (.long len), .second, .val (.int mx), .val (.long now), .second, .val (.int mode), .val (.ref b6), .val (.ref b9), .val (.int (1 : Int32)), .unset] [(.ref b6), (.long t0), (.ref b9)])) rfl (by rw [hml]; rfl) (Steps.refl _) (argsL := [(.long t0), (.ref b6)]) (rest := []) (lenOf own_pd8 rfl) rfl (by show 2 * 0 + _ ≤ _; exact Nat.le_of_eq rfl) (hb hby at_137) (fun _ _ => ⟨rfl, rfl, (by decide : 10 + 0 ≤ _), (by decide : 166 + 0 ≤ _)⟩)
            dsimp only [Pt.U, Pt.locs, Pt.cells, Pt.slots] at X16 l16 y16 z16 st16 hQ16
            rw [l16, y16, z16] at X16
            obtain ⟨rfl, N16q, KH, E1, F_window, F_admitted⟩ := hQ16
            have N16 := Fr.app N14 N16q
            replace k : own_K p.tables e below (s₁.setTop (entryFrame m #[(.long t0), (.long t1), (.long t), (.int ai), (.int fi)] maxLocals)) (T16.setTop (mkF m 140 #[.val (.long t0), .second, .val (.long t1), .second, .val (.long t), .second, .val (.int ai), .val (.int fi), .val (.long len), .second, .val (.int mx), .val (.long now), .second, .val (.int mode), .val (.ref b6), .val (.ref b9), .val (.int (1 : Int32)), .unset] [(.int (own_room (own_fd t0 len) (own_fd t0 len) (1 : Int32) mx))])) := fun tt h => k tt (st16.trans h)
            replace EC := EC.keep KH
            replace FM := FM.keep KH (ninS ne1 nin0)
            replace FT := FT.keep KH (ninS ne1 nin0)
            replace hk8 := Nat.le_trans hk8 KH.1
            rw [own_win_self] at F_window
            rw [own_adm1] at F_admitted
            by_cases cc17 : (own_room (own_fd t0 len) (own_fd t0 len) (1 : Int32) mx) = (0 : Int32)
            · replace k : own_K p.tables e below (s₁.setTop (entryFrame m #[(.long t0), (.long t1), (.long t), (.int ai), (.int fi)] maxLocals)) (T16.setTop (mkF m 151 #[.val (.long t0), .second, .val (.long t1), .second, .val (.long t), .second, .val (.int ai), .val (.int fi), .val (.long len), .second, .val (.int mx), .val (.long now), .second, .val (.int mode), .val (.ref b6), .val (.ref b9), .val (.int (1 : Int32)), .unset] [])) := fun tt h => k tt (XS.ifYes X16.here hx rfl (pc0 := 140) (pc' := 151) rfl (hb hby at_140) rfl ((if0 _ _).trans (teq cc17).1) (by decide) (by decide) h)
              exact tail ⟨_, _, T16, T16.heap, _, _, _, X16, rfl, hS8, hk8, hZ8, hown8, N16, E1, F_window, F_admitted, EC, FM, FT, (Or.inr rfl), k⟩
            · replace k : own_K p.tables e below (s₁.setTop (entryFrame m #[(.long t0), (.long t1), (.long t), (.int ai), (.int fi)] maxLocals)) (T16.setTop (mkF m 143 #[.val (.long t0), .second, .val (.long t1), .second, .val (.long t), .second, .val (.int ai), .val (.int fi), .val (.long len), .second, .val (.int mx), .val (.long now), .second, .val (.int mode), .val (.ref b6), .val (.ref b9), .val (.int (1 : Int32)), .unset] [])) := fun tt h => k tt (XS.ifNo X16.here hx rfl (hb hby at_140) rfl ((if0 _ _).trans (feq cc17).1) h)
              replace k : own_K p.tables e below (s₁.setTop (entryFrame m #[(.long t0), (.long t1), (.long t), (.int ai), (.int fi)] maxLocals)) (T16.setTop (mkF m 145 #[.val (.long t0), .second, .val (.long t1), .second, .val (.long t), .second, .val (.int ai), .val (.int fi), .val (.long len), .second, .val (.int mx), .val (.long now), .second, .val (.int mode), .val (.ref b6), .val (.ref b9), .val (.int (1 : Int32)), .unset] [(.ref b9)])) := fun tt h => k tt (XS.aload X16.here hx rfl (hb hby at_143) rfl rfl h)
              obtain ⟨cq18, kq18, q18a, q18b, q18c⟩ := isOf hZ8 rfl E1
              obtain ⟨_, _, ⟨T18, L18, kk18, n18⟩, -, X18, ⟨Lc18, hQ18, l18, y18, z18⟩, st18⟩ := X16.virtualBack hx (y := (⟨"com/example/intrvl/intrvl/fixedwindow/FixedWindow", "count", "()V"⟩ : MethodName)) (z := (⟨"com/example/intrvl/intrvl/fixedwindow/FixedWindow", "count", "()V"⟩ : MethodName)) hown8 (mvT hZ8 (hw _ (List.mem_of_getElem? (i := 88) rfl))) (mvT hZ8 (hw _ (List.mem_of_getElem? (i := 89) rfl))) (notFace_of_selects (args := #[]) (mvT hZ8 (hw _ (List.mem_of_getElem? (i := 91) rfl)))) (mvT hZ8 (hw _ (List.mem_of_getElem? (i := 91) rfl))) (mvT hZ8 (hw _ (List.mem_of_getElem? (i := 90) rfl))) (by decide) (backOf (W := 0) (rm14 l Z a0 hw [] b9 (own_fd t0 len) (1 : Int32) T16.heap n0 E1 F_window F_admitted ge_b9) hZ8 (hw _ (List.mem_of_getElem? (i := 92) rfl)) (hw _ (List.mem_of_getElem? (i := 49) rfl)) (by decide) (by decide)) q18a q18c (g := (mkF m 145 #[.val (.long t0), .second, .val (.long t1), .second, .val (.long t), .second, .val (.int ai), .val (.int fi), .val (.long len), .second, .val (.int mx), .val (.long now), .second, .val (.int mode), .val (.ref b6), .val (.ref b9), .val (.int (1 : Int32)), .unset] [(.ref b9)])) rfl (by rw [hml]; rfl) (Steps.refl _) (argsL := []) (rest := []) (lenOf own_pd0 rfl) rfl (by show 2 * 0 + _ ≤ _; exact Nat.le_of_eq rfl) (hb hby at_145) (fun _ _ => ⟨rfl, rfl, (by decide : 10 + 0 ≤ _), (by decide : 166 + 0 ≤ _)⟩)
              dsimp only [Pt.U, Pt.locs, Pt.cells, Pt.slots] at X18 l18 y18 z18 st18 hQ18
              rw [l18, y18, z18] at X18
              obtain ⟨rfl, N18q, KH, E1, F_window, F_admitted⟩ := hQ18
              have N18 := Fr.app N16 N18q
              replace k : own_K p.tables e below (s₁.setTop (entryFrame m #[(.long t0), (.long t1), (.long t), (.int ai), (.int fi)] maxLocals)) (T18.setTop (mkF m 148 #[.val (.long t0), .second, .val (.long t1), .second, .val (.long t), .second, .val (.int ai), .val (.int fi), .val (.long len), .second, .val (.int mx), .val (.long now), .second, .val (.int mode), .val (.ref b6), .val (.ref b9), .val (.int (1 : Int32)), .unset] [])) := fun tt h => k tt (st18.trans h)
              replace EC := EC.keep KH
              replace FM := FM.keep KH (ninS ne1 nin0)
              replace FT := FT.keep KH (ninS ne1 nin0)
              replace hk8 := Nat.le_trans hk8 KH.1
              replace F_admitted : Fld Z T18.heap b9 "com/example/intrvl/intrvl/fixedwindow/FixedWindow" "admitted" "I" (.int (2 : Int32)) := F_admitted
              replace k : own_K p.tables e below (s₁.setTop (entryFrame m #[(.long t0), (.long t1), (.long t), (.int ai), (.int fi)] maxLocals)) (T18.setTop (mkF m 149 #[.val (.long t0), .second, .val (.long t1), .second, .val (.long t), .second, .val (.int ai), .val (.int fi), .val (.long len), .second, .val (.int mx), .val (.long now), .second, .val (.int mode), .val (.ref b6), .val (.ref b9), .val (.int (1 : Int32)), .unset] [(.int (2 : Int32))])) := fun tt h => k tt (XS.iconst X18.here hx rfl (hb hby at_148) h)
              replace k : own_K p.tables e below (s₁.setTop (entryFrame m #[(.long t0), (.long t1), (.long t), (.int ai), (.int fi)] maxLocals)) (T18.setTop (mkF m 151 #[.val (.long t0), .second, .val (.long t1), .second, .val (.long t), .second, .val (.int ai), .val (.int fi), .val (.long len), .second, .val (.int mx), .val (.long now), .second, .val (.int mode), .val (.ref b6), .val (.ref b9), .val (.int (2 : Int32)), .unset] [])) := fun tt h => k tt (XS.istore X18.here hx rfl (hb hby at_149) rfl (l' := #[.val (.long t0), .second, .val (.long t1), .second, .val (.long t), .second, .val (.int ai), .val (.int fi), .val (.long len), .second, .val (.int mx), .val (.long now), .second, .val (.int mode), .val (.ref b6), .val (.ref b9), .val (.int (2 : Int32)), .unset]) rfl h)
              exact tail ⟨_, _, T18, T18.heap, _, _, _, X18, rfl, hS8, hk8, hZ8, hown8, N18, E1, F_window, F_admitted, EC, FM, FT, (Or.inr rfl), k⟩
          · replace k : own_K p.tables e below (s₁.setTop (entryFrame m #[(.long t0), (.long t1), (.long t), (.int ai), (.int fi)] maxLocals)) (T14.setTop (mkF m 151 #[.val (.long t0), .second, .val (.long t1), .second, .val (.long t), .second, .val (.int ai), .val (.int fi), .val (.long len), .second, .val (.int mx), .val (.long now), .second, .val (.int mode), .val (.ref b6), .val (.ref b9), .val (.int (1 : Int32)), .unset] [])) := fun tt h => k tt (XS.icmpYes X14.here hx rfl (pc0 := 129) (pc' := 151) rfl (hb hby at_129) rfl (feq cc15).2 (by decide) (by decide) h)
            exact tail ⟨_, _, T14, T14.heap, _, _, _, X14, rfl, hS8, hk8, hZ8, hown8, N14, E1, F_window, F_admitted, EC, FM, FT, (Or.inr rfl), k⟩
    · rintro ⟨vmK, k0K, TK, hhK, LL, cc, ww, XK, eK, hSK, hkK, hZK, hownK, NK, E1, F_window, F_admitted, EC, FM, FT, hcw, k⟩
      replace k : own_K p.tables e below (s₁.setTop (entryFrame m #[(.long t0), (.long t1), (.long t), (.int ai), (.int fi)] maxLocals)) (TK.setTop (mkF m 153 #[.val (.long t0), .second, .val (.long t1), .second, .val (.long t), .second, .val (.int ai), .val (.int fi), .val (.long len), .second, .val (.int mx), .val (.long now), .second, .val (.int mode), .val (.ref b6), .val (.ref b9), .val (.int cc), .unset] [(.int cc)])) := fun tt h => k tt (XS.iload XK.here hx rfl (hb hby at_151) rfl h)
      by_cases cc19 : cc = (0 : Int32)
      · replace k : own_K p.tables e below (s₁.setTop (entryFrame m #[(.long t0), (.long t1), (.long t), (.int ai), (.int fi)] maxLocals)) (TK.setTop (mkF m 173 #[.val (.long t0), .second, .val (.long t1), .second, .val (.long t), .second, .val (.int ai), .val (.int fi), .val (.long len), .second, .val (.int mx), .val (.long now), .second, .val (.int mode), .val (.ref b6), .val (.ref b9), .val (.int cc), .unset] [])) := fun tt h => k tt (XS.ifYes XK.here hx rfl (pc0 := 153) (pc' := 173) rfl (hb hby at_153) rfl ((if0 _ _).trans (teq cc19).1) (by decide) (by decide) h)
        replace k : own_K p.tables e below (s₁.setTop (entryFrame m #[(.long t0), (.long t1), (.long t), (.int ai), (.int fi)] maxLocals)) (TK.setTop (mkF m 174 #[.val (.long t0), .second, .val (.long t1), .second, .val (.long t), .second, .val (.int ai), .val (.int fi), .val (.long len), .second, .val (.int mx), .val (.long now), .second, .val (.int mode), .val (.ref b6), .val (.ref b9), .val (.int cc), .unset] [(.int (1 : Int32))])) := fun tt h => k tt (XS.iconst XK.here hx rfl (hb hby at_173) h)
        replace k : own_K p.tables e below (s₁.setTop (entryFrame m #[(.long t0), (.long t1), (.long t), (.int ai), (.int fi)] maxLocals)) (TK.setTop (mkF m 178 #[.val (.long t0), .second, .val (.long t1), .second, .val (.long t), .second, .val (.int ai), .val (.int fi), .val (.long len), .second, .val (.int mx), .val (.long now), .second, .val (.int mode), .val (.ref b6), .val (.ref b9), .val (.int cc), .unset] [(.int (1 : Int32))])) := fun tt h => k tt (XS.goto XK.here hx rfl (pc0 := 174) (pc' := 178) rfl (hb hby at_174) (by decide) (by decide) h)
        replace k : own_K p.tables e below (s₁.setTop (entryFrame m #[(.long t0), (.long t1), (.long t), (.int ai), (.int fi)] maxLocals)) (TK.setTop (mkF m 180 #[.val (.long t0), .second, .val (.long t1), .second, .val (.long t), .second, .val (.int ai), .val (.int fi), .val (.long len), .second, .val (.int mx), .val (.long now), .second, .val (.int mode), .val (.ref b6), .val (.ref b9), .val (.int cc), .val (.int (1 : Int32))] [])) := fun tt h => k tt (XS.istore XK.here hx rfl (hb hby at_178) rfl (l' := #[.val (.long t0), .second, .val (.long t1), .second, .val (.long t), .second, .val (.int ai), .val (.int fi), .val (.long len), .second, .val (.int mx), .val (.long now), .second, .val (.int mode), .val (.ref b6), .val (.ref b9), .val (.int cc), .val (.int (1 : Int32))]) rfl h)
        replace k : own_K p.tables e below (s₁.setTop (entryFrame m #[(.long t0), (.long t1), (.long t), (.int ai), (.int fi)] maxLocals)) (TK.setTop (mkF m 182 #[.val (.long t0), .second, .val (.long t1), .second, .val (.long t), .second, .val (.int ai), .val (.int fi), .val (.long len), .second, .val (.int mx), .val (.long now), .second, .val (.int mode), .val (.ref b6), .val (.ref b9), .val (.int cc), .val (.int (1 : Int32))] [(.ref b9)])) := fun tt h => k tt (XS.aload XK.here hx rfl (hb hby at_180) rfl rfl h)
        replace k : own_K p.tables e below (s₁.setTop (entryFrame m #[(.long t0), (.long t1), (.long t), (.int ai), (.int fi)] maxLocals)) (TK.setTop (mkF m 184 #[.val (.long t0), .second, .val (.long t1), .second, .val (.long t), .second, .val (.int ai), .val (.int fi), .val (.long len), .second, .val (.int mx), .val (.long now), .second, .val (.int mode), .val (.ref b6), .val (.ref b9), .val (.int cc), .val (.int (1 : Int32))] [(.long now), (.ref b9)])) := fun tt h => k tt (XS.lload XK.here hx rfl (hb hby at_182) rfl h)
        replace k : own_K p.tables e below (s₁.setTop (entryFrame m #[(.long t0), (.long t1), (.long t), (.int ai), (.int fi)] maxLocals)) (TK.setTop (mkF m 186 #[.val (.long t0), .second, .val (.long t1), .second, .val (.long t), .second, .val (.int ai), .val (.int fi), .val (.long len), .second, .val (.int mx), .val (.long now), .second, .val (.int mode), .val (.ref b6), .val (.ref b9), .val (.int cc), .val (.int (1 : Int32))] [(.ref b6), (.long now), (.ref b9)])) := fun tt h => k tt (XS.aload XK.here hx rfl (hb hby at_184) rfl rfl h)
        obtain ⟨cq21, kq21, q21a, q21b, q21c⟩ := isOf hZK eK E1
        obtain ⟨_, _, ⟨T21, L21, kk21, n21⟩, -, X21, ⟨Lc21, hQ21, l21, y21, z21⟩, st21⟩ := XK.virtualBack hx (y := (⟨"com/example/intrvl/intrvl/fixedwindow/FixedWindow", "isEmpty", "(JLcom/example/intrvl/intrvl/limit/RateLimiterConfig;)Z"⟩ : MethodName)) (z := (⟨"com/example/intrvl/intrvl/fixedwindow/FixedWindow", "isEmpty", "(JLcom/example/intrvl/intrvl/limit/RateLimiterConfig;)Z"⟩ : MethodName)) hownK (mvT hZK (hw _ (List.mem_of_getElem? (i := 78) rfl))) (mvT hZK (hw _ (List.mem_of_getElem? (i := 79) rfl))) (notFace_of_selects (args := #[]) (mvT hZK (hw _ (List.mem_of_getElem? (i := 81) rfl)))) (mvT hZK (hw _ (List.mem_of_getElem? (i := 81) rfl))) (mvT hZK (hw _ (List.mem_of_getElem? (i := 80) rfl))) (by decide) (backOf (W := 0) (rm13 l Z a0 hw [] b9 now b6 len mx ww cc hhK n0 E1 F_window F_admitted EC FT FM hy) hZK (hw _ (List.mem_of_getElem? (i := 82) rfl)) (hw _ (List.mem_of_getElem? (i := 49) rfl)) (by decide) (by decide)) q21a q21c (g := (mkF m 186 #[.val (.long t0), .second, .val (.long t1), .second, .val (.long t), .second, .val (.int ai), .val (.int fi), .val (.long len), .second, .val (.int mx), .val (.long now), .second, .val (.int mode), .val (.ref b6), .val (.ref b9), .val (.int cc), .val (.int (1 : Int32))] [(.ref b6), (.long now), (.ref b9)])) rfl (by rw [hml]; rfl) (Steps.refl _) (argsL := [(.long now), (.ref b6)]) (rest := []) (lenOf own_pd8 rfl) rfl (by show 2 * 0 + _ ≤ _; exact Nat.le_of_eq rfl) (hb hby at_186) (fun _ _ => ⟨rfl, eK, (by decide : 10 + 0 ≤ _), (by decide : 166 + 0 ≤ _)⟩)
        dsimp only [Pt.U, Pt.locs, Pt.cells, Pt.slots] at X21 l21 y21 z21 st21 hQ21
        rw [l21, y21, z21] at X21
        obtain ⟨rfl, N21q, eq20⟩ := hQ21
        have N21 := Fr.app NK N21q
        replace k : own_K p.tables e below (s₁.setTop (entryFrame m #[(.long t0), (.long t1), (.long t), (.int ai), (.int fi)] maxLocals)) (T21.setTop (mkF m 189 #[.val (.long t0), .second, .val (.long t1), .second, .val (.long t), .second, .val (.int ai), .val (.int fi), .val (.long len), .second, .val (.int mx), .val (.long now), .second, .val (.int mode), .val (.ref b6), .val (.ref b9), .val (.int cc), .val (.int (1 : Int32))] [(.int (own_emp cc ww (own_fd now len)))])) := fun tt h => k tt (st21.trans h)
        replace k : own_K p.tables e below (s₁.setTop (entryFrame m #[(.long t0), (.long t1), (.long t), (.int ai), (.int fi)] maxLocals)) (T21.setTop (mkF m 191 #[.val (.long t0), .second, .val (.long t1), .second, .val (.long t), .second, .val (.int ai), .val (.int fi), .val (.long len), .second, .val (.int mx), .val (.long now), .second, .val (.int mode), .val (.ref b6), .val (.ref b9), .val (.int cc), .val (.int (1 : Int32))] [(.int (1 : Int32)), (.int (own_emp cc ww (own_fd now len)))])) := fun tt h => k tt (XS.iload X21.here hx rfl (hb hby at_189) rfl h)
        replace k : own_K p.tables e below (s₁.setTop (entryFrame m #[(.long t0), (.long t1), (.long t), (.int ai), (.int fi)] maxLocals)) (T21.setTop (mkF m 194 #[.val (.long t0), .second, .val (.long t1), .second, .val (.long t), .second, .val (.int ai), .val (.int fi), .val (.long len), .second, .val (.int mx), .val (.long now), .second, .val (.int mode), .val (.ref b6), .val (.ref b9), .val (.int cc), .val (.int (1 : Int32))] [])) := fun tt h => k tt (XS.icmpNo X21.here hx rfl (hb hby at_191) rfl (teq (by simp [own_emp, cc19])).2 h)
        replace k : own_K p.tables e below (s₁.setTop (entryFrame m #[(.long t0), (.long t1), (.long t), (.int ai), (.int fi)] maxLocals)) (T21.setTop (mkF m 195 #[.val (.long t0), .second, .val (.long t1), .second, .val (.long t), .second, .val (.int ai), .val (.int fi), .val (.long len), .second, .val (.int mx), .val (.long now), .second, .val (.int mode), .val (.ref b6), .val (.ref b9), .val (.int cc), .val (.int (1 : Int32))] [(.int (1 : Int32))])) := fun tt h => k tt (XS.iconst X21.here hx rfl (hb hby at_194) h)
        replace k : own_K p.tables e below (s₁.setTop (entryFrame m #[(.long t0), (.long t1), (.long t), (.int ai), (.int fi)] maxLocals)) (T21.setTop (mkF m 199 #[.val (.long t0), .second, .val (.long t1), .second, .val (.long t), .second, .val (.int ai), .val (.int fi), .val (.long len), .second, .val (.int mx), .val (.long now), .second, .val (.int mode), .val (.ref b6), .val (.ref b9), .val (.int cc), .val (.int (1 : Int32))] [(.int (1 : Int32))])) := fun tt h => k tt (XS.goto X21.here hx rfl (pc0 := 195) (pc' := 199) rfl (hb hby at_195) (by decide) (by decide) h)
        obtain ⟨fs, hr, hrun, hended, hEnd⟩ := X21.leaveW hSK (by rw [eq20]; exact hkK) (v := some (.int (1 : Int32))) (fun h => by rw [Bd.returns] at h; cases h) Bd.notSynchronized
        refine ⟨_, _, k _ (retOut X21 hx Bd.returns rfl (Or.inl ⟨rfl, by simp [ret], _, rfl⟩) (hb hby at_199) hr), hrun, hended, _, _, rfl, ?_, hEnd.1, hEnd.2.1, hEnd.2.2.1, hEnd.2.2.2.mono (by decide) (by decide)⟩
        show Q0 Z t0 t1 t ai fi ty h0 n0 _ T21.heap _
        rw [eq20]
        exact ⟨rfl, N21⟩
      · replace k : own_K p.tables e below (s₁.setTop (entryFrame m #[(.long t0), (.long t1), (.long t), (.int ai), (.int fi)] maxLocals)) (TK.setTop (mkF m 156 #[.val (.long t0), .second, .val (.long t1), .second, .val (.long t), .second, .val (.int ai), .val (.int fi), .val (.long len), .second, .val (.int mx), .val (.long now), .second, .val (.int mode), .val (.ref b6), .val (.ref b9), .val (.int cc), .unset] [])) := fun tt h => k tt (XS.ifNo XK.here hx rfl (hb hby at_153) rfl ((if0 _ _).trans (feq cc19).1) h)
        replace k : own_K p.tables e below (s₁.setTop (entryFrame m #[(.long t0), (.long t1), (.long t), (.int ai), (.int fi)] maxLocals)) (TK.setTop (mkF m 158 #[.val (.long t0), .second, .val (.long t1), .second, .val (.long t), .second, .val (.int ai), .val (.int fi), .val (.long len), .second, .val (.int mx), .val (.long now), .second, .val (.int mode), .val (.ref b6), .val (.ref b9), .val (.int cc), .unset] [(.long now)])) := fun tt h => k tt (XS.lload XK.here hx rfl (hb hby at_156) rfl h)
        replace k : own_K p.tables e below (s₁.setTop (entryFrame m #[(.long t0), (.long t1), (.long t), (.int ai), (.int fi)] maxLocals)) (TK.setTop (mkF m 160 #[.val (.long t0), .second, .val (.long t1), .second, .val (.long t), .second, .val (.int ai), .val (.int fi), .val (.long len), .second, .val (.int mx), .val (.long now), .second, .val (.int mode), .val (.ref b6), .val (.ref b9), .val (.int cc), .unset] [(.long len), (.long now)])) := fun tt h => k tt (XS.lload XK.here hx rfl (hb hby at_158) rfl h)
        obtain ⟨_, _, ⟨T23, L23, kk23, n23⟩, -, X23, ⟨Lc23, hQ23, l23, y23, z23⟩, st23⟩ := Jvm.LawKit.callS XK hx (y := (⟨"com/example/intrvl/intrvl/fixedwindow/FixedWindowIsEmptyPinLaw", "floorWin", "(JJ)J"⟩ : MethodName)) hownK (mvT hZK (hw _ (List.mem_of_getElem? (i := 93) rfl))) (mvT hZK (hw _ (List.mem_of_getElem? (i := 94) rfl))) (mvT hZK (hw _ (List.mem_of_getElem? (i := 95) rfl))) (mvT hZK (hw _ (List.mem_of_getElem? (i := 96) rfl))) (by decide) (backOf (W := 0) (rm10 l Z a0 hw [] now len hhK n0 hy) hZK (hw _ (List.mem_of_getElem? (i := 96) rfl)) (hw _ (List.mem_of_getElem? (i := 95) rfl)) (by decide) (by decide)) (g := (mkF m 160 #[.val (.long t0), .second, .val (.long t1), .second, .val (.long t), .second, .val (.int ai), .val (.int fi), .val (.long len), .second, .val (.int mx), .val (.long now), .second, .val (.int mode), .val (.ref b6), .val (.ref b9), .val (.int cc), .unset] [(.long len), (.long now)])) rfl (by rw [hml]; rfl) (argsL := [(.long now), (.long len)]) (rest := []) (lenOf own_pd5 rfl) rfl (by show 2 * 0 + _ ≤ _; exact Nat.le_of_eq rfl) (hb hby at_160) (fun _ _ => ⟨rfl, eK, (by decide : 10 + 0 ≤ _), (by decide : 166 + 0 ≤ _)⟩)
        dsimp only [Pt.U, Pt.locs, Pt.cells, Pt.slots] at X23 l23 y23 z23 st23 hQ23
        rw [l23, y23, z23] at X23
        obtain ⟨rfl, N23q, eq22⟩ := hQ23
        have N23 := Fr.app NK N23q
        replace k : own_K p.tables e below (s₁.setTop (entryFrame m #[(.long t0), (.long t1), (.long t), (.int ai), (.int fi)] maxLocals)) (T23.setTop (mkF m 163 #[.val (.long t0), .second, .val (.long t1), .second, .val (.long t), .second, .val (.int ai), .val (.int fi), .val (.long len), .second, .val (.int mx), .val (.long now), .second, .val (.int mode), .val (.ref b6), .val (.ref b9), .val (.int cc), .unset] [(.long (own_fw now len))])) := fun tt h => k tt (st23 _ h)
        replace k : own_K p.tables e below (s₁.setTop (entryFrame m #[(.long t0), (.long t1), (.long t), (.int ai), (.int fi)] maxLocals)) (T23.setTop (mkF m 164 #[.val (.long t0), .second, .val (.long t1), .second, .val (.long t), .second, .val (.int ai), .val (.int fi), .val (.long len), .second, .val (.int mx), .val (.long now), .second, .val (.int mode), .val (.ref b6), .val (.ref b9), .val (.int cc), .unset] [(.long t0), (.long (own_fw now len))])) := fun tt h => k tt (XS.lloadN X23.here hx rfl (hb hby at_163) rfl h)
        replace k : own_K p.tables e below (s₁.setTop (entryFrame m #[(.long t0), (.long t1), (.long t), (.int ai), (.int fi)] maxLocals)) (T23.setTop (mkF m 166 #[.val (.long t0), .second, .val (.long t1), .second, .val (.long t), .second, .val (.int ai), .val (.int fi), .val (.long len), .second, .val (.int mx), .val (.long now), .second, .val (.int mode), .val (.ref b6), .val (.ref b9), .val (.int cc), .unset] [(.long len), (.long t0), (.long (own_fw now len))])) := fun tt h => k tt (XS.lload X23.here hx rfl (hb hby at_164) rfl h)
        obtain ⟨_, _, ⟨T25, L25, kk25, n25⟩, -, X25, ⟨Lc25, hQ25, l25, y25, z25⟩, st25⟩ := Jvm.LawKit.callS X23 hx (y := (⟨"com/example/intrvl/intrvl/fixedwindow/FixedWindowIsEmptyPinLaw", "floorWin", "(JJ)J"⟩ : MethodName)) hownK (mvT hZK (hw _ (List.mem_of_getElem? (i := 93) rfl))) (mvT hZK (hw _ (List.mem_of_getElem? (i := 94) rfl))) (mvT hZK (hw _ (List.mem_of_getElem? (i := 95) rfl))) (mvT hZK (hw _ (List.mem_of_getElem? (i := 96) rfl))) (by decide) (backOf (W := 2) (rm10 l Z a0 hw [] t0 len hhK n0 hy) hZK (hw _ (List.mem_of_getElem? (i := 96) rfl)) (hw _ (List.mem_of_getElem? (i := 95) rfl)) (by decide) (by decide)) (g := (mkF m 166 #[.val (.long t0), .second, .val (.long t1), .second, .val (.long t), .second, .val (.int ai), .val (.int fi), .val (.long len), .second, .val (.int mx), .val (.long now), .second, .val (.int mode), .val (.ref b6), .val (.ref b9), .val (.int cc), .unset] [(.long len), (.long t0), (.long (own_fw now len))])) rfl (by rw [hml]; rfl) (argsL := [(.long t0), (.long len)]) (rest := [(.long (own_fw now len))]) (lenOf own_pd5 rfl) rfl (by show 2 * 0 + _ ≤ _; exact Nat.le_of_eq rfl) (hb hby at_166) (fun _ _ => ⟨rfl, eq22, (by decide : 10 + 0 ≤ _), (by decide : 166 + 0 ≤ _)⟩)
        dsimp only [Pt.U, Pt.locs, Pt.cells, Pt.slots] at X25 l25 y25 z25 st25 hQ25
        rw [l25, y25, z25] at X25
        obtain ⟨rfl, N25q, eq24⟩ := hQ25
        have N25 := Fr.app N23 N25q
        replace k : own_K p.tables e below (s₁.setTop (entryFrame m #[(.long t0), (.long t1), (.long t), (.int ai), (.int fi)] maxLocals)) (T25.setTop (mkF m 169 #[.val (.long t0), .second, .val (.long t1), .second, .val (.long t), .second, .val (.int ai), .val (.int fi), .val (.long len), .second, .val (.int mx), .val (.long now), .second, .val (.int mode), .val (.ref b6), .val (.ref b9), .val (.int cc), .unset] [(.long (own_fw t0 len)), (.long (own_fw now len))])) := fun tt h => k tt (st25 _ h)
        replace k : own_K p.tables e below (s₁.setTop (entryFrame m #[(.long t0), (.long t1), (.long t), (.int ai), (.int fi)] maxLocals)) (T25.setTop (mkF m 170 #[.val (.long t0), .second, .val (.long t1), .second, .val (.long t), .second, .val (.int ai), .val (.int fi), .val (.long len), .second, .val (.int mx), .val (.long now), .second, .val (.int mode), .val (.ref b6), .val (.ref b9), .val (.int cc), .unset] [(.int (lcmpW (own_fw now len) (own_fw t0 len)))])) := fun tt h => k tt (XS.lcmp X25.here hx rfl (hb hby at_169) rfl h)
        by_cases cc26 : (own_fw t0 len) < (own_fw now len)
        · replace k : own_K p.tables e below (s₁.setTop (entryFrame m #[(.long t0), (.long t1), (.long t), (.int ai), (.int fi)] maxLocals)) (T25.setTop (mkF m 173 #[.val (.long t0), .second, .val (.long t1), .second, .val (.long t), .second, .val (.int ai), .val (.int fi), .val (.long len), .second, .val (.int mx), .val (.long now), .second, .val (.int mode), .val (.ref b6), .val (.ref b9), .val (.int cc), .unset] [])) := fun tt h => k tt (XS.ifNo X25.here hx rfl (hb hby at_170) rfl ((if0 _ _).trans (tlt ((lw_gt _ _).mpr cc26)).2.2.2) h)
          replace k : own_K p.tables e below (s₁.setTop (entryFrame m #[(.long t0), (.long t1), (.long t), (.int ai), (.int fi)] maxLocals)) (T25.setTop (mkF m 174 #[.val (.long t0), .second, .val (.long t1), .second, .val (.long t), .second, .val (.int ai), .val (.int fi), .val (.long len), .second, .val (.int mx), .val (.long now), .second, .val (.int mode), .val (.ref b6), .val (.ref b9), .val (.int cc), .unset] [(.int (1 : Int32))])) := fun tt h => k tt (XS.iconst X25.here hx rfl (hb hby at_173) h)
          replace k : own_K p.tables e below (s₁.setTop (entryFrame m #[(.long t0), (.long t1), (.long t), (.int ai), (.int fi)] maxLocals)) (T25.setTop (mkF m 178 #[.val (.long t0), .second, .val (.long t1), .second, .val (.long t), .second, .val (.int ai), .val (.int fi), .val (.long len), .second, .val (.int mx), .val (.long now), .second, .val (.int mode), .val (.ref b6), .val (.ref b9), .val (.int cc), .unset] [(.int (1 : Int32))])) := fun tt h => k tt (XS.goto X25.here hx rfl (pc0 := 174) (pc' := 178) rfl (hb hby at_174) (by decide) (by decide) h)
          replace k : own_K p.tables e below (s₁.setTop (entryFrame m #[(.long t0), (.long t1), (.long t), (.int ai), (.int fi)] maxLocals)) (T25.setTop (mkF m 180 #[.val (.long t0), .second, .val (.long t1), .second, .val (.long t), .second, .val (.int ai), .val (.int fi), .val (.long len), .second, .val (.int mx), .val (.long now), .second, .val (.int mode), .val (.ref b6), .val (.ref b9), .val (.int cc), .val (.int (1 : Int32))] [])) := fun tt h => k tt (XS.istore X25.here hx rfl (hb hby at_178) rfl (l' := #[.val (.long t0), .second, .val (.long t1), .second, .val (.long t), .second, .val (.int ai), .val (.int fi), .val (.long len), .second, .val (.int mx), .val (.long now), .second, .val (.int mode), .val (.ref b6), .val (.ref b9), .val (.int cc), .val (.int (1 : Int32))]) rfl h)
          replace k : own_K p.tables e below (s₁.setTop (entryFrame m #[(.long t0), (.long t1), (.long t), (.int ai), (.int fi)] maxLocals)) (T25.setTop (mkF m 182 #[.val (.long t0), .second, .val (.long t1), .second, .val (.long t), .second, .val (.int ai), .val (.int fi), .val (.long len), .second, .val (.int mx), .val (.long now), .second, .val (.int mode), .val (.ref b6), .val (.ref b9), .val (.int cc), .val (.int (1 : Int32))] [(.ref b9)])) := fun tt h => k tt (XS.aload X25.here hx rfl (hb hby at_180) rfl rfl h)
          replace k : own_K p.tables e below (s₁.setTop (entryFrame m #[(.long t0), (.long t1), (.long t), (.int ai), (.int fi)] maxLocals)) (T25.setTop (mkF m 184 #[.val (.long t0), .second, .val (.long t1), .second, .val (.long t), .second, .val (.int ai), .val (.int fi), .val (.long len), .second, .val (.int mx), .val (.long now), .second, .val (.int mode), .val (.ref b6), .val (.ref b9), .val (.int cc), .val (.int (1 : Int32))] [(.long now), (.ref b9)])) := fun tt h => k tt (XS.lload X25.here hx rfl (hb hby at_182) rfl h)
          replace k : own_K p.tables e below (s₁.setTop (entryFrame m #[(.long t0), (.long t1), (.long t), (.int ai), (.int fi)] maxLocals)) (T25.setTop (mkF m 186 #[.val (.long t0), .second, .val (.long t1), .second, .val (.long t), .second, .val (.int ai), .val (.int fi), .val (.long len), .second, .val (.int mx), .val (.long now), .second, .val (.int mode), .val (.ref b6), .val (.ref b9), .val (.int cc), .val (.int (1 : Int32))] [(.ref b6), (.long now), (.ref b9)])) := fun tt h => k tt (XS.aload X25.here hx rfl (hb hby at_184) rfl rfl h)
          obtain ⟨cq28, kq28, q28a, q28b, q28c⟩ := isOf hZK eq24 E1
          obtain ⟨_, _, ⟨T28, L28, kk28, n28⟩, -, X28, ⟨Lc28, hQ28, l28, y28, z28⟩, st28⟩ := X25.virtualBack hx (y := (⟨"com/example/intrvl/intrvl/fixedwindow/FixedWindow", "isEmpty", "(JLcom/example/intrvl/intrvl/limit/RateLimiterConfig;)Z"⟩ : MethodName)) (z := (⟨"com/example/intrvl/intrvl/fixedwindow/FixedWindow", "isEmpty", "(JLcom/example/intrvl/intrvl/limit/RateLimiterConfig;)Z"⟩ : MethodName)) hownK (mvT hZK (hw _ (List.mem_of_getElem? (i := 78) rfl))) (mvT hZK (hw _ (List.mem_of_getElem? (i := 79) rfl))) (notFace_of_selects (args := #[]) (mvT hZK (hw _ (List.mem_of_getElem? (i := 81) rfl)))) (mvT hZK (hw _ (List.mem_of_getElem? (i := 81) rfl))) (mvT hZK (hw _ (List.mem_of_getElem? (i := 80) rfl))) (by decide) (backOf (W := 0) (rm13 l Z a0 hw [] b9 now b6 len mx ww cc hhK n0 E1 F_window F_admitted EC FT FM hy) hZK (hw _ (List.mem_of_getElem? (i := 82) rfl)) (hw _ (List.mem_of_getElem? (i := 49) rfl)) (by decide) (by decide)) q28a q28c (g := (mkF m 186 #[.val (.long t0), .second, .val (.long t1), .second, .val (.long t), .second, .val (.int ai), .val (.int fi), .val (.long len), .second, .val (.int mx), .val (.long now), .second, .val (.int mode), .val (.ref b6), .val (.ref b9), .val (.int cc), .val (.int (1 : Int32))] [(.ref b6), (.long now), (.ref b9)])) rfl (by rw [hml]; rfl) (Steps.refl _) (argsL := [(.long now), (.ref b6)]) (rest := []) (lenOf own_pd8 rfl) rfl (by show 2 * 0 + _ ≤ _; exact Nat.le_of_eq rfl) (hb hby at_186) (fun _ _ => ⟨rfl, eq24, (by decide : 10 + 0 ≤ _), (by decide : 166 + 0 ≤ _)⟩)
          dsimp only [Pt.U, Pt.locs, Pt.cells, Pt.slots] at X28 l28 y28 z28 st28 hQ28
          rw [l28, y28, z28] at X28
          obtain ⟨rfl, N28q, eq27⟩ := hQ28
          have N28 := Fr.app N25 N28q
          replace k : own_K p.tables e below (s₁.setTop (entryFrame m #[(.long t0), (.long t1), (.long t), (.int ai), (.int fi)] maxLocals)) (T28.setTop (mkF m 189 #[.val (.long t0), .second, .val (.long t1), .second, .val (.long t), .second, .val (.int ai), .val (.int fi), .val (.long len), .second, .val (.int mx), .val (.long now), .second, .val (.int mode), .val (.ref b6), .val (.ref b9), .val (.int cc), .val (.int (1 : Int32))] [(.int (own_emp cc ww (own_fd now len)))])) := fun tt h => k tt (st28.trans h)
          replace k : own_K p.tables e below (s₁.setTop (entryFrame m #[(.long t0), (.long t1), (.long t), (.int ai), (.int fi)] maxLocals)) (T28.setTop (mkF m 191 #[.val (.long t0), .second, .val (.long t1), .second, .val (.long t), .second, .val (.int ai), .val (.int fi), .val (.long len), .second, .val (.int mx), .val (.long now), .second, .val (.int mode), .val (.ref b6), .val (.ref b9), .val (.int cc), .val (.int (1 : Int32))] [(.int (1 : Int32)), (.int (own_emp cc ww (own_fd now len)))])) := fun tt h => k tt (XS.iload X28.here hx rfl (hb hby at_189) rfl h)
          have hww : ww = own_fw t0 len := (hcw.resolve_left cc19).trans (own_fd_fw _ _ hlen)
          replace k : own_K p.tables e below (s₁.setTop (entryFrame m #[(.long t0), (.long t1), (.long t), (.int ai), (.int fi)] maxLocals)) (T28.setTop (mkF m 194 #[.val (.long t0), .second, .val (.long t1), .second, .val (.long t), .second, .val (.int ai), .val (.int fi), .val (.long len), .second, .val (.int mx), .val (.long now), .second, .val (.int mode), .val (.ref b6), .val (.ref b9), .val (.int cc), .val (.int (1 : Int32))] [])) := fun tt h => k tt (XS.icmpNo X28.here hx rfl (hb hby at_191) rfl (teq (by rw [own_fd_fw _ _ hlen, hww]; simp [own_emp, cc19, cc26])).2 h)
          replace k : own_K p.tables e below (s₁.setTop (entryFrame m #[(.long t0), (.long t1), (.long t), (.int ai), (.int fi)] maxLocals)) (T28.setTop (mkF m 195 #[.val (.long t0), .second, .val (.long t1), .second, .val (.long t), .second, .val (.int ai), .val (.int fi), .val (.long len), .second, .val (.int mx), .val (.long now), .second, .val (.int mode), .val (.ref b6), .val (.ref b9), .val (.int cc), .val (.int (1 : Int32))] [(.int (1 : Int32))])) := fun tt h => k tt (XS.iconst X28.here hx rfl (hb hby at_194) h)
          replace k : own_K p.tables e below (s₁.setTop (entryFrame m #[(.long t0), (.long t1), (.long t), (.int ai), (.int fi)] maxLocals)) (T28.setTop (mkF m 199 #[.val (.long t0), .second, .val (.long t1), .second, .val (.long t), .second, .val (.int ai), .val (.int fi), .val (.long len), .second, .val (.int mx), .val (.long now), .second, .val (.int mode), .val (.ref b6), .val (.ref b9), .val (.int cc), .val (.int (1 : Int32))] [(.int (1 : Int32))])) := fun tt h => k tt (XS.goto X28.here hx rfl (pc0 := 195) (pc' := 199) rfl (hb hby at_195) (by decide) (by decide) h)
          obtain ⟨fs, hr, hrun, hended, hEnd⟩ := X28.leaveW hSK (by rw [eq27]; exact hkK) (v := some (.int (1 : Int32))) (fun h => by rw [Bd.returns] at h; cases h) Bd.notSynchronized
          refine ⟨_, _, k _ (retOut X28 hx Bd.returns rfl (Or.inl ⟨rfl, by simp [ret], _, rfl⟩) (hb hby at_199) hr), hrun, hended, _, _, rfl, ?_, hEnd.1, hEnd.2.1, hEnd.2.2.1, hEnd.2.2.2.mono (by decide) (by decide)⟩
          show Q0 Z t0 t1 t ai fi ty h0 n0 _ T28.heap _
          rw [eq27]
          exact ⟨rfl, N28⟩
        · replace k : own_K p.tables e below (s₁.setTop (entryFrame m #[(.long t0), (.long t1), (.long t), (.int ai), (.int fi)] maxLocals)) (T25.setTop (mkF m 177 #[.val (.long t0), .second, .val (.long t1), .second, .val (.long t), .second, .val (.int ai), .val (.int fi), .val (.long len), .second, .val (.int mx), .val (.long now), .second, .val (.int mode), .val (.ref b6), .val (.ref b9), .val (.int cc), .unset] [])) := fun tt h => k tt (XS.ifYes X25.here hx rfl (pc0 := 170) (pc' := 177) rfl (hb hby at_170) rfl ((if0 _ _).trans (flt (fun q => cc26 ((lw_gt _ _).mp q))).2.2.2) (by decide) (by decide) h)
          replace k : own_K p.tables e below (s₁.setTop (entryFrame m #[(.long t0), (.long t1), (.long t), (.int ai), (.int fi)] maxLocals)) (T25.setTop (mkF m 178 #[.val (.long t0), .second, .val (.long t1), .second, .val (.long t), .second, .val (.int ai), .val (.int fi), .val (.long len), .second, .val (.int mx), .val (.long now), .second, .val (.int mode), .val (.ref b6), .val (.ref b9), .val (.int cc), .unset] [(.int (0 : Int32))])) := fun tt h => k tt (XS.iconst X25.here hx rfl (hb hby at_177) h)
          replace k : own_K p.tables e below (s₁.setTop (entryFrame m #[(.long t0), (.long t1), (.long t), (.int ai), (.int fi)] maxLocals)) (T25.setTop (mkF m 180 #[.val (.long t0), .second, .val (.long t1), .second, .val (.long t), .second, .val (.int ai), .val (.int fi), .val (.long len), .second, .val (.int mx), .val (.long now), .second, .val (.int mode), .val (.ref b6), .val (.ref b9), .val (.int cc), .val (.int (0 : Int32))] [])) := fun tt h => k tt (XS.istore X25.here hx rfl (hb hby at_178) rfl (l' := #[.val (.long t0), .second, .val (.long t1), .second, .val (.long t), .second, .val (.int ai), .val (.int fi), .val (.long len), .second, .val (.int mx), .val (.long now), .second, .val (.int mode), .val (.ref b6), .val (.ref b9), .val (.int cc), .val (.int (0 : Int32))]) rfl h)
          replace k : own_K p.tables e below (s₁.setTop (entryFrame m #[(.long t0), (.long t1), (.long t), (.int ai), (.int fi)] maxLocals)) (T25.setTop (mkF m 182 #[.val (.long t0), .second, .val (.long t1), .second, .val (.long t), .second, .val (.int ai), .val (.int fi), .val (.long len), .second, .val (.int mx), .val (.long now), .second, .val (.int mode), .val (.ref b6), .val (.ref b9), .val (.int cc), .val (.int (0 : Int32))] [(.ref b9)])) := fun tt h => k tt (XS.aload X25.here hx rfl (hb hby at_180) rfl rfl h)
          replace k : own_K p.tables e below (s₁.setTop (entryFrame m #[(.long t0), (.long t1), (.long t), (.int ai), (.int fi)] maxLocals)) (T25.setTop (mkF m 184 #[.val (.long t0), .second, .val (.long t1), .second, .val (.long t), .second, .val (.int ai), .val (.int fi), .val (.long len), .second, .val (.int mx), .val (.long now), .second, .val (.int mode), .val (.ref b6), .val (.ref b9), .val (.int cc), .val (.int (0 : Int32))] [(.long now), (.ref b9)])) := fun tt h => k tt (XS.lload X25.here hx rfl (hb hby at_182) rfl h)
          replace k : own_K p.tables e below (s₁.setTop (entryFrame m #[(.long t0), (.long t1), (.long t), (.int ai), (.int fi)] maxLocals)) (T25.setTop (mkF m 186 #[.val (.long t0), .second, .val (.long t1), .second, .val (.long t), .second, .val (.int ai), .val (.int fi), .val (.long len), .second, .val (.int mx), .val (.long now), .second, .val (.int mode), .val (.ref b6), .val (.ref b9), .val (.int cc), .val (.int (0 : Int32))] [(.ref b6), (.long now), (.ref b9)])) := fun tt h => k tt (XS.aload X25.here hx rfl (hb hby at_184) rfl rfl h)
          obtain ⟨cq30, kq30, q30a, q30b, q30c⟩ := isOf hZK eq24 E1
          obtain ⟨_, _, ⟨T30, L30, kk30, n30⟩, -, X30, ⟨Lc30, hQ30, l30, y30, z30⟩, st30⟩ := X25.virtualBack hx (y := (⟨"com/example/intrvl/intrvl/fixedwindow/FixedWindow", "isEmpty", "(JLcom/example/intrvl/intrvl/limit/RateLimiterConfig;)Z"⟩ : MethodName)) (z := (⟨"com/example/intrvl/intrvl/fixedwindow/FixedWindow", "isEmpty", "(JLcom/example/intrvl/intrvl/limit/RateLimiterConfig;)Z"⟩ : MethodName)) hownK (mvT hZK (hw _ (List.mem_of_getElem? (i := 78) rfl))) (mvT hZK (hw _ (List.mem_of_getElem? (i := 79) rfl))) (notFace_of_selects (args := #[]) (mvT hZK (hw _ (List.mem_of_getElem? (i := 81) rfl)))) (mvT hZK (hw _ (List.mem_of_getElem? (i := 81) rfl))) (mvT hZK (hw _ (List.mem_of_getElem? (i := 80) rfl))) (by decide) (backOf (W := 0) (rm13 l Z a0 hw [] b9 now b6 len mx ww cc hhK n0 E1 F_window F_admitted EC FT FM hy) hZK (hw _ (List.mem_of_getElem? (i := 82) rfl)) (hw _ (List.mem_of_getElem? (i := 49) rfl)) (by decide) (by decide)) q30a q30c (g := (mkF m 186 #[.val (.long t0), .second, .val (.long t1), .second, .val (.long t), .second, .val (.int ai), .val (.int fi), .val (.long len), .second, .val (.int mx), .val (.long now), .second, .val (.int mode), .val (.ref b6), .val (.ref b9), .val (.int cc), .val (.int (0 : Int32))] [(.ref b6), (.long now), (.ref b9)])) rfl (by rw [hml]; rfl) (Steps.refl _) (argsL := [(.long now), (.ref b6)]) (rest := []) (lenOf own_pd8 rfl) rfl (by show 2 * 0 + _ ≤ _; exact Nat.le_of_eq rfl) (hb hby at_186) (fun _ _ => ⟨rfl, eq24, (by decide : 10 + 0 ≤ _), (by decide : 166 + 0 ≤ _)⟩)
          dsimp only [Pt.U, Pt.locs, Pt.cells, Pt.slots] at X30 l30 y30 z30 st30 hQ30
          rw [l30, y30, z30] at X30
          obtain ⟨rfl, N30q, eq29⟩ := hQ30
          have N30 := Fr.app N25 N30q
          replace k : own_K p.tables e below (s₁.setTop (entryFrame m #[(.long t0), (.long t1), (.long t), (.int ai), (.int fi)] maxLocals)) (T30.setTop (mkF m 189 #[.val (.long t0), .second, .val (.long t1), .second, .val (.long t), .second, .val (.int ai), .val (.int fi), .val (.long len), .second, .val (.int mx), .val (.long now), .second, .val (.int mode), .val (.ref b6), .val (.ref b9), .val (.int cc), .val (.int (0 : Int32))] [(.int (own_emp cc ww (own_fd now len)))])) := fun tt h => k tt (st30.trans h)
          replace k : own_K p.tables e below (s₁.setTop (entryFrame m #[(.long t0), (.long t1), (.long t), (.int ai), (.int fi)] maxLocals)) (T30.setTop (mkF m 191 #[.val (.long t0), .second, .val (.long t1), .second, .val (.long t), .second, .val (.int ai), .val (.int fi), .val (.long len), .second, .val (.int mx), .val (.long now), .second, .val (.int mode), .val (.ref b6), .val (.ref b9), .val (.int cc), .val (.int (0 : Int32))] [(.int (0 : Int32)), (.int (own_emp cc ww (own_fd now len)))])) := fun tt h => k tt (XS.iload X30.here hx rfl (hb hby at_189) rfl h)
          have hww : ww = own_fw t0 len := (hcw.resolve_left cc19).trans (own_fd_fw _ _ hlen)
          replace k : own_K p.tables e below (s₁.setTop (entryFrame m #[(.long t0), (.long t1), (.long t), (.int ai), (.int fi)] maxLocals)) (T30.setTop (mkF m 194 #[.val (.long t0), .second, .val (.long t1), .second, .val (.long t), .second, .val (.int ai), .val (.int fi), .val (.long len), .second, .val (.int mx), .val (.long now), .second, .val (.int mode), .val (.ref b6), .val (.ref b9), .val (.int cc), .val (.int (0 : Int32))] [])) := fun tt h => k tt (XS.icmpNo X30.here hx rfl (hb hby at_191) rfl (teq (by rw [own_fd_fw _ _ hlen, hww]; simp [own_emp, cc19, cc26])).2 h)
          replace k : own_K p.tables e below (s₁.setTop (entryFrame m #[(.long t0), (.long t1), (.long t), (.int ai), (.int fi)] maxLocals)) (T30.setTop (mkF m 195 #[.val (.long t0), .second, .val (.long t1), .second, .val (.long t), .second, .val (.int ai), .val (.int fi), .val (.long len), .second, .val (.int mx), .val (.long now), .second, .val (.int mode), .val (.ref b6), .val (.ref b9), .val (.int cc), .val (.int (0 : Int32))] [(.int (1 : Int32))])) := fun tt h => k tt (XS.iconst X30.here hx rfl (hb hby at_194) h)
          replace k : own_K p.tables e below (s₁.setTop (entryFrame m #[(.long t0), (.long t1), (.long t), (.int ai), (.int fi)] maxLocals)) (T30.setTop (mkF m 199 #[.val (.long t0), .second, .val (.long t1), .second, .val (.long t), .second, .val (.int ai), .val (.int fi), .val (.long len), .second, .val (.int mx), .val (.long now), .second, .val (.int mode), .val (.ref b6), .val (.ref b9), .val (.int cc), .val (.int (0 : Int32))] [(.int (1 : Int32))])) := fun tt h => k tt (XS.goto X30.here hx rfl (pc0 := 195) (pc' := 199) rfl (hb hby at_195) (by decide) (by decide) h)
          obtain ⟨fs, hr, hrun, hended, hEnd⟩ := X30.leaveW hSK (by rw [eq29]; exact hkK) (v := some (.int (1 : Int32))) (fun h => by rw [Bd.returns] at h; cases h) Bd.notSynchronized
          refine ⟨_, _, k _ (retOut X30 hx Bd.returns rfl (Or.inl ⟨rfl, by simp [ret], _, rfl⟩) (hb hby at_199) hr), hrun, hended, _, _, rfl, ?_, hEnd.1, hEnd.2.1, hEnd.2.2.1, hEnd.2.2.2.mono (by decide) (by decide)⟩
          show Q0 Z t0 t1 t ai fi ty h0 n0 _ T30.heap _
          rw [eq29]
          exact ⟨rfl, N30⟩
set_option maxRecDepth 65536 in
set_option maxHeartbeats 40000000 in
theorem comes_1 {Post : Tables → Env → Array Value → State → Outcome → State → Prop} (hpost : ∀ tb e args s v u, (limb_1_1.after args s (.returned v) u = true ∧ limb_1_2.after args s (.returned v) u = true ∧ True) → ReturnedEndW s (.returned v) u (Jvm.fieldLocs frame_1_writes args s ++ Jvm.arrayLocs frame_1_arrays args s ++ Jvm.staticLocs frame_1_statics s) 24 4224 → Post tb e args s (.returned v) u) :
    ArmFor flags0 classFile x code maxLocals ret World_1 tables_1 room_1 Calls_1 rest_1 Pre_1 Post := by
  intro l hfl _ _ p e ha hc hk s m args below hf hA hF happ hP
  obtain ⟨hcalls, hrest, hpre⟩ := hP
  obtain ⟨-, -, -, hnamed, -, -, -, hat⟩ := (Spec.applies_iff hf).mp happ
  obtain ⟨hg, hn⟩ := and_e (Cond.before_iff.mp (show (Jvm.Cond.and given_1 narrow_1).before args s = true from hpre))
  obtain ⟨hcount, hg⟩ := and_e hg
  obtain ⟨w0, w1, w2, w3, w4, rfl⟩ : ∃ w0 w1 w2 w3 w4 : Value, args = #[w0, w1, w2, w3, w4] := by
    have hs : args.size = 5 := by simpa [Cond.value, given_1] using hcount
    obtain ⟨L⟩ := args
    match L, hs with
    | [w0, w1, w2, w3, w4], _ => exact ⟨w0, w1, w2, w3, w4, rfl⟩
  have hw := fun d (hd : d ∈ tables_1) => atoms_spec (ws := Jvm.Cond.code x code maxLocals ret :: tables_1) hat d (List.mem_cons_of_mem _ hd)
  have hfit : Fit s := fun {y c} hc i hi => by
    obtain ⟨ha, rfl⟩ := Array.getElem?_eq_some_iff.mp hc
    have q := List.all_eq_true.mp ((Array.all_eq_true_iff_forall_mem.mp hF) _ (Array.getElem_mem ha)) i (List.mem_range.mpr hi)
    simpa [Array.getElem?_eq_getElem hi] using q
  obtain ⟨hg0, hg⟩ := and_e hg
  obtain ⟨i0, hi0⟩ := isL_v hg0
  obtain rfl : w0 = (.long i0) := Option.some.inj hi0
  obtain ⟨hg1, hg⟩ := and_e hg
  obtain ⟨i1, hi1⟩ := isL_v hg1
  obtain rfl : w1 = (.long i1) := Option.some.inj hi1
  obtain ⟨hg2, hg⟩ := and_e hg
  obtain ⟨i2, hi2⟩ := isL_v hg2
  obtain rfl : w2 = (.long i2) := Option.some.inj hi2
  obtain ⟨hg3, hg⟩ := and_e hg
  obtain ⟨i3, hi3⟩ := is_v hg3
  obtain rfl : w3 = (.int i3) := Option.some.inj hi3
  obtain ⟨i4, hi4⟩ := is_v hg
  obtain rfl : w4 = (.int i4) := Option.some.inj hi4
  obtain ⟨ty, S1, E1, ev⟩ := own_stat hn (hw _ (List.mem_of_getElem? (i := 5) rfl)) (hw _ (List.mem_of_getElem? (i := 6) rfl))
  obtain ⟨n, o, h1, h2, h3, _, L, rfl, ⟨rfl, N⟩, hq⟩ := rm0 l s _ hw tables_1 i0 i1 i2 i3 i4 ty s.heap s.heap.size (Nat.le_refl _) S1 p e ha hc hk s m _ below hf ((Spec.applies_iff_loose hf).mp happ).1 ⟨rfl, State.Warmed39.refl s, rfl⟩ trivial
  refine ⟨n, _, h1, h2, h3, hpost _ _ _ _ _ _ ⟨Cond.after_iff.mpr rfl, Cond.after_iff.mpr (eq_i res_at (Term.int_eval (1)) rfl), trivial⟩ ⟨hq.1, hq.2.1, hq.2.2.1, (hq.2.2.2.sift fun y hy => Or.inr (N y hy)).mono (by decide) (by decide)⟩⟩
theorem main_1_1 : Claimed_1_1 := comes_1 fun _ _ _ _ _ _ h hF => ⟨h.1, hF⟩
theorem main_1_2 : Claimed_1_2 := comes_1 fun _ _ _ _ _ _ h hF => ⟨h.2.1, hF⟩
end Jvm.Pilot.@@N@@
namespace Jvm.Pilot.@@N@@
open Jvm Jvm.ClassFile Sem Op Lib Jvm.Free Jvm.Stand Jvm.Pilot.@@N@@.Jvm.D
/-! MADE BY PROGRAM (witnessworld.py) out of the Statement's table words and the real class files: 20 classes; the members and pool entries that the words name. The judged class is class 1, her method 2. -/
namespace start1
open Jvm.ClassFile
def u (s : String) : CpInfo := .utf8 (stringToUtf16 s)
/-- a pool by its gaps: so many unusable entries, then the entry; so many at the end -/
def gap : Nat → List CpInfo → List CpInfo
  | 0, r => r
  | n + 1, r => .unusable :: gap n r
def poolList (es : List (Nat × CpInfo)) (last : Nat) : List CpInfo := es.foldr (fun e r => gap e.1 (e.2 :: r)) (gap last [])
def pool (es : List (Nat × CpInfo)) (last : Nat) : Array CpInfo := ⟨poolList es last⟩
def fileOf (pool : Array CpInfo) (this : Nat) (attrs : Array Attribute := #[]) (ms : Array MethodInfo := #[]) (fl : Nat := 33) (sup : Nat := 0) (ifs : Array Nat := #[]) (fds : Array FieldInfo := #[]) : ClassFile where
  minorVersion := 0
  majorVersion := 65
  constantPool := pool
  accessFlags := fl
  thisClass := this
  superClass := sup
  interfaces := ifs
  fields := fds
  methods := ms
  attributes := attrs
def plain (name : String) (sup : Option ClassId) : Class where
  name := name
  kind := .ordinary
  loader := none
  accessFlags := 33
  super := sup
  interfaces := #[]
  cf := none
  fields := #[]
  methods := #[]
  instanceTypes := #[]
  staticTypes := #[]
  resolved := #[]
  callSites := []
  init := .initialized
  statics := none
  mirror := none

def pool0 : Array CpInfo := pool [(5, u "<init>"), (0, u "()V"), (1, .class_ 10), (1, u "java/lang/Object")] 113

def k0c0 : Code := { maxStack := 0, maxLocals := 1, code := object_method_1_code, exceptionTable := #[], attributes := #[] }
def k0m0 : Method := { name := "<init>", desc := "()V", sig := { parameters := [], returnType := none }, accessFlags := 1, code := some k0c0 }
/-- java/lang/Object -/
def k0 : Class := { plain "java/lang/Object" none with
  accessFlags := 33
  interfaces := #[]
  cf := some (fileOf pool0 8 #[] #[{ accessFlags := 1, nameIndex := 5, descriptorIndex := 6, attributes := #[] }] 33 0 #[] #[])
  fields := #[]
  methods := #[k0m0]
  instanceTypes := #[]
  staticTypes := #[]
  resolved := Array.replicate 124 none
  statics := none }

def pool1 : Array CpInfo := pool [(2, .class_ 4), (0, .nameAndType 5 6), (0, u "java/lang/Object"), (0, u "<init>"), (0, u "()V"), (0, .long 255), (3, .long 9223372036854775807), (1, .methodref 14 15), (0, .class_ 16), (0, .nameAndType 17 18), (0, u "java/lang/Math"), (0, u "max"), (0, u "(JJ)J"), (0, .long 512), (1, .class_ 22), (0, u "com/example/intrvl/intrvl/limit/RateLimiterConfig"), (0, .fieldref 24 25), (0, .class_ 26), (0, .nameAndType 27 28), (0, u "com/example/intrvl/intrvl/limit/RateLimiterType"), (0, u "FIXED_WINDOW"), (0, u "Lcom/example/intrvl/intrvl/limit/RateLimiterType;"), (0, .methodref 21 30), (0, .nameAndType 5 31), (0, u "(IJLcom/example/intrvl/intrvl/limit/RateLimiterType;)V"), (0, .class_ 33), (0, u "com/example/intrvl/intrvl/fixedwindow/FixedWindow"), (0, .methodref 32 3), (0, .methodref 32 36), (0, .nameAndType 37 38), (0, u "hasRoom"), (0, u "(JLcom/example/intrvl/intrvl/limit/RateLimiterConfig;)Z"), (0, .methodref 32 40), (0, .nameAndType 41 6), (0, u "count"), (0, .methodref 43 44), (0, .class_ 45), (0, .nameAndType 46 18), (0, u "com/example/intrvl/intrvl/fixedwindow/FixedWindowIsEmptyPinLaw"), (0, u "floorWin"), (0, .methodref 32 48), (0, .nameAndType 49 38), (0, u "isEmpty"), (3, u "law"), (0, u "(JJJII)Z")] 2

def k1m0 : Method := { name := "<init>", desc := "()V", sig := { parameters := [], returnType := none }, accessFlags := 1, code := none }
def k1c1 : Code := { maxStack := 4, maxLocals := 6, code := method_2_code, exceptionTable := #[], attributes := #[] }
def k1m1 : Method := { name := "floorWin", desc := "(JJ)J", sig := { parameters := [.long, .long], returnType := some .long }, accessFlags := 10, code := some k1c1 }
def k1c2 : Code := { maxStack := 6, maxLocals := 18, code := code, exceptionTable := #[], attributes := #[] }
def k1m2 : Method := { name := "law", desc := "(JJJII)Z", sig := { parameters := [.long, .long, .long, .int, .int], returnType := some .boolean }, accessFlags := 9, code := some k1c2 }
/-- com/example/intrvl/intrvl/fixedwindow/FixedWindowIsEmptyPinLaw -/
def k1 : Class := { plain "com/example/intrvl/intrvl/fixedwindow/FixedWindowIsEmptyPinLaw" (some 0) with
  accessFlags := 49
  interfaces := #[]
  cf := some (fileOf pool1 43 #[] #[{ accessFlags := 1, nameIndex := 5, descriptorIndex := 6, attributes := #[] }, { accessFlags := 10, nameIndex := 46, descriptorIndex := 18, attributes := #[] }, { accessFlags := 9, nameIndex := 53, descriptorIndex := 54, attributes := #[] }] 49 2 #[] #[])
  fields := #[]
  methods := #[k1m0, k1m1, k1m2]
  instanceTypes := #[]
  staticTypes := #[]
  resolved := Array.replicate 57 none
  statics := none }

def pool2 : Array CpInfo := pool [(1, .methodref 2 3), (0, .class_ 4), (0, .nameAndType 5 6), (0, u "java/lang/Object"), (0, u "<init>"), (0, u "()V"), (0, .class_ 8), (0, u "java/lang/Record")] 13

def k2c0 : Code := { maxStack := 1, maxLocals := 1, code := jdk_30_method_1_code, exceptionTable := #[], attributes := #[] }
def k2m0 : Method := { name := "<init>", desc := "()V", sig := { parameters := [], returnType := none }, accessFlags := 4, code := some k2c0 }
/-- java/lang/Record -/
def k2 : Class := { plain "java/lang/Record" (some 0) with
  accessFlags := 1057
  interfaces := #[]
  cf := some (fileOf pool2 7 #[] #[{ accessFlags := 4, nameIndex := 5, descriptorIndex := 6, attributes := #[] }] 1057 2 #[] #[])
  fields := #[]
  methods := #[k2m0]
  instanceTypes := #[]
  staticTypes := #[]
  resolved := Array.replicate 22 none
  statics := none }

def pool3 : Array CpInfo := pool [(1, .methodref 2 3), (0, .class_ 4), (0, .nameAndType 5 6), (0, u "java/lang/Record"), (0, u "<init>"), (0, u "()V"), (0, .string 8), (0, u "maxRequests"), (0, .methodref 10 11), (0, .class_ 12), (0, .nameAndType 13 14), (0, u "com/example/intrvl/intrvl/limit/RateLimiterConfig"), (0, u "requirePositive"), (0, u "(Ljava/lang/String;J)V"), (0, .string 16), (0, u "timeWindowMillis"), (0, .string 18), (0, u "type"), (0, .methodref 20 21), (0, .class_ 22), (0, .nameAndType 23 24), (0, u "java/util/Objects"), (0, u "requireNonNull"), (0, u "(Ljava/lang/Object;Ljava/lang/String;)Ljava/lang/Object;"), (0, .string 26), (0, u "burst"), (0, .fieldref 10 28), (0, .nameAndType 8 29), (0, u "I"), (0, .fieldref 10 31), (0, .nameAndType 16 32), (0, u "J"), (0, .fieldref 10 34), (0, .nameAndType 18 35), (0, u "Lcom/example/intrvl/intrvl/limit/RateLimiterType;"), (0, .fieldref 10 37), (0, .nameAndType 26 29), (0, .methodref 10 39), (0, .nameAndType 5 40), (0, u "(IJLcom/example/intrvl/intrvl/limit/RateLimiterType;I)V"), (2, u "LIMIT_TEXT"), (0, u "Ljava/util/regex/Pattern;"), (27, u "()I"), (63, u "(IJLcom/example/intrvl/intrvl/limit/RateLimiterType;)V"), (38, u "()J")] 37

def k3c0 : Code := { maxStack := 3, maxLocals := 6, code := prog_13_method_1_code, exceptionTable := #[], attributes := #[] }
def k3m0 : Method := { name := "<init>", desc := "(IJLcom/example/intrvl/intrvl/limit/RateLimiterType;I)V", sig := { parameters := [.int, .long, (.object "com/example/intrvl/intrvl/limit/RateLimiterType"), .int], returnType := none }, accessFlags := 1, code := some k3c0 }
def k3c1 : Code := { maxStack := 6, maxLocals := 5, code := prog_13_method_2_code, exceptionTable := #[], attributes := #[] }
def k3m1 : Method := { name := "<init>", desc := "(IJLcom/example/intrvl/intrvl/limit/RateLimiterType;)V", sig := { parameters := [.int, .long, (.object "com/example/intrvl/intrvl/limit/RateLimiterType")], returnType := none }, accessFlags := 1, code := some k3c1 }
def k3c2 : Code := { maxStack := 5, maxLocals := 3, code := prog_13_method_5_code, exceptionTable := #[], attributes := #[] }
def k3m2 : Method := { name := "requirePositive", desc := "(Ljava/lang/String;J)V", sig := { parameters := [(.object "java/lang/String"), .long], returnType := none }, accessFlags := 10, code := some k3c2 }
def k3c3 : Code := { maxStack := 1, maxLocals := 1, code := prog_13_method_9_code, exceptionTable := #[], attributes := #[] }
def k3m3 : Method := { name := "maxRequests", desc := "()I", sig := { parameters := [], returnType := some .int }, accessFlags := 1, code := some k3c3 }
def k3c4 : Code := { maxStack := 2, maxLocals := 1, code := prog_13_method_10_code, exceptionTable := #[], attributes := #[] }
def k3m4 : Method := { name := "timeWindowMillis", desc := "()J", sig := { parameters := [], returnType := some .long }, accessFlags := 1, code := some k3c4 }
/-- com/example/intrvl/intrvl/limit/RateLimiterConfig -/
def k3 : Class := { plain "com/example/intrvl/intrvl/limit/RateLimiterConfig" (some 2) with
  accessFlags := 49
  interfaces := #[]
  cf := some (fileOf pool3 10 #[] #[{ accessFlags := 1, nameIndex := 5, descriptorIndex := 40, attributes := #[] }, { accessFlags := 1, nameIndex := 5, descriptorIndex := 136, attributes := #[] }, { accessFlags := 10, nameIndex := 13, descriptorIndex := 14, attributes := #[] }, { accessFlags := 1, nameIndex := 8, descriptorIndex := 72, attributes := #[] }, { accessFlags := 1, nameIndex := 16, descriptorIndex := 175, attributes := #[] }] 49 2 #[] #[{ accessFlags := 18, nameIndex := 8, descriptorIndex := 29, attributes := #[] }, { accessFlags := 18, nameIndex := 16, descriptorIndex := 32, attributes := #[] }, { accessFlags := 18, nameIndex := 18, descriptorIndex := 35, attributes := #[] }, { accessFlags := 18, nameIndex := 26, descriptorIndex := 29, attributes := #[] }, { accessFlags := 26, nameIndex := 43, descriptorIndex := 44, attributes := #[] }])
  fields := #[{ name := "maxRequests", type := .int, accessFlags := 18, slot := 0, constantValue := 0 }, { name := "timeWindowMillis", type := .long, accessFlags := 18, slot := 1, constantValue := 0 }, { name := "type", type := (.object "com/example/intrvl/intrvl/limit/RateLimiterType"), accessFlags := 18, slot := 2, constantValue := 0 }, { name := "burst", type := .int, accessFlags := 18, slot := 3, constantValue := 0 }, { name := "LIMIT_TEXT", type := (.object "java/util/regex/Pattern"), accessFlags := 26, slot := 0, constantValue := 0 }]
  methods := #[k3m0, k3m1, k3m2, k3m3, k3m4]
  instanceTypes := #[.int, .long, (.object "com/example/intrvl/intrvl/limit/RateLimiterType"), .int]
  staticTypes := #[(.object "java/util/regex/Pattern")]
  resolved := Array.replicate 213 none
  statics := none }

def pool4 : Array CpInfo := pool [(1, .class_ 2), (0, u "java/lang/constant/Constable"), (0, .class_ 4), (0, u "java/lang/Object")] 6

/-- java/lang/constant/Constable -/
def k4 : Class := { plain "java/lang/constant/Constable" (some 0) with
  accessFlags := 1537
  interfaces := #[]
  cf := some (fileOf pool4 1 #[] #[] 1537 3 #[] #[])
  fields := #[]
  methods := #[]
  instanceTypes := #[]
  staticTypes := #[]
  resolved := Array.replicate 11 none
  statics := none }

def pool5 : Array CpInfo := pool [(1, .class_ 2), (0, u "java/lang/Comparable"), (0, .class_ 4), (0, u "java/lang/Object")] 7

/-- java/lang/Comparable -/
def k5 : Class := { plain "java/lang/Comparable" (some 0) with
  accessFlags := 1537
  interfaces := #[]
  cf := some (fileOf pool5 1 #[] #[] 1537 3 #[] #[])
  fields := #[]
  methods := #[]
  instanceTypes := #[]
  staticTypes := #[]
  resolved := Array.replicate 12 none
  statics := none }

def pool6 : Array CpInfo := pool [(1, .class_ 2), (0, u "java/io/Serializable"), (0, .class_ 4), (0, u "java/lang/Object")] 2

/-- java/io/Serializable -/
def k6 : Class := { plain "java/io/Serializable" (some 0) with
  accessFlags := 1537
  interfaces := #[]
  cf := some (fileOf pool6 1 #[] #[] 1537 3 #[] #[])
  fields := #[]
  methods := #[]
  instanceTypes := #[]
  staticTypes := #[]
  resolved := Array.replicate 7 none
  statics := none }

def pool7 : Array CpInfo := pool [(2, .class_ 4), (1, u "java/lang/Enum"), (0, u "name"), (0, u "Ljava/lang/String;"), (2, u "ordinal"), (0, u "I"), (1, .class_ 14), (1, u "java/lang/Object"), (4, u "hash"), (86, .class_ 108), (1, u "java/lang/Enum$EnumDesc"), (2, .class_ 112), (0, u "java/lang/constant/Constable"), (0, .class_ 114), (0, u "java/lang/Comparable"), (0, .class_ 116), (0, u "java/io/Serializable")] 87

/-- java/lang/Enum -/
def k7 : Class := { plain "java/lang/Enum" (some 0) with
  accessFlags := 1057
  interfaces := #[4, 5, 6]
  cf := some (fileOf pool7 2 #[.nestMembers #[106]] #[] 1057 12 #[111, 113, 115] #[{ accessFlags := 18, nameIndex := 5, descriptorIndex := 6, attributes := #[] }, { accessFlags := 18, nameIndex := 9, descriptorIndex := 10, attributes := #[] }, { accessFlags := 2, nameIndex := 19, descriptorIndex := 10, attributes := #[] }])
  fields := #[{ name := "name", type := (.object "java/lang/String"), accessFlags := 18, slot := 0, constantValue := 0 }, { name := "ordinal", type := .int, accessFlags := 18, slot := 1, constantValue := 0 }, { name := "hash", type := .int, accessFlags := 2, slot := 2, constantValue := 0 }]
  methods := #[]
  instanceTypes := #[(.object "java/lang/String"), .int, .int]
  staticTypes := #[]
  resolved := Array.replicate 204 none
  statics := none }

def pool8 : Array CpInfo := pool [(1, .class_ 2), (0, u "com/example/intrvl/intrvl/limit/RateLimiterType"), (2, u "TOKEN_BUCKET"), (0, u "Lcom/example/intrvl/intrvl/limit/RateLimiterType;"), (2, u "LEAKY_BUCKET"), (2, u "FIXED_WINDOW"), (2, u "SLIDING_WINDOW_LOG"), (2, u "SLIDING_WINDOW_COUNTER"), (2, u "$VALUES"), (0, u "[Lcom/example/intrvl/intrvl/limit/RateLimiterType;"), (6, .class_ 31), (1, u "java/lang/Enum"), (8, u "label"), (0, u "Ljava/lang/String;"), (2, u "readsBurst"), (0, u "Z")] 131

/-- com/example/intrvl/intrvl/limit/RateLimiterType -/
def k8 : Class := { plain "com/example/intrvl/intrvl/limit/RateLimiterType" (some 7) with
  accessFlags := 16433
  interfaces := #[]
  cf := some (fileOf pool8 1 #[] #[] 16433 29 #[] #[{ accessFlags := 16409, nameIndex := 5, descriptorIndex := 6, attributes := #[] }, { accessFlags := 16409, nameIndex := 9, descriptorIndex := 6, attributes := #[] }, { accessFlags := 16409, nameIndex := 12, descriptorIndex := 6, attributes := #[] }, { accessFlags := 16409, nameIndex := 15, descriptorIndex := 6, attributes := #[] }, { accessFlags := 16409, nameIndex := 18, descriptorIndex := 6, attributes := #[] }, { accessFlags := 18, nameIndex := 40, descriptorIndex := 41, attributes := #[] }, { accessFlags := 18, nameIndex := 44, descriptorIndex := 45, attributes := #[] }, { accessFlags := 4122, nameIndex := 21, descriptorIndex := 22, attributes := #[] }])
  fields := #[{ name := "TOKEN_BUCKET", type := (.object "com/example/intrvl/intrvl/limit/RateLimiterType"), accessFlags := 16409, slot := 0, constantValue := 0 }, { name := "LEAKY_BUCKET", type := (.object "com/example/intrvl/intrvl/limit/RateLimiterType"), accessFlags := 16409, slot := 1, constantValue := 0 }, { name := "FIXED_WINDOW", type := (.object "com/example/intrvl/intrvl/limit/RateLimiterType"), accessFlags := 16409, slot := 2, constantValue := 0 }, { name := "SLIDING_WINDOW_LOG", type := (.object "com/example/intrvl/intrvl/limit/RateLimiterType"), accessFlags := 16409, slot := 3, constantValue := 0 }, { name := "SLIDING_WINDOW_COUNTER", type := (.object "com/example/intrvl/intrvl/limit/RateLimiterType"), accessFlags := 16409, slot := 4, constantValue := 0 }, { name := "label", type := (.object "java/lang/String"), accessFlags := 18, slot := 3, constantValue := 0 }, { name := "readsBurst", type := .boolean, accessFlags := 18, slot := 4, constantValue := 0 }, { name := "$VALUES", type := (.array (.object "com/example/intrvl/intrvl/limit/RateLimiterType")), accessFlags := 4122, slot := 5, constantValue := 0 }]
  methods := #[]
  instanceTypes := #[(.object "java/lang/String"), .int, .int, (.object "java/lang/String"), .boolean]
  staticTypes := #[(.object "com/example/intrvl/intrvl/limit/RateLimiterType"), (.object "com/example/intrvl/intrvl/limit/RateLimiterType"), (.object "com/example/intrvl/intrvl/limit/RateLimiterType"), (.object "com/example/intrvl/intrvl/limit/RateLimiterType"), (.object "com/example/intrvl/intrvl/limit/RateLimiterType"), (.array (.object "com/example/intrvl/intrvl/limit/RateLimiterType"))]
  resolved := Array.replicate 177 none
  statics := some 0 }

def pool9 : Array CpInfo := pool [(2, .class_ 4), (1, u "java/lang/CharSequence"), (42, .class_ 48), (0, u "java/lang/CharSequence$1CodePointIterator"), (10, .class_ 60), (0, u "java/lang/CharSequence$1CharIterator"), (5, .class_ 67), (0, u "java/lang/Object")] 63

/-- java/lang/CharSequence -/
def k9 : Class := { plain "java/lang/CharSequence" (some 0) with
  accessFlags := 1537
  interfaces := #[]
  cf := some (fileOf pool9 2 #[.nestMembers #[47, 59]] #[] 1537 66 #[] #[])
  fields := #[]
  methods := #[]
  instanceTypes := #[]
  staticTypes := #[]
  resolved := Array.replicate 131 none
  statics := none }

def pool10 : Array CpInfo := pool [(1, .class_ 2), (0, u "java/lang/constant/ConstantDesc"), (0, .class_ 4), (0, u "java/lang/Object")] 32

/-- java/lang/constant/ConstantDesc -/
def k10 : Class := { plain "java/lang/constant/ConstantDesc" (some 0) with
  accessFlags := 1537
  interfaces := #[]
  cf := some (fileOf pool10 1 #[] #[] 1537 3 #[] #[])
  fields := #[]
  methods := #[]
  instanceTypes := #[]
  staticTypes := #[]
  resolved := Array.replicate 37 none
  statics := none }

def pool11 : Array CpInfo := pool [(2, .class_ 4), (1, u "java/lang/Object"), (0, u "<init>"), (0, u "()V"), (3, .class_ 12), (1, u "java/lang/String"), (0, u "value"), (0, u "[B"), (2, u "coder"), (0, u "B"), (2, u "hash"), (0, u "I"), (2, u "hashIsZero"), (0, u "Z"), (13, u "COMPACT_STRINGS"), (534, .class_ 576), (0, u "java/lang/CharSequence"), (22, u "CASE_INSENSITIVE_ORDER"), (0, u "Ljava/util/Comparator;"), (500, u "serialPersistentFields"), (0, u "[Ljava/io/ObjectStreamField;"), (0, .class_ 1104), (0, u "java/lang/String$CaseInsensitiveComparator"), (1, .class_ 1107), (0, u "java/io/Serializable"), (0, .class_ 1109), (0, u "java/lang/Comparable"), (0, .class_ 1111), (0, u "java/lang/constant/Constable"), (0, .class_ 1113), (0, u "java/lang/constant/ConstantDesc"), (2, u "serialVersionUID"), (0, u "J"), (3, u "REPL"), (0, u "C"), (2, u "LATIN1"), (1, u "UTF16")] 323

def k11m0 : Method := { name := "<init>", desc := "()V", sig := { parameters := [], returnType := none }, accessFlags := 1, code := none }
/-- java/lang/String -/
def k11 : Class := { plain "java/lang/String" (some 0) with
  accessFlags := 49
  interfaces := #[6, 5, 9, 4, 10]
  cf := some (fileOf pool11 10 #[.nestMembers #[1103]] #[{ accessFlags := 1, nameIndex := 5, descriptorIndex := 6, attributes := #[] }] 49 2 #[1106, 1108, 575, 1110, 1112] #[{ accessFlags := 18, nameIndex := 13, descriptorIndex := 14, attributes := #[] }, { accessFlags := 18, nameIndex := 17, descriptorIndex := 18, attributes := #[] }, { accessFlags := 2, nameIndex := 21, descriptorIndex := 22, attributes := #[] }, { accessFlags := 2, nameIndex := 25, descriptorIndex := 26, attributes := #[] }, { accessFlags := 26, nameIndex := 1116, descriptorIndex := 1117, attributes := #[] }, { accessFlags := 24, nameIndex := 40, descriptorIndex := 26, attributes := #[] }, { accessFlags := 26, nameIndex := 1101, descriptorIndex := 1102, attributes := #[] }, { accessFlags := 26, nameIndex := 1121, descriptorIndex := 1122, attributes := #[] }, { accessFlags := 25, nameIndex := 599, descriptorIndex := 600, attributes := #[] }, { accessFlags := 24, nameIndex := 1125, descriptorIndex := 18, attributes := #[] }, { accessFlags := 24, nameIndex := 1127, descriptorIndex := 18, attributes := #[] }])
  fields := #[{ name := "value", type := (.array .byte), accessFlags := 18, slot := 0, constantValue := 0 }, { name := "coder", type := .byte, accessFlags := 18, slot := 1, constantValue := 0 }, { name := "hash", type := .int, accessFlags := 2, slot := 2, constantValue := 0 }, { name := "hashIsZero", type := .boolean, accessFlags := 2, slot := 3, constantValue := 0 }, { name := "serialVersionUID", type := .long, accessFlags := 26, slot := 0, constantValue := 0 }, { name := "COMPACT_STRINGS", type := .boolean, accessFlags := 24, slot := 1, constantValue := 0 }, { name := "serialPersistentFields", type := (.array (.object "java/io/ObjectStreamField")), accessFlags := 26, slot := 2, constantValue := 0 }, { name := "REPL", type := .char, accessFlags := 26, slot := 3, constantValue := 0 }, { name := "CASE_INSENSITIVE_ORDER", type := (.object "java/util/Comparator"), accessFlags := 25, slot := 4, constantValue := 0 }, { name := "LATIN1", type := .byte, accessFlags := 24, slot := 5, constantValue := 0 }, { name := "UTF16", type := .byte, accessFlags := 24, slot := 6, constantValue := 0 }]
  methods := #[k11m0]
  instanceTypes := #[(.array .byte), .byte, .int, .boolean]
  staticTypes := #[.long, .boolean, (.array (.object "java/io/ObjectStreamField")), .char, (.object "java/util/Comparator"), .byte, .byte]
  resolved := Array.replicate 1451 none
  statics := none }

def pool12 : Array CpInfo := pool [(2, .class_ 4), (1, u "java/lang/Object"), (0, u "<init>"), (0, u "()V"), (35, .class_ 44), (1, u "java/util/Objects"), (0, u "requireNonNull"), (48, u "(Ljava/lang/Object;Ljava/lang/String;)Ljava/lang/Object;")] 89

def k12m0 : Method := { name := "<init>", desc := "()V", sig := { parameters := [], returnType := none }, accessFlags := 2, code := none }
def k12c1 : Code := { maxStack := 3, maxLocals := 2, code := jdk_31_method_11_code, exceptionTable := #[], attributes := #[] }
def k12m1 : Method := { name := "requireNonNull", desc := "(Ljava/lang/Object;Ljava/lang/String;)Ljava/lang/Object;", sig := { parameters := [(.object "java/lang/Object"), (.object "java/lang/String")], returnType := some (.object "java/lang/Object") }, accessFlags := 9, code := some k12c1 }
/-- java/util/Objects -/
def k12 : Class := { plain "java/util/Objects" (some 0) with
  accessFlags := 49
  interfaces := #[]
  cf := some (fileOf pool12 42 #[] #[{ accessFlags := 2, nameIndex := 5, descriptorIndex := 6, attributes := #[] }, { accessFlags := 9, nameIndex := 45, descriptorIndex := 94, attributes := #[] }] 49 2 #[] #[])
  fields := #[]
  methods := #[k12m0, k12m1]
  instanceTypes := #[]
  staticTypes := #[]
  resolved := Array.replicate 184 none
  statics := none }

def pool13 : Array CpInfo := pool [(1, .methodref 2 3), (0, .class_ 4), (0, .nameAndType 5 6), (0, u "java/lang/Object"), (0, u "<init>"), (0, u "()V"), (2, .long 9223372036854775808), (1, .fieldref 12 13), (0, .class_ 14), (0, .nameAndType 15 16), (0, u "com/example/intrvl/intrvl/fixedwindow/FixedWindow"), (0, u "window"), (0, u "J"), (0, .methodref 18 19), (0, .class_ 20), (0, .nameAndType 21 22), (0, u "com/example/intrvl/intrvl/limit/RateLimiterConfig"), (0, u "timeWindowMillis"), (0, u "()J"), (0, .methodref 24 25), (0, .class_ 26), (0, .nameAndType 27 28), (0, u "java/lang/Math"), (0, u "floorDiv"), (0, u "(JJ)J"), (0, .fieldref 12 30), (0, .nameAndType 31 32), (0, u "admitted"), (0, u "I"), (0, .methodref 18 34), (0, .nameAndType 35 36), (0, u "maxRequests"), (0, u "()I"), (2, u "hasRoom"), (0, u "(JLcom/example/intrvl/intrvl/limit/RateLimiterConfig;)Z"), (1, u "isEmpty"), (0, u "count")] 2

def k13c0 : Code := { maxStack := 3, maxLocals := 1, code := prog_3_method_1_code, exceptionTable := #[], attributes := #[] }
def k13m0 : Method := { name := "<init>", desc := "()V", sig := { parameters := [], returnType := none }, accessFlags := 0, code := some k13c0 }
def k13c1 : Code := { maxStack := 4, maxLocals := 6, code := prog_3_method_2_code, exceptionTable := #[], attributes := #[] }
def k13m1 : Method := { name := "hasRoom", desc := "(JLcom/example/intrvl/intrvl/limit/RateLimiterConfig;)Z", sig := { parameters := [.long, (.object "com/example/intrvl/intrvl/limit/RateLimiterConfig")], returnType := some .boolean }, accessFlags := 0, code := some k13c1 }
def k13c2 : Code := { maxStack := 4, maxLocals := 4, code := prog_3_method_3_code, exceptionTable := #[], attributes := #[] }
def k13m2 : Method := { name := "isEmpty", desc := "(JLcom/example/intrvl/intrvl/limit/RateLimiterConfig;)Z", sig := { parameters := [.long, (.object "com/example/intrvl/intrvl/limit/RateLimiterConfig")], returnType := some .boolean }, accessFlags := 0, code := some k13c2 }
def k13c3 : Code := { maxStack := 3, maxLocals := 1, code := prog_3_method_4_code, exceptionTable := #[], attributes := #[] }
def k13m3 : Method := { name := "count", desc := "()V", sig := { parameters := [], returnType := none }, accessFlags := 0, code := some k13c3 }
/-- com/example/intrvl/intrvl/fixedwindow/FixedWindow -/
def k13 : Class := { plain "com/example/intrvl/intrvl/fixedwindow/FixedWindow" (some 0) with
  accessFlags := 48
  interfaces := #[]
  cf := some (fileOf pool13 12 #[] #[{ accessFlags := 0, nameIndex := 5, descriptorIndex := 6, attributes := #[] }, { accessFlags := 0, nameIndex := 39, descriptorIndex := 40, attributes := #[] }, { accessFlags := 0, nameIndex := 42, descriptorIndex := 40, attributes := #[] }, { accessFlags := 0, nameIndex := 43, descriptorIndex := 6, attributes := #[] }] 48 2 #[] #[{ accessFlags := 2, nameIndex := 15, descriptorIndex := 16, attributes := #[] }, { accessFlags := 2, nameIndex := 31, descriptorIndex := 32, attributes := #[] }])
  fields := #[{ name := "window", type := .long, accessFlags := 2, slot := 0, constantValue := 0 }, { name := "admitted", type := .int, accessFlags := 2, slot := 1, constantValue := 0 }]
  methods := #[k13m0, k13m1, k13m2, k13m3]
  instanceTypes := #[.long, .int]
  staticTypes := #[]
  resolved := Array.replicate 46 none
  statics := none }

def pool14 : Array CpInfo := pool [(1, .class_ 2), (0, u "java/lang/Math"), (1, .class_ 6), (1, u "java/lang/Object"), (0, u "<init>"), (0, u "()V"), (89, .class_ 100), (1, u "java/lang/Math$RandomNumberGeneratorHolder"), (20, u "(JJ)J"), (23, u "floorDiv"), (26, u "negativeZeroFloatBits"), (0, u "J"), (2, u "negativeZeroDoubleBits"), (21, u "max"), (46, u "$assertionsDisabled"), (0, u "Z"), (91, u "twoToTheDoubleScaleDown"), (0, u "D"), (4, u "twoToTheDoubleScaleUp"), (9, u "E"), (3, u "PI"), (2, u "TAU"), (2, u "DEGREES_TO_RADIANS"), (0, u "RADIANS_TO_DEGREES")] 94

def k14m0 : Method := { name := "<init>", desc := "()V", sig := { parameters := [], returnType := none }, accessFlags := 2, code := none }
def k14c1 : Code := { maxStack := 4, maxLocals := 6, code := jdk_29_method_49_code, exceptionTable := #[], attributes := #[] }
def k14m1 : Method := { name := "floorDiv", desc := "(JJ)J", sig := { parameters := [.long, .long], returnType := some .long }, accessFlags := 9, code := some k14c1 }
def k14c2 : Code := { maxStack := 4, maxLocals := 4, code := jdk_29_method_66_code, exceptionTable := #[], attributes := #[] }
def k14m2 : Method := { name := "max", desc := "(JJ)J", sig := { parameters := [.long, .long], returnType := some .long }, accessFlags := 9, code := some k14c2 }
/-- java/lang/Math -/
def k14 : Class := { plain "java/lang/Math" (some 0) with
  accessFlags := 49
  interfaces := #[]
  cf := some (fileOf pool14 1 #[.nestMembers #[98]] #[{ accessFlags := 2, nameIndex := 7, descriptorIndex := 8, attributes := #[] }, { accessFlags := 9, nameIndex := 145, descriptorIndex := 121, attributes := #[] }, { accessFlags := 9, nameIndex := 198, descriptorIndex := 121, attributes := #[] }] 49 4 #[] #[{ accessFlags := 25, nameIndex := 354, descriptorIndex := 339, attributes := #[] }, { accessFlags := 25, nameIndex := 358, descriptorIndex := 339, attributes := #[] }, { accessFlags := 25, nameIndex := 361, descriptorIndex := 339, attributes := #[] }, { accessFlags := 26, nameIndex := 364, descriptorIndex := 339, attributes := #[] }, { accessFlags := 26, nameIndex := 365, descriptorIndex := 339, attributes := #[] }, { accessFlags := 26, nameIndex := 172, descriptorIndex := 173, attributes := #[] }, { accessFlags := 26, nameIndex := 176, descriptorIndex := 173, attributes := #[] }, { accessFlags := 8, nameIndex := 344, descriptorIndex := 339, attributes := #[] }, { accessFlags := 8, nameIndex := 338, descriptorIndex := 339, attributes := #[] }, { accessFlags := 4120, nameIndex := 245, descriptorIndex := 246, attributes := #[] }])
  fields := #[{ name := "E", type := .double, accessFlags := 25, slot := 0, constantValue := 0 }, { name := "PI", type := .double, accessFlags := 25, slot := 1, constantValue := 0 }, { name := "TAU", type := .double, accessFlags := 25, slot := 2, constantValue := 0 }, { name := "DEGREES_TO_RADIANS", type := .double, accessFlags := 26, slot := 3, constantValue := 0 }, { name := "RADIANS_TO_DEGREES", type := .double, accessFlags := 26, slot := 4, constantValue := 0 }, { name := "negativeZeroFloatBits", type := .long, accessFlags := 26, slot := 5, constantValue := 0 }, { name := "negativeZeroDoubleBits", type := .long, accessFlags := 26, slot := 6, constantValue := 0 }, { name := "twoToTheDoubleScaleUp", type := .double, accessFlags := 8, slot := 7, constantValue := 0 }, { name := "twoToTheDoubleScaleDown", type := .double, accessFlags := 8, slot := 8, constantValue := 0 }, { name := "$assertionsDisabled", type := .boolean, accessFlags := 4120, slot := 9, constantValue := 0 }]
  methods := #[k14m0, k14m1, k14m2]
  instanceTypes := #[]
  staticTypes := #[.double, .double, .double, .double, .double, .long, .long, .double, .double, .boolean]
  resolved := Array.replicate 460 none
  statics := none }

def pool15 : Array CpInfo := pool [(1, u "java/lang/Cloneable"), (0, .class_ 1), (0, u "java/lang/Object"), (0, .class_ 3)] 3

/-- java/lang/Cloneable -/
def k15 : Class := { plain "java/lang/Cloneable" (some 0) with
  accessFlags := 1537
  interfaces := #[]
  cf := some (fileOf pool15 2 #[] #[] 1537 4 #[] #[])
  fields := #[]
  methods := #[]
  instanceTypes := #[]
  staticTypes := #[]
  resolved := Array.replicate 8 none
  statics := none }

/-- the primitive byte -/
def k16 : Class := { plain "byte" none with kind := .primitive 'B', accessFlags := 0x411 }
/-- [B -/
def k17 : Class := { plain "[B" (some 0) with kind := .array 16 .byte, interfaces := #[15, 6], accessFlags := 1041 }

/-- the primitive int -/
def k18 : Class := { plain "int" none with kind := .primitive 'I', accessFlags := 0x411 }
/-- [I -/
def k19 : Class := { plain "[I" (some 0) with kind := .array 18 .int, interfaces := #[15, 6], accessFlags := 1041 }

def heap : Heap := #[{ cls := 8, slots := #[.null, .null, .ref 1, .null, .null, .null], vm := .statics 8 },
  { cls := 8, slots := #[.null, .int 2, .int 0, .null, .int 0], vm := .none }]
def classes : Array Class := #[k0, k1, k2, k3, k4, k5, k6, k7, k8, k9, k10, k11, k12, k13, k14, k15, k16, k17, k18, k19]
def interned : List (Array UInt16 × Addr) := []
def slotsUsed : Nat := 11
def theMethod : MethodId := ⟨1, 2⟩
def args0 : Array Value := #[.long 5, .long 7, .long 9, .int 1, .int 1]
def aboutOver (below : List Frame) : State where
  vm := { classes := classes, interned := interned.toArray }
  heap := heap
  slotsUsed := slotsUsed
  threads := #[{ frames := .invoking theMethod args0 :: below }]
def below0 : List Frame := [.native { method := ⟨0, 0⟩, args := #[] }]
def about1 : State := aboutOver below0
def p0 : Program := .bare "" "" ""
def e0 : Env := launch0.env 0 0 0
theorem w_frames : about1.frames = Frame.invoking theMethod args0 :: below0 := rfl
set_option maxRecDepth 65536 in
theorem w_args : argsFit about1.vm theMethod args0 = true := by decide +kernel
set_option maxRecDepth 65536 in
theorem w_heap : heapFits about1 = true := by decide +kernel
set_option maxRecDepth 65536 in
theorem w_runnable : about1.curStatus? = some .runnable := by decide +kernel
set_option maxRecDepth 65536 in
theorem w_alone : about1.alone = true := by decide +kernel
set_option maxRecDepth 65536 in
theorem w_named : about1.methodNamed? x = some theMethod := by decide +kernel
set_option maxRecDepth 65536 in
theorem w_hears : about1.hears theMethod below0 = true := by decide +kernel
set_option maxRecDepth 65536 in
theorem w_ripe : about1.ripe theMethod args0 below0 = true := by decide +kernel
theorem w_running : about1.status = .running := rfl
set_option maxRecDepth 65536 in
theorem w_room : about1.hasRoom e0.platform room_1 = true :=
  launch0.hasRoom_least _ room_1 (by decide +kernel) (by decide +kernel) (by decide +kernel) (by decide +kernel) (by decide +kernel) (by decide +kernel)
theorem allAtoms_all (ts : List Jvm.Cond) (a : Array Jvm.Value) (st : Jvm.State) : (allAtoms ts).before a st = ts.all (fun c => c.before a st) := by
  induction ts with
  | nil => rfl
  | cons c t ih =>
    show (Jvm.Cond.and c (allAtoms t)).before a st = _
    rw [Jvm.Cond.before_and, ih, List.all_cons]
def words1 : List Jvm.Cond := Jvm.Cond.code x code maxLocals ret :: tables_1
/-- a 'code' word, met by the world's own term for the bytes: nothing is compared byte by byte -/
theorem code_word {y : MethodName} {bytes : ByteArray} {mx : Nat} {rt : Option FieldType} {a : Array Value} {s : State} {m : MethodId} {meth : Method} {c : Code} (h1 : s.methodNamed? y = some m) (h2 : s.vm.method? m = some meth) (h3 : meth.code = some c) (h4 : c.code = bytes)
    (h5 : (c.maxLocals == mx && c.exceptionTable.isEmpty && decide (c.maxStack ≤ mostOperands) && decide (meth.sig.returnType = rt) && !meth.locks && decide (parseMethodDescriptor y.desc = some meth.sig)) = true) : (Jvm.Cond.code y bytes mx rt).before a s = true := by
  simp only [Bool.and_eq_true, beq_iff_eq, Bool.not_eq_true', decide_eq_true_eq] at h5
  obtain ⟨⟨⟨⟨⟨g1, g2⟩, g3⟩, g4⟩, g5⟩, g6⟩ := h5
  simp [Cond.before, Cond.holds, Cond.value, h1, h2, h3, h4, g1, g2, g3, g4, g5, g6]
def isCode : Jvm.Cond → Bool
  | .code _ _ _ _ => true
  | _ => false
theorem all_split {L : List Jvm.Cond} {P : Jvm.Cond → Bool} (h1 : L.all (fun c => isCode c || P c) = true) (h2 : ∀ c ∈ L.filter isCode, P c = true) : L.all P = true := by
  refine List.all_eq_true.mpr fun c hc => ?_
  have h := List.all_eq_true.mp h1 c hc
  rcases Bool.eq_false_or_eq_true (isCode c) with hi | hi
  · exact h2 c (List.mem_filter.mpr ⟨hc, hi⟩)
  · simpa [hi] using h
set_option maxRecDepth 65536 in
theorem w_c0 : (Jvm.Cond.code x code maxLocals ret).before args0 about1 = true := code_word (m := ⟨1, 2⟩) (meth := k1m2) (c := k1c2) (by decide +kernel) rfl rfl rfl (by decide +kernel)
set_option maxRecDepth 65536 in
theorem w_c1 : (Jvm.Cond.code ({ cls := "com/example/intrvl/intrvl/limit/RateLimiterConfig", name := "<init>", desc := "(IJLcom/example/intrvl/intrvl/limit/RateLimiterType;)V" } : Jvm.MethodName) prog_13_method_2_code (5 : Nat) (Option.none : Option Jvm.ClassFile.FieldType)).before args0 about1 = true := code_word (m := ⟨3, 1⟩) (meth := k3m1) (c := k3c1) (by decide +kernel) rfl rfl rfl (by decide +kernel)
set_option maxRecDepth 65536 in
theorem w_c2 : (Jvm.Cond.code ({ cls := "com/example/intrvl/intrvl/limit/RateLimiterConfig", name := "<init>", desc := "(IJLcom/example/intrvl/intrvl/limit/RateLimiterType;I)V" } : Jvm.MethodName) prog_13_method_1_code (6 : Nat) (Option.none : Option Jvm.ClassFile.FieldType)).before args0 about1 = true := code_word (m := ⟨3, 0⟩) (meth := k3m0) (c := k3c0) (by decide +kernel) rfl rfl rfl (by decide +kernel)
set_option maxRecDepth 65536 in
theorem w_c3 : (Jvm.Cond.code ({ cls := "java/lang/Record", name := "<init>", desc := "()V" } : Jvm.MethodName) jdk_30_method_1_code (1 : Nat) (Option.none : Option Jvm.ClassFile.FieldType)).before args0 about1 = true := code_word (m := ⟨2, 0⟩) (meth := k2m0) (c := k2c0) (by decide +kernel) rfl rfl rfl (by decide +kernel)
set_option maxRecDepth 65536 in
theorem w_c4 : (Jvm.Cond.code ({ cls := "java/lang/Object", name := "<init>", desc := "()V" } : Jvm.MethodName) object_method_1_code (1 : Nat) (Option.none : Option Jvm.ClassFile.FieldType)).before args0 about1 = true := code_word (m := ⟨0, 0⟩) (meth := k0m0) (c := k0c0) (by decide +kernel) rfl rfl rfl (by decide +kernel)
set_option maxRecDepth 65536 in
theorem w_c5 : (Jvm.Cond.code ({ cls := "com/example/intrvl/intrvl/limit/RateLimiterConfig", name := "requirePositive", desc := "(Ljava/lang/String;J)V" } : Jvm.MethodName) prog_13_method_5_code (3 : Nat) (Option.none : Option Jvm.ClassFile.FieldType)).before args0 about1 = true := code_word (m := ⟨3, 2⟩) (meth := k3m2) (c := k3c2) (by decide +kernel) rfl rfl rfl (by decide +kernel)
set_option maxRecDepth 65536 in
theorem w_c6 : (Jvm.Cond.code ({ cls := "java/util/Objects", name := "requireNonNull", desc := "(Ljava/lang/Object;Ljava/lang/String;)Ljava/lang/Object;" } : Jvm.MethodName) jdk_31_method_11_code (2 : Nat) (Option.some (Jvm.ClassFile.FieldType.object "java/lang/Object"))).before args0 about1 = true := code_word (m := ⟨12, 1⟩) (meth := k12m1) (c := k12c1) (by decide +kernel) rfl rfl rfl (by decide +kernel)
set_option maxRecDepth 65536 in
theorem w_c7 : (Jvm.Cond.code ({ cls := "com/example/intrvl/intrvl/fixedwindow/FixedWindow", name := "<init>", desc := "()V" } : Jvm.MethodName) prog_3_method_1_code (1 : Nat) (Option.none : Option Jvm.ClassFile.FieldType)).before args0 about1 = true := code_word (m := ⟨13, 0⟩) (meth := k13m0) (c := k13c0) (by decide +kernel) rfl rfl rfl (by decide +kernel)
set_option maxRecDepth 65536 in
theorem w_c8 : (Jvm.Cond.code ({ cls := "com/example/intrvl/intrvl/fixedwindow/FixedWindow", name := "hasRoom", desc := "(JLcom/example/intrvl/intrvl/limit/RateLimiterConfig;)Z" } : Jvm.MethodName) prog_3_method_2_code (6 : Nat) (Option.some Jvm.ClassFile.FieldType.boolean)).before args0 about1 = true := code_word (m := ⟨13, 1⟩) (meth := k13m1) (c := k13c1) (by decide +kernel) rfl rfl rfl (by decide +kernel)
set_option maxRecDepth 65536 in
theorem w_c9 : (Jvm.Cond.code ({ cls := "com/example/intrvl/intrvl/limit/RateLimiterConfig", name := "timeWindowMillis", desc := "()J" } : Jvm.MethodName) prog_13_method_10_code (1 : Nat) (Option.some Jvm.ClassFile.FieldType.long)).before args0 about1 = true := code_word (m := ⟨3, 4⟩) (meth := k3m4) (c := k3c4) (by decide +kernel) rfl rfl rfl (by decide +kernel)
set_option maxRecDepth 65536 in
theorem w_c10 : (Jvm.Cond.code ({ cls := "java/lang/Math", name := "floorDiv", desc := "(JJ)J" } : Jvm.MethodName) jdk_29_method_49_code (6 : Nat) (Option.some Jvm.ClassFile.FieldType.long)).before args0 about1 = true := code_word (m := ⟨14, 1⟩) (meth := k14m1) (c := k14c1) (by decide +kernel) rfl rfl rfl (by decide +kernel)
set_option maxRecDepth 65536 in
theorem w_c11 : (Jvm.Cond.code ({ cls := "com/example/intrvl/intrvl/limit/RateLimiterConfig", name := "maxRequests", desc := "()I" } : Jvm.MethodName) prog_13_method_9_code (1 : Nat) (Option.some Jvm.ClassFile.FieldType.int)).before args0 about1 = true := code_word (m := ⟨3, 3⟩) (meth := k3m3) (c := k3c3) (by decide +kernel) rfl rfl rfl (by decide +kernel)
set_option maxRecDepth 65536 in
theorem w_c12 : (Jvm.Cond.code ({ cls := "com/example/intrvl/intrvl/fixedwindow/FixedWindow", name := "isEmpty", desc := "(JLcom/example/intrvl/intrvl/limit/RateLimiterConfig;)Z" } : Jvm.MethodName) prog_3_method_3_code (4 : Nat) (Option.some Jvm.ClassFile.FieldType.boolean)).before args0 about1 = true := code_word (m := ⟨13, 2⟩) (meth := k13m2) (c := k13c2) (by decide +kernel) rfl rfl rfl (by decide +kernel)
set_option maxRecDepth 65536 in
theorem w_c13 : (Jvm.Cond.code ({ cls := "java/lang/Math", name := "max", desc := "(JJ)J" } : Jvm.MethodName) jdk_29_method_66_code (4 : Nat) (Option.some Jvm.ClassFile.FieldType.long)).before args0 about1 = true := code_word (m := ⟨14, 2⟩) (meth := k14m2) (c := k14c2) (by decide +kernel) rfl rfl rfl (by decide +kernel)
set_option maxRecDepth 65536 in
theorem w_c14 : (Jvm.Cond.code ({ cls := "com/example/intrvl/intrvl/fixedwindow/FixedWindow", name := "count", desc := "()V" } : Jvm.MethodName) prog_3_method_4_code (1 : Nat) (Option.none : Option Jvm.ClassFile.FieldType)).before args0 about1 = true := code_word (m := ⟨13, 3⟩) (meth := k13m3) (c := k13c3) (by decide +kernel) rfl rfl rfl (by decide +kernel)
set_option maxRecDepth 65536 in
theorem w_c15 : (Jvm.Cond.code ({ cls := "com/example/intrvl/intrvl/fixedwindow/FixedWindowIsEmptyPinLaw", name := "floorWin", desc := "(JJ)J" } : Jvm.MethodName) method_2_code (6 : Nat) (Option.some Jvm.ClassFile.FieldType.long)).before args0 about1 = true := code_word (m := ⟨1, 1⟩) (meth := k1m1) (c := k1c1) (by decide +kernel) rfl rfl rfl (by decide +kernel)
def codes1 : List Jvm.Cond := [Jvm.Cond.code x code maxLocals ret, Jvm.Cond.code ({ cls := "com/example/intrvl/intrvl/limit/RateLimiterConfig", name := "<init>", desc := "(IJLcom/example/intrvl/intrvl/limit/RateLimiterType;)V" } : Jvm.MethodName) prog_13_method_2_code (5 : Nat) (Option.none : Option Jvm.ClassFile.FieldType), Jvm.Cond.code ({ cls := "com/example/intrvl/intrvl/limit/RateLimiterConfig", name := "<init>", desc := "(IJLcom/example/intrvl/intrvl/limit/RateLimiterType;I)V" } : Jvm.MethodName) prog_13_method_1_code (6 : Nat) (Option.none : Option Jvm.ClassFile.FieldType), Jvm.Cond.code ({ cls := "java/lang/Record", name := "<init>", desc := "()V" } : Jvm.MethodName) jdk_30_method_1_code (1 : Nat) (Option.none : Option Jvm.ClassFile.FieldType), Jvm.Cond.code ({ cls := "java/lang/Object", name := "<init>", desc := "()V" } : Jvm.MethodName) object_method_1_code (1 : Nat) (Option.none : Option Jvm.ClassFile.FieldType), Jvm.Cond.code ({ cls := "com/example/intrvl/intrvl/limit/RateLimiterConfig", name := "requirePositive", desc := "(Ljava/lang/String;J)V" } : Jvm.MethodName) prog_13_method_5_code (3 : Nat) (Option.none : Option Jvm.ClassFile.FieldType), Jvm.Cond.code ({ cls := "java/util/Objects", name := "requireNonNull", desc := "(Ljava/lang/Object;Ljava/lang/String;)Ljava/lang/Object;" } : Jvm.MethodName) jdk_31_method_11_code (2 : Nat) (Option.some (Jvm.ClassFile.FieldType.object "java/lang/Object")), Jvm.Cond.code ({ cls := "com/example/intrvl/intrvl/fixedwindow/FixedWindow", name := "<init>", desc := "()V" } : Jvm.MethodName) prog_3_method_1_code (1 : Nat) (Option.none : Option Jvm.ClassFile.FieldType), Jvm.Cond.code ({ cls := "com/example/intrvl/intrvl/fixedwindow/FixedWindow", name := "hasRoom", desc := "(JLcom/example/intrvl/intrvl/limit/RateLimiterConfig;)Z" } : Jvm.MethodName) prog_3_method_2_code (6 : Nat) (Option.some Jvm.ClassFile.FieldType.boolean), Jvm.Cond.code ({ cls := "com/example/intrvl/intrvl/limit/RateLimiterConfig", name := "timeWindowMillis", desc := "()J" } : Jvm.MethodName) prog_13_method_10_code (1 : Nat) (Option.some Jvm.ClassFile.FieldType.long), Jvm.Cond.code ({ cls := "java/lang/Math", name := "floorDiv", desc := "(JJ)J" } : Jvm.MethodName) jdk_29_method_49_code (6 : Nat) (Option.some Jvm.ClassFile.FieldType.long), Jvm.Cond.code ({ cls := "com/example/intrvl/intrvl/limit/RateLimiterConfig", name := "maxRequests", desc := "()I" } : Jvm.MethodName) prog_13_method_9_code (1 : Nat) (Option.some Jvm.ClassFile.FieldType.int), Jvm.Cond.code ({ cls := "com/example/intrvl/intrvl/fixedwindow/FixedWindow", name := "isEmpty", desc := "(JLcom/example/intrvl/intrvl/limit/RateLimiterConfig;)Z" } : Jvm.MethodName) prog_3_method_3_code (4 : Nat) (Option.some Jvm.ClassFile.FieldType.boolean), Jvm.Cond.code ({ cls := "java/lang/Math", name := "max", desc := "(JJ)J" } : Jvm.MethodName) jdk_29_method_66_code (4 : Nat) (Option.some Jvm.ClassFile.FieldType.long), Jvm.Cond.code ({ cls := "com/example/intrvl/intrvl/fixedwindow/FixedWindow", name := "count", desc := "()V" } : Jvm.MethodName) prog_3_method_4_code (1 : Nat) (Option.none : Option Jvm.ClassFile.FieldType), Jvm.Cond.code ({ cls := "com/example/intrvl/intrvl/fixedwindow/FixedWindowIsEmptyPinLaw", name := "floorWin", desc := "(JJ)J" } : Jvm.MethodName) method_2_code (6 : Nat) (Option.some Jvm.ClassFile.FieldType.long)]
set_option maxRecDepth 65536 in
theorem codes_eq : words1.filter isCode = codes1 := rfl
theorem w_codes : ∀ c ∈ words1.filter isCode, c.before args0 about1 = true := by
  rw [codes_eq]
  intro c hc
  simp only [codes1, List.mem_cons, List.not_mem_nil, or_false] at hc
  rcases hc with rfl | rfl | rfl | rfl | rfl | rfl | rfl | rfl | rfl | rfl | rfl | rfl | rfl | rfl | rfl | rfl
  · exact w_c0
  · exact w_c1
  · exact w_c2
  · exact w_c3
  · exact w_c4
  · exact w_c5
  · exact w_c6
  · exact w_c7
  · exact w_c8
  · exact w_c9
  · exact w_c10
  · exact w_c11
  · exact w_c12
  · exact w_c13
  · exact w_c14
  · exact w_c15
set_option maxRecDepth 65536 in
theorem w_t1 : (words1.take 24).all (fun c => isCode c || c.before args0 about1) = true := by decide +kernel
set_option maxRecDepth 65536 in
theorem w_t2 : ((words1.drop 24).take 24).all (fun c => isCode c || c.before args0 about1) = true := by decide +kernel
set_option maxRecDepth 65536 in
theorem w_t3 : (((words1.drop 24).drop 24).take 24).all (fun c => isCode c || c.before args0 about1) = true := by decide +kernel
set_option maxRecDepth 65536 in
theorem w_t4 : ((((words1.drop 24).drop 24).drop 24).take 24).all (fun c => isCode c || c.before args0 about1) = true := by decide +kernel
set_option maxRecDepth 65536 in
theorem w_t5 : ((((words1.drop 24).drop 24).drop 24).drop 24).all (fun c => isCode c || c.before args0 about1) = true := by decide +kernel
theorem w_tables : (allAtoms (Jvm.Cond.code x code maxLocals ret :: tables_1)).before args0 about1 = true := by
  rw [allAtoms_all]
  show words1.all (fun c => c.before args0 about1) = true
  refine all_split ?_ w_codes
  rw [← List.take_append_drop 24 words1, List.all_append, w_t1, ← List.take_append_drop 24 (words1.drop 24), List.all_append, w_t2, ← List.take_append_drop 24 ((words1.drop 24).drop 24), List.all_append, w_t3, ← List.take_append_drop 24 (((words1.drop 24).drop 24).drop 24), List.all_append, w_t4, w_t5]
  rfl
set_option maxRecDepth 65536 in
theorem w_case : (Jvm.Cond.and given_1 narrow_1).before args0 about1 = true := by decide +kernel
theorem w_applies : (headSpec (Jvm.Cond.code x code maxLocals ret :: tables_1) room_1).applies x e0.platform about1 = true :=
  (Spec.applies_iff w_frames).mpr ⟨w_running, w_runnable, w_alone, w_named, w_hears, w_ripe, w_room, w_tables⟩
theorem atStart : AtStart classFile x code maxLocals ret World_1 tables_1 room_1 Calls_1 rest_1 Pre_1 launch0 p0 e0 about1 theMethod args0 below0 :=
  ⟨lists_1, trivial, launch0.admits_env _ _ _, launch0.least_env, fairChoices_fair.cas, fairChoices_fair.clock, w_frames, w_args, w_heap, w_applies, trivial, trivial, w_case⟩
end start1
theorem witness_1 : WitnessClaimed_1 := ⟨start1.p0, start1.e0, start1.about1, start1.theMethod, start1.args0, start1.below0, start1.atStart⟩
end Jvm.Pilot.@@N@@
