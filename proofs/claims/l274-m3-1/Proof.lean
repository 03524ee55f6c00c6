import JvmDerived
import JvmDerived.Pilot.@@N@@Statement
import JvmDerived.Pilot.@@N@@Code
set_option linter.unusedVariables false
set_option linter.unusedSimpArgs false
namespace Jvm.Pilot.@@N@@
open Jvm Jvm.ClassFile Sem Op Lib Jvm.Free Jvm.Stand Jvm.LawKit Jvm.RoadKit Bundle Jvm.Pilot.@@N@@.Jvm.D
/-- what is reached from S1 is reached from S0 -/
abbrev own_K (tb : Tables) (e : Env) (below : List Frame) (S0 S1 : State) : Prop := ∀ t, Steps tb e below S1 t → Steps tb e below S0 t
section Own
variable {p : Program} {l : Launch} {e : Env} {R : Room} {s : State} {m : MethodId} {args : Array Value} {below : List Frame} {meth : Method} {c : Code} {T : State} {locs : List Loc} {cells slots : Nat} {Z : State} {h h' : Heap}
theorem own_lremM {g : JFrame} {target : State} (X : Stand p l e R s m args below meth c T locs cells slots) (hx : p.tables.exec = Jvm.exec) (hg : g.method = m) {x y : Int64} {rest : List Value} (hd : decode c.code g.pc = .ok (.lrem, 1)) (hs : g.stack = .long y :: .long x :: rest) (hy : y ≠ 0)
    (hr : Steps p.tables e below (T.setTop { g with pc := g.pc + 1, stack := .long (x % y) :: rest }) target) : Steps p.tables e below (T.setTop g) target := by
  have q : x - x / y * y = x % y := lrem_mod x y
  exact XS.lrem X.here hx hg hd hs hy (by rw [q]; exact hr)
/-- a static field rides over a write to cells that hold no statics -/
theorem own_staKeep {C n d : String} {w : Value} {ws : List Addr} (F : Sta Z h C n d w) (K : Keep h h' ws) (q : ∀ x ∈ ws, ∀ cell : Cell, h[x]? = some cell → cell.vm.isStatics = false) : Sta Z h' C n d w := by
  obtain ⟨cf, i, k, f, st, cell, h1, h2, h3, h4, h5, h6, h7⟩ := F
  refine ⟨cf, i, k, f, st, cell, h1, h2, h3, h4, K.2.1 st cell h5 (fun hm => ?_), h6, h7⟩
  rw [q st hm cell h5] at h6; cases h6
theorem own_exaNo {a : Addr} {C : String} (E : Exa Z h a C) : ∀ cell : Cell, h[a]? = some cell → cell.vm.isStatics = false := fun cell q => by
  obtain ⟨c1, _, h1, -, -, h4, -⟩ := E
  cases h1.symm.trans q; exact h4
theorem own_selPriv {y : MethodName} {n : Nat} (wi : (Jvm.Cond.instantiable y.cls n).before args s = true) (wp : s.PrivateAt y) (hinst : (Jvm.Cond.instanceMethod y).before args s = true) (hy : y.cls ≠ "java/lang/invoke/MethodHandle" ∧ y.cls ≠ "java/lang/invoke/VarHandle") : (Jvm.Cond.selects y.cls y y).before args s = true := by
  obtain ⟨c, k, h1, h2, -, h4, -⟩ := Cond.instantiable_spec wi
  exact selects_self_of_private h1 h2 (Bool.or_eq_false_iff.mp h4).1 wp hinst hy
/-- a static that holds an object exactly of a class, out of the case's words -/
theorem own_stat {C n d D : String} (hx : (Jvm.Cond.exactly (.static C n d) D).value args Z none Z [] = some true) (w1 : (Jvm.Cond.initialized C).before args Z = true) (w2 : (Jvm.Cond.laysStatic C n d).before args Z = true) :
    ∃ a, Sta Z Z.heap C n d (.ref a) ∧ Exa Z Z.heap a D ∧ (Term.static C n d).eval args Z none [] Z = some (.ref a) := by
  obtain ⟨a, ev⟩ := exa_v hx
  exact ⟨a, Sta.start ev (Or.inr ⟨w1, w2⟩), Exa.start ev hx, ev⟩
theorem own_fldI {t : Term} {a : Addr} {O n d : String} {k : Int32} (ev : t.eval args Z none [] Z = some (.ref a)) (hq : (Jvm.Cond.eq (.field t O n d) (.int k)).value args Z none Z [] = some true) : Fld Z Z.heap a O n d (.int k) := by
  have q := Cond.eq_int (Cond.before_iff.mpr hq) rfl
  rw [fld_at ev] at q
  exact Fld.start q
theorem own_fldJ {t : Term} {a : Addr} {O n d : String} {k : Int64} (ev : t.eval args Z none [] Z = some (.ref a)) (hq : (Jvm.Cond.eq (.field t O n d) (.long k)).value args Z none Z [] = some true) : Fld Z Z.heap a O n d (.long k) := by
  have q := Cond.eq_long (Cond.before_iff.mpr hq) rfl
  rw [fld_at ev] at q
  exact Fld.start q
end Own
theorem own_lt18 {n : Nat} (h : n < 18) : n = 0 ∨ n = 1 ∨ n = 2 ∨ n = 3 ∨ n = 4 ∨ n = 5 ∨ n = 6 ∨ n = 7 ∨ n = 8 ∨ n = 9 ∨ n = 10 ∨ n = 11 ∨ n = 12 ∨ n = 13 ∨ n = 14 ∨ n = 15 ∨ n = 16 ∨ n = 17 := by omega
theorem own_inj {Z : State} {h : Heap} {x : Addr} {n m : Nat} (hn : n < 1000) (hm : m < 1000) (F : Fld Z h x "java/lang/Enum" "ordinal" "I" (.int (Int32.ofNat n))) (G : Fld Z h x "java/lang/Enum" "ordinal" "I" (.int (Int32.ofNat m))) : n = m := by
  refine Decidable.byContradiction fun q => Fld.ne F G (fun e => q ?_) rfl
  have e1 : Int32.ofNat n = Int32.ofNat m := Value.int.inj e
  have e2 := congrArg Int32.toInt e1
  rw [Int32.toInt_ofNat_small (by omega), Int32.toInt_ofNat_small (by omega)] at e2
  omega
theorem own_rng (q : Int32) : ¬ ((q &&& (2147483647 : Int32)) % (18 : Int32)) < (0 : Int32) ∧ ((q &&& (2147483647 : Int32)) % (18 : Int32)) < (18 : Int32) := by
  have h1 := c_mask q 2147483647 31 (by decide) (by decide)
  have h2 := c_irem (q &&& 2147483647) 18 18 (by decide)
  have t0 : (0 : Int32).toInt = 0 := by decide
  have t1 : (18 : Int32).toInt = 18 := by decide
  rw [Int32.lt_iff_toInt_lt, Int32.lt_iff_toInt_lt]
  omega
def own_f (r : Addr) (a : Nat → Addr) : Int32 := if r = a 0 ∨ r = a 1 ∨ r = a 2 then 0 else 1
theorem own_f0 {a : Nat → Addr} {n : Nat} (h : n = 0 ∨ n = 1 ∨ n = 2) : own_f (a n) a = 0 := by
  unfold own_f
  rw [if_pos]
  rcases h with rfl | rfl | rfl <;> simp
theorem own_f1 {a : Nat → Addr} (DD : ∀ n m, n < 18 → m < 18 → a n = a m → n = m) {n : Nat} (hn : n < 18) (h : ¬ (n = 0 ∨ n = 1 ∨ n = 2)) : own_f (a n) a = 1 := by
  unfold own_f
  rw [if_neg]
  rintro (q | q | q)
  · have := DD _ _ hn (by omega) q
    omega
  · have := DD _ _ hn (by omega) q
    omega
  · have := DD _ _ hn (by omega) q
    omega
theorem own_at {kk : Int32} {n m : Nat} (h : kk.toInt = (n : Int)) (t : kk = Int32.ofNat m) (hm : m < 1000) : n = m := by
  rw [t, Int32.toInt_ofNat_small (by omega)] at h
  omega
theorem own_ne {kk : Int32} {n m : Nat} (h : kk.toInt = (n : Int)) (t : ¬ kk = Int32.ofNat m) (hm : m < 1000) : n ≠ m := fun q => t (Int32.toInt_inj.mp (by rw [Int32.toInt_ofNat_small (by omega)]; omega))
theorem own_pn0 : plainName "com/example/exact_labels/exactlabels/CharacterItemTypePinLaw" = true := by first | (simp [plainName, overriddenIn]; done) | decide +kernel
theorem own_d1_0 : decode method_2_code 0 = .ok (.iload_n 0, 1) := by decide +kernel
theorem own_d1_1 : decode method_2_code 1 = .ok (.ifCond .ne 7, 3) := by decide +kernel
theorem own_d1_4 : decode method_2_code 4 = .ok (.getstatic 7, 3) := by decide +kernel
theorem own_d1_7 : decode method_2_code 7 = .ok (.areturn, 1) := by decide +kernel
theorem own_d1_8 : decode method_2_code 8 = .ok (.iload_n 0, 1) := by decide +kernel
theorem own_d1_9 : decode method_2_code 9 = .ok (.iconst 1, 1) := by decide +kernel
theorem own_d1_10 : decode method_2_code 10 = .ok (.if_icmp .ne 7, 3) := by decide +kernel
theorem own_d1_13 : decode method_2_code 13 = .ok (.getstatic 13, 3) := by decide +kernel
theorem own_d1_16 : decode method_2_code 16 = .ok (.areturn, 1) := by decide +kernel
theorem own_d1_17 : decode method_2_code 17 = .ok (.iload_n 0, 1) := by decide +kernel
theorem own_d1_18 : decode method_2_code 18 = .ok (.iconst 2, 1) := by decide +kernel
theorem own_d1_19 : decode method_2_code 19 = .ok (.if_icmp .ne 7, 3) := by decide +kernel
theorem own_d1_22 : decode method_2_code 22 = .ok (.getstatic 16, 3) := by decide +kernel
theorem own_d1_25 : decode method_2_code 25 = .ok (.areturn, 1) := by decide +kernel
theorem own_d1_26 : decode method_2_code 26 = .ok (.iload_n 0, 1) := by decide +kernel
theorem own_d1_27 : decode method_2_code 27 = .ok (.iconst 3, 1) := by decide +kernel
theorem own_d1_28 : decode method_2_code 28 = .ok (.if_icmp .ne 7, 3) := by decide +kernel
theorem own_d1_31 : decode method_2_code 31 = .ok (.getstatic 19, 3) := by decide +kernel
theorem own_d1_34 : decode method_2_code 34 = .ok (.areturn, 1) := by decide +kernel
theorem own_d1_35 : decode method_2_code 35 = .ok (.iload_n 0, 1) := by decide +kernel
theorem own_d1_36 : decode method_2_code 36 = .ok (.iconst 4, 1) := by decide +kernel
theorem own_d1_37 : decode method_2_code 37 = .ok (.if_icmp .ne 7, 3) := by decide +kernel
theorem own_d1_40 : decode method_2_code 40 = .ok (.getstatic 22, 3) := by decide +kernel
theorem own_d1_43 : decode method_2_code 43 = .ok (.areturn, 1) := by decide +kernel
theorem own_d1_44 : decode method_2_code 44 = .ok (.iload_n 0, 1) := by decide +kernel
theorem own_d1_45 : decode method_2_code 45 = .ok (.iconst 5, 1) := by decide +kernel
theorem own_d1_46 : decode method_2_code 46 = .ok (.if_icmp .ne 7, 3) := by decide +kernel
theorem own_d1_49 : decode method_2_code 49 = .ok (.getstatic 25, 3) := by decide +kernel
theorem own_d1_52 : decode method_2_code 52 = .ok (.areturn, 1) := by decide +kernel
theorem own_d1_53 : decode method_2_code 53 = .ok (.iload_n 0, 1) := by decide +kernel
theorem own_d1_54 : decode method_2_code 54 = .ok (.bipush 6, 2) := by decide +kernel
theorem own_d1_56 : decode method_2_code 56 = .ok (.if_icmp .ne 7, 3) := by decide +kernel
theorem own_d1_59 : decode method_2_code 59 = .ok (.getstatic 28, 3) := by decide +kernel
theorem own_d1_62 : decode method_2_code 62 = .ok (.areturn, 1) := by decide +kernel
theorem own_d1_63 : decode method_2_code 63 = .ok (.iload_n 0, 1) := by decide +kernel
theorem own_d1_64 : decode method_2_code 64 = .ok (.bipush 7, 2) := by decide +kernel
theorem own_d1_66 : decode method_2_code 66 = .ok (.if_icmp .ne 7, 3) := by decide +kernel
theorem own_d1_69 : decode method_2_code 69 = .ok (.getstatic 31, 3) := by decide +kernel
theorem own_d1_72 : decode method_2_code 72 = .ok (.areturn, 1) := by decide +kernel
theorem own_d1_73 : decode method_2_code 73 = .ok (.iload_n 0, 1) := by decide +kernel
theorem own_d1_74 : decode method_2_code 74 = .ok (.bipush 8, 2) := by decide +kernel
theorem own_d1_76 : decode method_2_code 76 = .ok (.if_icmp .ne 7, 3) := by decide +kernel
theorem own_d1_79 : decode method_2_code 79 = .ok (.getstatic 34, 3) := by decide +kernel
theorem own_d1_82 : decode method_2_code 82 = .ok (.areturn, 1) := by decide +kernel
theorem own_d1_83 : decode method_2_code 83 = .ok (.iload_n 0, 1) := by decide +kernel
theorem own_d1_84 : decode method_2_code 84 = .ok (.bipush 9, 2) := by decide +kernel
theorem own_d1_86 : decode method_2_code 86 = .ok (.if_icmp .ne 7, 3) := by decide +kernel
theorem own_d1_89 : decode method_2_code 89 = .ok (.getstatic 37, 3) := by decide +kernel
theorem own_d1_92 : decode method_2_code 92 = .ok (.areturn, 1) := by decide +kernel
theorem own_d1_93 : decode method_2_code 93 = .ok (.iload_n 0, 1) := by decide +kernel
theorem own_d1_94 : decode method_2_code 94 = .ok (.bipush 10, 2) := by decide +kernel
theorem own_d1_96 : decode method_2_code 96 = .ok (.if_icmp .ne 7, 3) := by decide +kernel
theorem own_d1_99 : decode method_2_code 99 = .ok (.getstatic 40, 3) := by decide +kernel
theorem own_d1_102 : decode method_2_code 102 = .ok (.areturn, 1) := by decide +kernel
theorem own_d1_103 : decode method_2_code 103 = .ok (.iload_n 0, 1) := by decide +kernel
theorem own_d1_104 : decode method_2_code 104 = .ok (.bipush 11, 2) := by decide +kernel
theorem own_d1_106 : decode method_2_code 106 = .ok (.if_icmp .ne 7, 3) := by decide +kernel
theorem own_d1_109 : decode method_2_code 109 = .ok (.getstatic 43, 3) := by decide +kernel
theorem own_d1_112 : decode method_2_code 112 = .ok (.areturn, 1) := by decide +kernel
theorem own_d1_113 : decode method_2_code 113 = .ok (.iload_n 0, 1) := by decide +kernel
theorem own_d1_114 : decode method_2_code 114 = .ok (.bipush 12, 2) := by decide +kernel
theorem own_d1_116 : decode method_2_code 116 = .ok (.if_icmp .ne 7, 3) := by decide +kernel
theorem own_d1_119 : decode method_2_code 119 = .ok (.getstatic 46, 3) := by decide +kernel
theorem own_d1_122 : decode method_2_code 122 = .ok (.areturn, 1) := by decide +kernel
theorem own_d1_123 : decode method_2_code 123 = .ok (.iload_n 0, 1) := by decide +kernel
theorem own_d1_124 : decode method_2_code 124 = .ok (.bipush 13, 2) := by decide +kernel
theorem own_d1_126 : decode method_2_code 126 = .ok (.if_icmp .ne 7, 3) := by decide +kernel
theorem own_d1_129 : decode method_2_code 129 = .ok (.getstatic 49, 3) := by decide +kernel
theorem own_d1_132 : decode method_2_code 132 = .ok (.areturn, 1) := by decide +kernel
theorem own_d1_133 : decode method_2_code 133 = .ok (.iload_n 0, 1) := by decide +kernel
theorem own_d1_134 : decode method_2_code 134 = .ok (.bipush 14, 2) := by decide +kernel
theorem own_d1_136 : decode method_2_code 136 = .ok (.if_icmp .ne 7, 3) := by decide +kernel
theorem own_d1_139 : decode method_2_code 139 = .ok (.getstatic 52, 3) := by decide +kernel
theorem own_d1_142 : decode method_2_code 142 = .ok (.areturn, 1) := by decide +kernel
theorem own_d1_143 : decode method_2_code 143 = .ok (.iload_n 0, 1) := by decide +kernel
theorem own_d1_144 : decode method_2_code 144 = .ok (.bipush 15, 2) := by decide +kernel
theorem own_d1_146 : decode method_2_code 146 = .ok (.if_icmp .ne 7, 3) := by decide +kernel
theorem own_d1_149 : decode method_2_code 149 = .ok (.getstatic 55, 3) := by decide +kernel
theorem own_d1_152 : decode method_2_code 152 = .ok (.areturn, 1) := by decide +kernel
theorem own_d1_153 : decode method_2_code 153 = .ok (.iload_n 0, 1) := by decide +kernel
theorem own_d1_154 : decode method_2_code 154 = .ok (.bipush 16, 2) := by decide +kernel
theorem own_d1_156 : decode method_2_code 156 = .ok (.if_icmp .ne 7, 3) := by decide +kernel
theorem own_d1_159 : decode method_2_code 159 = .ok (.getstatic 58, 3) := by decide +kernel
theorem own_d1_162 : decode method_2_code 162 = .ok (.areturn, 1) := by decide +kernel
theorem own_d1_163 : decode method_2_code 163 = .ok (.getstatic 61, 3) := by decide +kernel
theorem own_d1_166 : decode method_2_code 166 = .ok (.areturn, 1) := by decide +kernel
theorem own_ef1 (m : MethodId) (y0 : Int32) : entryFrame m #[(.int y0)] 1 = mkF m 0 #[.val (.int y0)] [] := by first | (simp [entryFrame, mkF, argsToLocals, Value.category]; done) | rfl
def Q1 (Z : State) (kk : Int32) (nn : Nat) (a : Nat → Addr) (h0 : Heap) (n0 : Nat) (v : Option Value) (h : Heap) (L : List Loc) : Prop := v = some (.ref (a nn)) ∧ Fr n0 L ∧ h = h0
set_option maxRecDepth 65536 in
set_option maxHeartbeats 40000000 in
theorem rm1 (l : Launch) (Z : State) (a0 : Array Value) (hw : ∀ d ∈ tables_1, d.before a0 Z = true) (ws : List Jvm.Cond) (kk : Int32) (nn : Nat) (a : Nat → Addr) (h0 : Heap) (n0 : Nat) (S0 : Sta Z h0 "com/example/exact_labels/exactlabels/CharacterItem" "CHARACTER" "Lcom/example/exact_labels/exactlabels/CharacterItem;" (.ref (a 0))) (S1 : Sta Z h0 "com/example/exact_labels/exactlabels/CharacterItem" "NOT_CHARACTER" "Lcom/example/exact_labels/exactlabels/CharacterItem;" (.ref (a 1))) (S2 : Sta Z h0 "com/example/exact_labels/exactlabels/CharacterItem" "CLASS" "Lcom/example/exact_labels/exactlabels/CharacterItem;" (.ref (a 2))) (S3 : Sta Z h0 "com/example/exact_labels/exactlabels/CharacterItem" "DIGIT" "Lcom/example/exact_labels/exactlabels/CharacterItem;" (.ref (a 3))) (S4 : Sta Z h0 "com/example/exact_labels/exactlabels/CharacterItem" "NOT_DIGIT" "Lcom/example/exact_labels/exactlabels/CharacterItem;" (.ref (a 4))) (S5 : Sta Z h0 "com/example/exact_labels/exactlabels/CharacterItem" "SPACE" "Lcom/example/exact_labels/exactlabels/CharacterItem;" (.ref (a 5))) (S6 : Sta Z h0 "com/example/exact_labels/exactlabels/CharacterItem" "NOT_SPACE" "Lcom/example/exact_labels/exactlabels/CharacterItem;" (.ref (a 6))) (S7 : Sta Z h0 "com/example/exact_labels/exactlabels/CharacterItem" "WORD" "Lcom/example/exact_labels/exactlabels/CharacterItem;" (.ref (a 7))) (S8 : Sta Z h0 "com/example/exact_labels/exactlabels/CharacterItem" "NOT_WORD" "Lcom/example/exact_labels/exactlabels/CharacterItem;" (.ref (a 8))) (S9 : Sta Z h0 "com/example/exact_labels/exactlabels/CharacterItem" "HORIZONTAL" "Lcom/example/exact_labels/exactlabels/CharacterItem;" (.ref (a 9))) (S10 : Sta Z h0 "com/example/exact_labels/exactlabels/CharacterItem" "NOT_HORIZONTAL" "Lcom/example/exact_labels/exactlabels/CharacterItem;" (.ref (a 10))) (S11 : Sta Z h0 "com/example/exact_labels/exactlabels/CharacterItem" "VERTICAL" "Lcom/example/exact_labels/exactlabels/CharacterItem;" (.ref (a 11))) (S12 : Sta Z h0 "com/example/exact_labels/exactlabels/CharacterItem" "NOT_VERTICAL" "Lcom/example/exact_labels/exactlabels/CharacterItem;" (.ref (a 12))) (S13 : Sta Z h0 "com/example/exact_labels/exactlabels/CharacterItem" "NEWLINE" "Lcom/example/exact_labels/exactlabels/CharacterItem;" (.ref (a 13))) (S14 : Sta Z h0 "com/example/exact_labels/exactlabels/CharacterItem" "NOT_NEWLINE" "Lcom/example/exact_labels/exactlabels/CharacterItem;" (.ref (a 14))) (S15 : Sta Z h0 "com/example/exact_labels/exactlabels/CharacterItem" "ANY" "Lcom/example/exact_labels/exactlabels/CharacterItem;" (.ref (a 15))) (S16 : Sta Z h0 "com/example/exact_labels/exactlabels/CharacterItem" "BYTE" "Lcom/example/exact_labels/exactlabels/CharacterItem;" (.ref (a 16))) (S17 : Sta Z h0 "com/example/exact_labels/exactlabels/CharacterItem" "GRAPHEME" "Lcom/example/exact_labels/exactlabels/CharacterItem;" (.ref (a 17))) (hk : kk.toInt = (nn : Int)) (hn1 : nn < 18) :
    MetFree l (⟨"com/example/exact_labels/exactlabels/CharacterItemTypePinLaw", "pick", "(I)Lcom/example/exact_labels/exactlabels/CharacterItem;"⟩ : MethodName) (head1 (Jvm.Cond.code (⟨"com/example/exact_labels/exactlabels/CharacterItemTypePinLaw", "pick", "(I)Lcom/example/exact_labels/exactlabels/CharacterItem;"⟩ : MethodName) method_2_code 1 (some (.object "com/example/exact_labels/exactlabels/CharacterItem")) :: ws) ({ frames := 0, cells := 0, slots := 0, locals := 0 } : Room)) (fun a U => a = #[(.int kk)] ∧ Z.Warmed39 U.vm ∧ U.heap = h0) (fun _ _ _ _ _ => True) (fun _ U o U' => ∃ v L, o = .returned v ∧ Q1 Z kk nn a h0 n0 v U'.heap L ∧ FrameEnd U o U' L ({ frames := 0, cells := 0, slots := 0, locals := 0 } : Room).cells ({ frames := 0, cells := 0, slots := 0, locals := 0 } : Room).slots) := by
  refine MetFree.of_bodySF (plainFor_of_name own_pn0) hisR ?_
  intro p e s m args below meth c s₁ Bd hml0 hP hK
  obtain ⟨rfl, hZ, hh⟩ := hP
  have hx := Bd.exec
  have hby := Bd.bytes
  have hml : c.maxLocals = 1 := hml0
  have hown : s.vm.findClass "com/example/exact_labels/exactlabels/CharacterItemTypePinLaw" = some m.cls := findClass_of_methodNamed Bd.named
  have hnm := (name_of_methodNamed Bd.named Bd.method).1
  have X0 : Stand p l e ({ frames := 0, cells := 0, slots := 0, locals := 0 } : Room) s m #[(.int kk)] below meth c s₁ [] 0 0 := Stand.of_body Bd
  have e0 : s₁.heap = h0 := by rw [← hh, Bd.state]; rfl
  have N0 := Fr.nil n0
  have k : own_K p.tables e below (s₁.setTop (entryFrame m #[(.int kk)] 1)) (s₁.setTop (mkF m 0 #[.val (.int kk)] [])) := fun t h => castTop (own_ef1 m kk) h
  replace k : own_K p.tables e below (s₁.setTop (entryFrame m #[(.int kk)] 1)) (s₁.setTop (mkF m 1 #[.val (.int kk)] [(.int kk)])) := fun t h => k t (XS.iloadN X0.here hx rfl (hb hby own_d1_0) rfl h)
  by_cases cc1 : kk = (0 : Int32)
  · replace k : own_K p.tables e below (s₁.setTop (entryFrame m #[(.int kk)] 1)) (s₁.setTop (mkF m 4 #[.val (.int kk)] [])) := fun t h => k t (XS.ifNo X0.here hx rfl (hb hby own_d1_1) rfl ((if0 _ _).trans (teq cc1).2) h)
    obtain ⟨T2, X2, e2, st2⟩ := getS2 X0 hx hZ hown (host := "") (Or.inl (hw _ (List.mem_of_getElem? (i := 5) rfl))) Via.refl e0 S0 (g := (mkF m 4 #[.val (.int kk)] [])) rfl (hb hby own_d1_4)
    replace k : own_K p.tables e below (s₁.setTop (entryFrame m #[(.int kk)] 1)) (T2.setTop (mkF m 7 #[.val (.int kk)] [(.ref (a 0))])) := fun t h => k t (st2 _ h)
    obtain ⟨fs, hr, hrun, hended, hW, hsame⟩ := X2.leave (v := some (.ref (a 0))) (fun h => by rw [Bd.returns] at h; cases h)
    refine ⟨_, _, k _ (retOut X2 hx Bd.returns rfl (Or.inr (Or.inr (Or.inr (Or.inr ⟨rfl, rfl, rfl⟩)))) (hb hby own_d1_7) hr), hrun, hended, _, _, rfl, ?_, ⟨_, rfl⟩, hW, hsame.mono (by decide) (by decide)⟩
    show Q1 Z kk nn a h0 n0 _ T2.heap _
    rw [e2]
    exact ⟨(by rw [show nn = 0 from (own_at hk cc1 (by omega))]), N0, rfl⟩
  · replace k : own_K p.tables e below (s₁.setTop (entryFrame m #[(.int kk)] 1)) (s₁.setTop (mkF m 8 #[.val (.int kk)] [])) := fun t h => k t (XS.ifYes X0.here hx rfl (pc0 := 1) (pc' := 8) rfl (hb hby own_d1_1) rfl ((if0 _ _).trans (feq cc1).2) (by decide) (by decide) h)
    replace k : own_K p.tables e below (s₁.setTop (entryFrame m #[(.int kk)] 1)) (s₁.setTop (mkF m 9 #[.val (.int kk)] [(.int kk)])) := fun t h => k t (XS.iloadN X0.here hx rfl (hb hby own_d1_8) rfl h)
    replace k : own_K p.tables e below (s₁.setTop (entryFrame m #[(.int kk)] 1)) (s₁.setTop (mkF m 10 #[.val (.int kk)] [(.int (1 : Int32)), (.int kk)])) := fun t h => k t (XS.iconst X0.here hx rfl (hb hby own_d1_9) h)
    by_cases cc3 : kk = (1 : Int32)
    · replace k : own_K p.tables e below (s₁.setTop (entryFrame m #[(.int kk)] 1)) (s₁.setTop (mkF m 13 #[.val (.int kk)] [])) := fun t h => k t (XS.icmpNo X0.here hx rfl (hb hby own_d1_10) rfl (teq cc3).2 h)
      obtain ⟨T4, X4, e4, st4⟩ := getS2 X0 hx hZ hown (host := "") (Or.inl (hw _ (List.mem_of_getElem? (i := 21) rfl))) Via.refl e0 S1 (g := (mkF m 13 #[.val (.int kk)] [])) rfl (hb hby own_d1_13)
      replace k : own_K p.tables e below (s₁.setTop (entryFrame m #[(.int kk)] 1)) (T4.setTop (mkF m 16 #[.val (.int kk)] [(.ref (a 1))])) := fun t h => k t (st4 _ h)
      obtain ⟨fs, hr, hrun, hended, hW, hsame⟩ := X4.leave (v := some (.ref (a 1))) (fun h => by rw [Bd.returns] at h; cases h)
      refine ⟨_, _, k _ (retOut X4 hx Bd.returns rfl (Or.inr (Or.inr (Or.inr (Or.inr ⟨rfl, rfl, rfl⟩)))) (hb hby own_d1_16) hr), hrun, hended, _, _, rfl, ?_, ⟨_, rfl⟩, hW, hsame.mono (by decide) (by decide)⟩
      show Q1 Z kk nn a h0 n0 _ T4.heap _
      rw [e4]
      exact ⟨(by rw [show nn = 1 from (own_at hk cc3 (by omega))]), N0, rfl⟩
    · replace k : own_K p.tables e below (s₁.setTop (entryFrame m #[(.int kk)] 1)) (s₁.setTop (mkF m 17 #[.val (.int kk)] [])) := fun t h => k t (XS.icmpYes X0.here hx rfl (pc0 := 10) (pc' := 17) rfl (hb hby own_d1_10) rfl (feq cc3).2 (by decide) (by decide) h)
      replace k : own_K p.tables e below (s₁.setTop (entryFrame m #[(.int kk)] 1)) (s₁.setTop (mkF m 18 #[.val (.int kk)] [(.int kk)])) := fun t h => k t (XS.iloadN X0.here hx rfl (hb hby own_d1_17) rfl h)
      replace k : own_K p.tables e below (s₁.setTop (entryFrame m #[(.int kk)] 1)) (s₁.setTop (mkF m 19 #[.val (.int kk)] [(.int (2 : Int32)), (.int kk)])) := fun t h => k t (XS.iconst X0.here hx rfl (hb hby own_d1_18) h)
      by_cases cc5 : kk = (2 : Int32)
      · replace k : own_K p.tables e below (s₁.setTop (entryFrame m #[(.int kk)] 1)) (s₁.setTop (mkF m 22 #[.val (.int kk)] [])) := fun t h => k t (XS.icmpNo X0.here hx rfl (hb hby own_d1_19) rfl (teq cc5).2 h)
        obtain ⟨T6, X6, e6, st6⟩ := getS2 X0 hx hZ hown (host := "") (Or.inl (hw _ (List.mem_of_getElem? (i := 20) rfl))) Via.refl e0 S2 (g := (mkF m 22 #[.val (.int kk)] [])) rfl (hb hby own_d1_22)
        replace k : own_K p.tables e below (s₁.setTop (entryFrame m #[(.int kk)] 1)) (T6.setTop (mkF m 25 #[.val (.int kk)] [(.ref (a 2))])) := fun t h => k t (st6 _ h)
        obtain ⟨fs, hr, hrun, hended, hW, hsame⟩ := X6.leave (v := some (.ref (a 2))) (fun h => by rw [Bd.returns] at h; cases h)
        refine ⟨_, _, k _ (retOut X6 hx Bd.returns rfl (Or.inr (Or.inr (Or.inr (Or.inr ⟨rfl, rfl, rfl⟩)))) (hb hby own_d1_25) hr), hrun, hended, _, _, rfl, ?_, ⟨_, rfl⟩, hW, hsame.mono (by decide) (by decide)⟩
        show Q1 Z kk nn a h0 n0 _ T6.heap _
        rw [e6]
        exact ⟨(by rw [show nn = 2 from (own_at hk cc5 (by omega))]), N0, rfl⟩
      · replace k : own_K p.tables e below (s₁.setTop (entryFrame m #[(.int kk)] 1)) (s₁.setTop (mkF m 26 #[.val (.int kk)] [])) := fun t h => k t (XS.icmpYes X0.here hx rfl (pc0 := 19) (pc' := 26) rfl (hb hby own_d1_19) rfl (feq cc5).2 (by decide) (by decide) h)
        replace k : own_K p.tables e below (s₁.setTop (entryFrame m #[(.int kk)] 1)) (s₁.setTop (mkF m 27 #[.val (.int kk)] [(.int kk)])) := fun t h => k t (XS.iloadN X0.here hx rfl (hb hby own_d1_26) rfl h)
        replace k : own_K p.tables e below (s₁.setTop (entryFrame m #[(.int kk)] 1)) (s₁.setTop (mkF m 28 #[.val (.int kk)] [(.int (3 : Int32)), (.int kk)])) := fun t h => k t (XS.iconst X0.here hx rfl (hb hby own_d1_27) h)
        by_cases cc7 : kk = (3 : Int32)
        · replace k : own_K p.tables e below (s₁.setTop (entryFrame m #[(.int kk)] 1)) (s₁.setTop (mkF m 31 #[.val (.int kk)] [])) := fun t h => k t (XS.icmpNo X0.here hx rfl (hb hby own_d1_28) rfl (teq cc7).2 h)
          obtain ⟨T8, X8, e8, st8⟩ := getS2 X0 hx hZ hown (host := "") (Or.inl (hw _ (List.mem_of_getElem? (i := 14) rfl))) Via.refl e0 S3 (g := (mkF m 31 #[.val (.int kk)] [])) rfl (hb hby own_d1_31)
          replace k : own_K p.tables e below (s₁.setTop (entryFrame m #[(.int kk)] 1)) (T8.setTop (mkF m 34 #[.val (.int kk)] [(.ref (a 3))])) := fun t h => k t (st8 _ h)
          obtain ⟨fs, hr, hrun, hended, hW, hsame⟩ := X8.leave (v := some (.ref (a 3))) (fun h => by rw [Bd.returns] at h; cases h)
          refine ⟨_, _, k _ (retOut X8 hx Bd.returns rfl (Or.inr (Or.inr (Or.inr (Or.inr ⟨rfl, rfl, rfl⟩)))) (hb hby own_d1_34) hr), hrun, hended, _, _, rfl, ?_, ⟨_, rfl⟩, hW, hsame.mono (by decide) (by decide)⟩
          show Q1 Z kk nn a h0 n0 _ T8.heap _
          rw [e8]
          exact ⟨(by rw [show nn = 3 from (own_at hk cc7 (by omega))]), N0, rfl⟩
        · replace k : own_K p.tables e below (s₁.setTop (entryFrame m #[(.int kk)] 1)) (s₁.setTop (mkF m 35 #[.val (.int kk)] [])) := fun t h => k t (XS.icmpYes X0.here hx rfl (pc0 := 28) (pc' := 35) rfl (hb hby own_d1_28) rfl (feq cc7).2 (by decide) (by decide) h)
          replace k : own_K p.tables e below (s₁.setTop (entryFrame m #[(.int kk)] 1)) (s₁.setTop (mkF m 36 #[.val (.int kk)] [(.int kk)])) := fun t h => k t (XS.iloadN X0.here hx rfl (hb hby own_d1_35) rfl h)
          replace k : own_K p.tables e below (s₁.setTop (entryFrame m #[(.int kk)] 1)) (s₁.setTop (mkF m 37 #[.val (.int kk)] [(.int (4 : Int32)), (.int kk)])) := fun t h => k t (XS.iconst X0.here hx rfl (hb hby own_d1_36) h)
          by_cases cc9 : kk = (4 : Int32)
          · replace k : own_K p.tables e below (s₁.setTop (entryFrame m #[(.int kk)] 1)) (s₁.setTop (mkF m 40 #[.val (.int kk)] [])) := fun t h => k t (XS.icmpNo X0.here hx rfl (hb hby own_d1_37) rfl (teq cc9).2 h)
            obtain ⟨T10, X10, e10, st10⟩ := getS2 X0 hx hZ hown (host := "") (Or.inl (hw _ (List.mem_of_getElem? (i := 26) rfl))) Via.refl e0 S4 (g := (mkF m 40 #[.val (.int kk)] [])) rfl (hb hby own_d1_40)
            replace k : own_K p.tables e below (s₁.setTop (entryFrame m #[(.int kk)] 1)) (T10.setTop (mkF m 43 #[.val (.int kk)] [(.ref (a 4))])) := fun t h => k t (st10 _ h)
            obtain ⟨fs, hr, hrun, hended, hW, hsame⟩ := X10.leave (v := some (.ref (a 4))) (fun h => by rw [Bd.returns] at h; cases h)
            refine ⟨_, _, k _ (retOut X10 hx Bd.returns rfl (Or.inr (Or.inr (Or.inr (Or.inr ⟨rfl, rfl, rfl⟩)))) (hb hby own_d1_43) hr), hrun, hended, _, _, rfl, ?_, ⟨_, rfl⟩, hW, hsame.mono (by decide) (by decide)⟩
            show Q1 Z kk nn a h0 n0 _ T10.heap _
            rw [e10]
            exact ⟨(by rw [show nn = 4 from (own_at hk cc9 (by omega))]), N0, rfl⟩
          · replace k : own_K p.tables e below (s₁.setTop (entryFrame m #[(.int kk)] 1)) (s₁.setTop (mkF m 44 #[.val (.int kk)] [])) := fun t h => k t (XS.icmpYes X0.here hx rfl (pc0 := 37) (pc' := 44) rfl (hb hby own_d1_37) rfl (feq cc9).2 (by decide) (by decide) h)
            replace k : own_K p.tables e below (s₁.setTop (entryFrame m #[(.int kk)] 1)) (s₁.setTop (mkF m 45 #[.val (.int kk)] [(.int kk)])) := fun t h => k t (XS.iloadN X0.here hx rfl (hb hby own_d1_44) rfl h)
            replace k : own_K p.tables e below (s₁.setTop (entryFrame m #[(.int kk)] 1)) (s₁.setTop (mkF m 46 #[.val (.int kk)] [(.int (5 : Int32)), (.int kk)])) := fun t h => k t (XS.iconst X0.here hx rfl (hb hby own_d1_45) h)
            by_cases cc11 : kk = (5 : Int32)
            · replace k : own_K p.tables e below (s₁.setTop (entryFrame m #[(.int kk)] 1)) (s₁.setTop (mkF m 49 #[.val (.int kk)] [])) := fun t h => k t (XS.icmpNo X0.here hx rfl (hb hby own_d1_46) rfl (teq cc11).2 h)
              obtain ⟨T12, X12, e12, st12⟩ := getS2 X0 hx hZ hown (host := "") (Or.inl (hw _ (List.mem_of_getElem? (i := 46) rfl))) Via.refl e0 S5 (g := (mkF m 49 #[.val (.int kk)] [])) rfl (hb hby own_d1_49)
              replace k : own_K p.tables e below (s₁.setTop (entryFrame m #[(.int kk)] 1)) (T12.setTop (mkF m 52 #[.val (.int kk)] [(.ref (a 5))])) := fun t h => k t (st12 _ h)
              obtain ⟨fs, hr, hrun, hended, hW, hsame⟩ := X12.leave (v := some (.ref (a 5))) (fun h => by rw [Bd.returns] at h; cases h)
              refine ⟨_, _, k _ (retOut X12 hx Bd.returns rfl (Or.inr (Or.inr (Or.inr (Or.inr ⟨rfl, rfl, rfl⟩)))) (hb hby own_d1_52) hr), hrun, hended, _, _, rfl, ?_, ⟨_, rfl⟩, hW, hsame.mono (by decide) (by decide)⟩
              show Q1 Z kk nn a h0 n0 _ T12.heap _
              rw [e12]
              exact ⟨(by rw [show nn = 5 from (own_at hk cc11 (by omega))]), N0, rfl⟩
            · replace k : own_K p.tables e below (s₁.setTop (entryFrame m #[(.int kk)] 1)) (s₁.setTop (mkF m 53 #[.val (.int kk)] [])) := fun t h => k t (XS.icmpYes X0.here hx rfl (pc0 := 46) (pc' := 53) rfl (hb hby own_d1_46) rfl (feq cc11).2 (by decide) (by decide) h)
              replace k : own_K p.tables e below (s₁.setTop (entryFrame m #[(.int kk)] 1)) (s₁.setTop (mkF m 54 #[.val (.int kk)] [(.int kk)])) := fun t h => k t (XS.iloadN X0.here hx rfl (hb hby own_d1_53) rfl h)
              replace k : own_K p.tables e below (s₁.setTop (entryFrame m #[(.int kk)] 1)) (s₁.setTop (mkF m 56 #[.val (.int kk)] [(.int (6 : Int32)), (.int kk)])) := fun t h => k t (XS.bipush X0.here hx rfl (hb hby own_d1_54) h)
              by_cases cc13 : kk = (6 : Int32)
              · replace k : own_K p.tables e below (s₁.setTop (entryFrame m #[(.int kk)] 1)) (s₁.setTop (mkF m 59 #[.val (.int kk)] [])) := fun t h => k t (XS.icmpNo X0.here hx rfl (hb hby own_d1_56) rfl (teq cc13).2 h)
                obtain ⟨T14, X14, e14, st14⟩ := getS2 X0 hx hZ hown (host := "") (Or.inl (hw _ (List.mem_of_getElem? (i := 40) rfl))) Via.refl e0 S6 (g := (mkF m 59 #[.val (.int kk)] [])) rfl (hb hby own_d1_59)
                replace k : own_K p.tables e below (s₁.setTop (entryFrame m #[(.int kk)] 1)) (T14.setTop (mkF m 62 #[.val (.int kk)] [(.ref (a 6))])) := fun t h => k t (st14 _ h)
                obtain ⟨fs, hr, hrun, hended, hW, hsame⟩ := X14.leave (v := some (.ref (a 6))) (fun h => by rw [Bd.returns] at h; cases h)
                refine ⟨_, _, k _ (retOut X14 hx Bd.returns rfl (Or.inr (Or.inr (Or.inr (Or.inr ⟨rfl, rfl, rfl⟩)))) (hb hby own_d1_62) hr), hrun, hended, _, _, rfl, ?_, ⟨_, rfl⟩, hW, hsame.mono (by decide) (by decide)⟩
                show Q1 Z kk nn a h0 n0 _ T14.heap _
                rw [e14]
                exact ⟨(by rw [show nn = 6 from (own_at hk cc13 (by omega))]), N0, rfl⟩
              · replace k : own_K p.tables e below (s₁.setTop (entryFrame m #[(.int kk)] 1)) (s₁.setTop (mkF m 63 #[.val (.int kk)] [])) := fun t h => k t (XS.icmpYes X0.here hx rfl (pc0 := 56) (pc' := 63) rfl (hb hby own_d1_56) rfl (feq cc13).2 (by decide) (by decide) h)
                replace k : own_K p.tables e below (s₁.setTop (entryFrame m #[(.int kk)] 1)) (s₁.setTop (mkF m 64 #[.val (.int kk)] [(.int kk)])) := fun t h => k t (XS.iloadN X0.here hx rfl (hb hby own_d1_63) rfl h)
                replace k : own_K p.tables e below (s₁.setTop (entryFrame m #[(.int kk)] 1)) (s₁.setTop (mkF m 66 #[.val (.int kk)] [(.int (7 : Int32)), (.int kk)])) := fun t h => k t (XS.bipush X0.here hx rfl (hb hby own_d1_64) h)
                by_cases cc15 : kk = (7 : Int32)
                · replace k : own_K p.tables e below (s₁.setTop (entryFrame m #[(.int kk)] 1)) (s₁.setTop (mkF m 69 #[.val (.int kk)] [])) := fun t h => k t (XS.icmpNo X0.here hx rfl (hb hby own_d1_66) rfl (teq cc15).2 h)
                  obtain ⟨T16, X16, e16, st16⟩ := getS2 X0 hx hZ hown (host := "") (Or.inl (hw _ (List.mem_of_getElem? (i := 22) rfl))) Via.refl e0 S7 (g := (mkF m 69 #[.val (.int kk)] [])) rfl (hb hby own_d1_69)
                  replace k : own_K p.tables e below (s₁.setTop (entryFrame m #[(.int kk)] 1)) (T16.setTop (mkF m 72 #[.val (.int kk)] [(.ref (a 7))])) := fun t h => k t (st16 _ h)
                  obtain ⟨fs, hr, hrun, hended, hW, hsame⟩ := X16.leave (v := some (.ref (a 7))) (fun h => by rw [Bd.returns] at h; cases h)
                  refine ⟨_, _, k _ (retOut X16 hx Bd.returns rfl (Or.inr (Or.inr (Or.inr (Or.inr ⟨rfl, rfl, rfl⟩)))) (hb hby own_d1_72) hr), hrun, hended, _, _, rfl, ?_, ⟨_, rfl⟩, hW, hsame.mono (by decide) (by decide)⟩
                  show Q1 Z kk nn a h0 n0 _ T16.heap _
                  rw [e16]
                  exact ⟨(by rw [show nn = 7 from (own_at hk cc15 (by omega))]), N0, rfl⟩
                · replace k : own_K p.tables e below (s₁.setTop (entryFrame m #[(.int kk)] 1)) (s₁.setTop (mkF m 73 #[.val (.int kk)] [])) := fun t h => k t (XS.icmpYes X0.here hx rfl (pc0 := 66) (pc' := 73) rfl (hb hby own_d1_66) rfl (feq cc15).2 (by decide) (by decide) h)
                  replace k : own_K p.tables e below (s₁.setTop (entryFrame m #[(.int kk)] 1)) (s₁.setTop (mkF m 74 #[.val (.int kk)] [(.int kk)])) := fun t h => k t (XS.iloadN X0.here hx rfl (hb hby own_d1_73) rfl h)
                  replace k : own_K p.tables e below (s₁.setTop (entryFrame m #[(.int kk)] 1)) (s₁.setTop (mkF m 76 #[.val (.int kk)] [(.int (8 : Int32)), (.int kk)])) := fun t h => k t (XS.bipush X0.here hx rfl (hb hby own_d1_74) h)
                  by_cases cc17 : kk = (8 : Int32)
                  · replace k : own_K p.tables e below (s₁.setTop (entryFrame m #[(.int kk)] 1)) (s₁.setTop (mkF m 79 #[.val (.int kk)] [])) := fun t h => k t (XS.icmpNo X0.here hx rfl (hb hby own_d1_76) rfl (teq cc17).2 h)
                    obtain ⟨T18, X18, e18, st18⟩ := getS2 X0 hx hZ hown (host := "") (Or.inl (hw _ (List.mem_of_getElem? (i := 28) rfl))) Via.refl e0 S8 (g := (mkF m 79 #[.val (.int kk)] [])) rfl (hb hby own_d1_79)
                    replace k : own_K p.tables e below (s₁.setTop (entryFrame m #[(.int kk)] 1)) (T18.setTop (mkF m 82 #[.val (.int kk)] [(.ref (a 8))])) := fun t h => k t (st18 _ h)
                    obtain ⟨fs, hr, hrun, hended, hW, hsame⟩ := X18.leave (v := some (.ref (a 8))) (fun h => by rw [Bd.returns] at h; cases h)
                    refine ⟨_, _, k _ (retOut X18 hx Bd.returns rfl (Or.inr (Or.inr (Or.inr (Or.inr ⟨rfl, rfl, rfl⟩)))) (hb hby own_d1_82) hr), hrun, hended, _, _, rfl, ?_, ⟨_, rfl⟩, hW, hsame.mono (by decide) (by decide)⟩
                    show Q1 Z kk nn a h0 n0 _ T18.heap _
                    rw [e18]
                    exact ⟨(by rw [show nn = 8 from (own_at hk cc17 (by omega))]), N0, rfl⟩
                  · replace k : own_K p.tables e below (s₁.setTop (entryFrame m #[(.int kk)] 1)) (s₁.setTop (mkF m 83 #[.val (.int kk)] [])) := fun t h => k t (XS.icmpYes X0.here hx rfl (pc0 := 76) (pc' := 83) rfl (hb hby own_d1_76) rfl (feq cc17).2 (by decide) (by decide) h)
                    replace k : own_K p.tables e below (s₁.setTop (entryFrame m #[(.int kk)] 1)) (s₁.setTop (mkF m 84 #[.val (.int kk)] [(.int kk)])) := fun t h => k t (XS.iloadN X0.here hx rfl (hb hby own_d1_83) rfl h)
                    replace k : own_K p.tables e below (s₁.setTop (entryFrame m #[(.int kk)] 1)) (s₁.setTop (mkF m 86 #[.val (.int kk)] [(.int (9 : Int32)), (.int kk)])) := fun t h => k t (XS.bipush X0.here hx rfl (hb hby own_d1_84) h)
                    by_cases cc19 : kk = (9 : Int32)
                    · replace k : own_K p.tables e below (s₁.setTop (entryFrame m #[(.int kk)] 1)) (s₁.setTop (mkF m 89 #[.val (.int kk)] [])) := fun t h => k t (XS.icmpNo X0.here hx rfl (hb hby own_d1_86) rfl (teq cc19).2 h)
                      obtain ⟨T20, X20, e20, st20⟩ := getS2 X0 hx hZ hown (host := "") (Or.inl (hw _ (List.mem_of_getElem? (i := 48) rfl))) Via.refl e0 S9 (g := (mkF m 89 #[.val (.int kk)] [])) rfl (hb hby own_d1_89)
                      replace k : own_K p.tables e below (s₁.setTop (entryFrame m #[(.int kk)] 1)) (T20.setTop (mkF m 92 #[.val (.int kk)] [(.ref (a 9))])) := fun t h => k t (st20 _ h)
                      obtain ⟨fs, hr, hrun, hended, hW, hsame⟩ := X20.leave (v := some (.ref (a 9))) (fun h => by rw [Bd.returns] at h; cases h)
                      refine ⟨_, _, k _ (retOut X20 hx Bd.returns rfl (Or.inr (Or.inr (Or.inr (Or.inr ⟨rfl, rfl, rfl⟩)))) (hb hby own_d1_92) hr), hrun, hended, _, _, rfl, ?_, ⟨_, rfl⟩, hW, hsame.mono (by decide) (by decide)⟩
                      show Q1 Z kk nn a h0 n0 _ T20.heap _
                      rw [e20]
                      exact ⟨(by rw [show nn = 9 from (own_at hk cc19 (by omega))]), N0, rfl⟩
                    · replace k : own_K p.tables e below (s₁.setTop (entryFrame m #[(.int kk)] 1)) (s₁.setTop (mkF m 93 #[.val (.int kk)] [])) := fun t h => k t (XS.icmpYes X0.here hx rfl (pc0 := 86) (pc' := 93) rfl (hb hby own_d1_86) rfl (feq cc19).2 (by decide) (by decide) h)
                      replace k : own_K p.tables e below (s₁.setTop (entryFrame m #[(.int kk)] 1)) (s₁.setTop (mkF m 94 #[.val (.int kk)] [(.int kk)])) := fun t h => k t (XS.iloadN X0.here hx rfl (hb hby own_d1_93) rfl h)
                      replace k : own_K p.tables e below (s₁.setTop (entryFrame m #[(.int kk)] 1)) (s₁.setTop (mkF m 96 #[.val (.int kk)] [(.int (10 : Int32)), (.int kk)])) := fun t h => k t (XS.bipush X0.here hx rfl (hb hby own_d1_94) h)
                      by_cases cc21 : kk = (10 : Int32)
                      · replace k : own_K p.tables e below (s₁.setTop (entryFrame m #[(.int kk)] 1)) (s₁.setTop (mkF m 99 #[.val (.int kk)] [])) := fun t h => k t (XS.icmpNo X0.here hx rfl (hb hby own_d1_96) rfl (teq cc21).2 h)
                        obtain ⟨T22, X22, e22, st22⟩ := getS2 X0 hx hZ hown (host := "") (Or.inl (hw _ (List.mem_of_getElem? (i := 36) rfl))) Via.refl e0 S10 (g := (mkF m 99 #[.val (.int kk)] [])) rfl (hb hby own_d1_99)
                        replace k : own_K p.tables e below (s₁.setTop (entryFrame m #[(.int kk)] 1)) (T22.setTop (mkF m 102 #[.val (.int kk)] [(.ref (a 10))])) := fun t h => k t (st22 _ h)
                        obtain ⟨fs, hr, hrun, hended, hW, hsame⟩ := X22.leave (v := some (.ref (a 10))) (fun h => by rw [Bd.returns] at h; cases h)
                        refine ⟨_, _, k _ (retOut X22 hx Bd.returns rfl (Or.inr (Or.inr (Or.inr (Or.inr ⟨rfl, rfl, rfl⟩)))) (hb hby own_d1_102) hr), hrun, hended, _, _, rfl, ?_, ⟨_, rfl⟩, hW, hsame.mono (by decide) (by decide)⟩
                        show Q1 Z kk nn a h0 n0 _ T22.heap _
                        rw [e22]
                        exact ⟨(by rw [show nn = 10 from (own_at hk cc21 (by omega))]), N0, rfl⟩
                      · replace k : own_K p.tables e below (s₁.setTop (entryFrame m #[(.int kk)] 1)) (s₁.setTop (mkF m 103 #[.val (.int kk)] [])) := fun t h => k t (XS.icmpYes X0.here hx rfl (pc0 := 96) (pc' := 103) rfl (hb hby own_d1_96) rfl (feq cc21).2 (by decide) (by decide) h)
                        replace k : own_K p.tables e below (s₁.setTop (entryFrame m #[(.int kk)] 1)) (s₁.setTop (mkF m 104 #[.val (.int kk)] [(.int kk)])) := fun t h => k t (XS.iloadN X0.here hx rfl (hb hby own_d1_103) rfl h)
                        replace k : own_K p.tables e below (s₁.setTop (entryFrame m #[(.int kk)] 1)) (s₁.setTop (mkF m 106 #[.val (.int kk)] [(.int (11 : Int32)), (.int kk)])) := fun t h => k t (XS.bipush X0.here hx rfl (hb hby own_d1_104) h)
                        by_cases cc23 : kk = (11 : Int32)
                        · replace k : own_K p.tables e below (s₁.setTop (entryFrame m #[(.int kk)] 1)) (s₁.setTop (mkF m 109 #[.val (.int kk)] [])) := fun t h => k t (XS.icmpNo X0.here hx rfl (hb hby own_d1_106) rfl (teq cc23).2 h)
                          obtain ⟨T24, X24, e24, st24⟩ := getS2 X0 hx hZ hown (host := "") (Or.inl (hw _ (List.mem_of_getElem? (i := 24) rfl))) Via.refl e0 S11 (g := (mkF m 109 #[.val (.int kk)] [])) rfl (hb hby own_d1_109)
                          replace k : own_K p.tables e below (s₁.setTop (entryFrame m #[(.int kk)] 1)) (T24.setTop (mkF m 112 #[.val (.int kk)] [(.ref (a 11))])) := fun t h => k t (st24 _ h)
                          obtain ⟨fs, hr, hrun, hended, hW, hsame⟩ := X24.leave (v := some (.ref (a 11))) (fun h => by rw [Bd.returns] at h; cases h)
                          refine ⟨_, _, k _ (retOut X24 hx Bd.returns rfl (Or.inr (Or.inr (Or.inr (Or.inr ⟨rfl, rfl, rfl⟩)))) (hb hby own_d1_112) hr), hrun, hended, _, _, rfl, ?_, ⟨_, rfl⟩, hW, hsame.mono (by decide) (by decide)⟩
                          show Q1 Z kk nn a h0 n0 _ T24.heap _
                          rw [e24]
                          exact ⟨(by rw [show nn = 11 from (own_at hk cc23 (by omega))]), N0, rfl⟩
                        · replace k : own_K p.tables e below (s₁.setTop (entryFrame m #[(.int kk)] 1)) (s₁.setTop (mkF m 113 #[.val (.int kk)] [])) := fun t h => k t (XS.icmpYes X0.here hx rfl (pc0 := 106) (pc' := 113) rfl (hb hby own_d1_106) rfl (feq cc23).2 (by decide) (by decide) h)
                          replace k : own_K p.tables e below (s₁.setTop (entryFrame m #[(.int kk)] 1)) (s₁.setTop (mkF m 114 #[.val (.int kk)] [(.int kk)])) := fun t h => k t (XS.iloadN X0.here hx rfl (hb hby own_d1_113) rfl h)
                          replace k : own_K p.tables e below (s₁.setTop (entryFrame m #[(.int kk)] 1)) (s₁.setTop (mkF m 116 #[.val (.int kk)] [(.int (12 : Int32)), (.int kk)])) := fun t h => k t (XS.bipush X0.here hx rfl (hb hby own_d1_114) h)
                          by_cases cc25 : kk = (12 : Int32)
                          · replace k : own_K p.tables e below (s₁.setTop (entryFrame m #[(.int kk)] 1)) (s₁.setTop (mkF m 119 #[.val (.int kk)] [])) := fun t h => k t (XS.icmpNo X0.here hx rfl (hb hby own_d1_116) rfl (teq cc25).2 h)
                            obtain ⟨T26, X26, e26, st26⟩ := getS2 X0 hx hZ hown (host := "") (Or.inl (hw _ (List.mem_of_getElem? (i := 30) rfl))) Via.refl e0 S12 (g := (mkF m 119 #[.val (.int kk)] [])) rfl (hb hby own_d1_119)
                            replace k : own_K p.tables e below (s₁.setTop (entryFrame m #[(.int kk)] 1)) (T26.setTop (mkF m 122 #[.val (.int kk)] [(.ref (a 12))])) := fun t h => k t (st26 _ h)
                            obtain ⟨fs, hr, hrun, hended, hW, hsame⟩ := X26.leave (v := some (.ref (a 12))) (fun h => by rw [Bd.returns] at h; cases h)
                            refine ⟨_, _, k _ (retOut X26 hx Bd.returns rfl (Or.inr (Or.inr (Or.inr (Or.inr ⟨rfl, rfl, rfl⟩)))) (hb hby own_d1_122) hr), hrun, hended, _, _, rfl, ?_, ⟨_, rfl⟩, hW, hsame.mono (by decide) (by decide)⟩
                            show Q1 Z kk nn a h0 n0 _ T26.heap _
                            rw [e26]
                            exact ⟨(by rw [show nn = 12 from (own_at hk cc25 (by omega))]), N0, rfl⟩
                          · replace k : own_K p.tables e below (s₁.setTop (entryFrame m #[(.int kk)] 1)) (s₁.setTop (mkF m 123 #[.val (.int kk)] [])) := fun t h => k t (XS.icmpYes X0.here hx rfl (pc0 := 116) (pc' := 123) rfl (hb hby own_d1_116) rfl (feq cc25).2 (by decide) (by decide) h)
                            replace k : own_K p.tables e below (s₁.setTop (entryFrame m #[(.int kk)] 1)) (s₁.setTop (mkF m 124 #[.val (.int kk)] [(.int kk)])) := fun t h => k t (XS.iloadN X0.here hx rfl (hb hby own_d1_123) rfl h)
                            replace k : own_K p.tables e below (s₁.setTop (entryFrame m #[(.int kk)] 1)) (s₁.setTop (mkF m 126 #[.val (.int kk)] [(.int (13 : Int32)), (.int kk)])) := fun t h => k t (XS.bipush X0.here hx rfl (hb hby own_d1_124) h)
                            by_cases cc27 : kk = (13 : Int32)
                            · replace k : own_K p.tables e below (s₁.setTop (entryFrame m #[(.int kk)] 1)) (s₁.setTop (mkF m 129 #[.val (.int kk)] [])) := fun t h => k t (XS.icmpNo X0.here hx rfl (hb hby own_d1_126) rfl (teq cc27).2 h)
                              obtain ⟨T28, X28, e28, st28⟩ := getS2 X0 hx hZ hown (host := "") (Or.inl (hw _ (List.mem_of_getElem? (i := 38) rfl))) Via.refl e0 S13 (g := (mkF m 129 #[.val (.int kk)] [])) rfl (hb hby own_d1_129)
                              replace k : own_K p.tables e below (s₁.setTop (entryFrame m #[(.int kk)] 1)) (T28.setTop (mkF m 132 #[.val (.int kk)] [(.ref (a 13))])) := fun t h => k t (st28 _ h)
                              obtain ⟨fs, hr, hrun, hended, hW, hsame⟩ := X28.leave (v := some (.ref (a 13))) (fun h => by rw [Bd.returns] at h; cases h)
                              refine ⟨_, _, k _ (retOut X28 hx Bd.returns rfl (Or.inr (Or.inr (Or.inr (Or.inr ⟨rfl, rfl, rfl⟩)))) (hb hby own_d1_132) hr), hrun, hended, _, _, rfl, ?_, ⟨_, rfl⟩, hW, hsame.mono (by decide) (by decide)⟩
                              show Q1 Z kk nn a h0 n0 _ T28.heap _
                              rw [e28]
                              exact ⟨(by rw [show nn = 13 from (own_at hk cc27 (by omega))]), N0, rfl⟩
                            · replace k : own_K p.tables e below (s₁.setTop (entryFrame m #[(.int kk)] 1)) (s₁.setTop (mkF m 133 #[.val (.int kk)] [])) := fun t h => k t (XS.icmpYes X0.here hx rfl (pc0 := 126) (pc' := 133) rfl (hb hby own_d1_126) rfl (feq cc27).2 (by decide) (by decide) h)
                              replace k : own_K p.tables e below (s₁.setTop (entryFrame m #[(.int kk)] 1)) (s₁.setTop (mkF m 134 #[.val (.int kk)] [(.int kk)])) := fun t h => k t (XS.iloadN X0.here hx rfl (hb hby own_d1_133) rfl h)
                              replace k : own_K p.tables e below (s₁.setTop (entryFrame m #[(.int kk)] 1)) (s₁.setTop (mkF m 136 #[.val (.int kk)] [(.int (14 : Int32)), (.int kk)])) := fun t h => k t (XS.bipush X0.here hx rfl (hb hby own_d1_134) h)
                              by_cases cc29 : kk = (14 : Int32)
                              · replace k : own_K p.tables e below (s₁.setTop (entryFrame m #[(.int kk)] 1)) (s₁.setTop (mkF m 139 #[.val (.int kk)] [])) := fun t h => k t (XS.icmpNo X0.here hx rfl (hb hby own_d1_136) rfl (teq cc29).2 h)
                                obtain ⟨T30, X30, e30, st30⟩ := getS2 X0 hx hZ hown (host := "") (Or.inl (hw _ (List.mem_of_getElem? (i := 44) rfl))) Via.refl e0 S14 (g := (mkF m 139 #[.val (.int kk)] [])) rfl (hb hby own_d1_139)
                                replace k : own_K p.tables e below (s₁.setTop (entryFrame m #[(.int kk)] 1)) (T30.setTop (mkF m 142 #[.val (.int kk)] [(.ref (a 14))])) := fun t h => k t (st30 _ h)
                                obtain ⟨fs, hr, hrun, hended, hW, hsame⟩ := X30.leave (v := some (.ref (a 14))) (fun h => by rw [Bd.returns] at h; cases h)
                                refine ⟨_, _, k _ (retOut X30 hx Bd.returns rfl (Or.inr (Or.inr (Or.inr (Or.inr ⟨rfl, rfl, rfl⟩)))) (hb hby own_d1_142) hr), hrun, hended, _, _, rfl, ?_, ⟨_, rfl⟩, hW, hsame.mono (by decide) (by decide)⟩
                                show Q1 Z kk nn a h0 n0 _ T30.heap _
                                rw [e30]
                                exact ⟨(by rw [show nn = 14 from (own_at hk cc29 (by omega))]), N0, rfl⟩
                              · replace k : own_K p.tables e below (s₁.setTop (entryFrame m #[(.int kk)] 1)) (s₁.setTop (mkF m 143 #[.val (.int kk)] [])) := fun t h => k t (XS.icmpYes X0.here hx rfl (pc0 := 136) (pc' := 143) rfl (hb hby own_d1_136) rfl (feq cc29).2 (by decide) (by decide) h)
                                replace k : own_K p.tables e below (s₁.setTop (entryFrame m #[(.int kk)] 1)) (s₁.setTop (mkF m 144 #[.val (.int kk)] [(.int kk)])) := fun t h => k t (XS.iloadN X0.here hx rfl (hb hby own_d1_143) rfl h)
                                replace k : own_K p.tables e below (s₁.setTop (entryFrame m #[(.int kk)] 1)) (s₁.setTop (mkF m 146 #[.val (.int kk)] [(.int (15 : Int32)), (.int kk)])) := fun t h => k t (XS.bipush X0.here hx rfl (hb hby own_d1_144) h)
                                by_cases cc31 : kk = (15 : Int32)
                                · replace k : own_K p.tables e below (s₁.setTop (entryFrame m #[(.int kk)] 1)) (s₁.setTop (mkF m 149 #[.val (.int kk)] [])) := fun t h => k t (XS.icmpNo X0.here hx rfl (hb hby own_d1_146) rfl (teq cc31).2 h)
                                  obtain ⟨T32, X32, e32, st32⟩ := getS2 X0 hx hZ hown (host := "") (Or.inl (hw _ (List.mem_of_getElem? (i := 34) rfl))) Via.refl e0 S15 (g := (mkF m 149 #[.val (.int kk)] [])) rfl (hb hby own_d1_149)
                                  replace k : own_K p.tables e below (s₁.setTop (entryFrame m #[(.int kk)] 1)) (T32.setTop (mkF m 152 #[.val (.int kk)] [(.ref (a 15))])) := fun t h => k t (st32 _ h)
                                  obtain ⟨fs, hr, hrun, hended, hW, hsame⟩ := X32.leave (v := some (.ref (a 15))) (fun h => by rw [Bd.returns] at h; cases h)
                                  refine ⟨_, _, k _ (retOut X32 hx Bd.returns rfl (Or.inr (Or.inr (Or.inr (Or.inr ⟨rfl, rfl, rfl⟩)))) (hb hby own_d1_152) hr), hrun, hended, _, _, rfl, ?_, ⟨_, rfl⟩, hW, hsame.mono (by decide) (by decide)⟩
                                  show Q1 Z kk nn a h0 n0 _ T32.heap _
                                  rw [e32]
                                  exact ⟨(by rw [show nn = 15 from (own_at hk cc31 (by omega))]), N0, rfl⟩
                                · replace k : own_K p.tables e below (s₁.setTop (entryFrame m #[(.int kk)] 1)) (s₁.setTop (mkF m 153 #[.val (.int kk)] [])) := fun t h => k t (XS.icmpYes X0.here hx rfl (pc0 := 146) (pc' := 153) rfl (hb hby own_d1_146) rfl (feq cc31).2 (by decide) (by decide) h)
                                  replace k : own_K p.tables e below (s₁.setTop (entryFrame m #[(.int kk)] 1)) (s₁.setTop (mkF m 154 #[.val (.int kk)] [(.int kk)])) := fun t h => k t (XS.iloadN X0.here hx rfl (hb hby own_d1_153) rfl h)
                                  replace k : own_K p.tables e below (s₁.setTop (entryFrame m #[(.int kk)] 1)) (s₁.setTop (mkF m 156 #[.val (.int kk)] [(.int (16 : Int32)), (.int kk)])) := fun t h => k t (XS.bipush X0.here hx rfl (hb hby own_d1_154) h)
                                  by_cases cc33 : kk = (16 : Int32)
                                  · replace k : own_K p.tables e below (s₁.setTop (entryFrame m #[(.int kk)] 1)) (s₁.setTop (mkF m 159 #[.val (.int kk)] [])) := fun t h => k t (XS.icmpNo X0.here hx rfl (hb hby own_d1_156) rfl (teq cc33).2 h)
                                    obtain ⟨T34, X34, e34, st34⟩ := getS2 X0 hx hZ hown (host := "") (Or.inl (hw _ (List.mem_of_getElem? (i := 32) rfl))) Via.refl e0 S16 (g := (mkF m 159 #[.val (.int kk)] [])) rfl (hb hby own_d1_159)
                                    replace k : own_K p.tables e below (s₁.setTop (entryFrame m #[(.int kk)] 1)) (T34.setTop (mkF m 162 #[.val (.int kk)] [(.ref (a 16))])) := fun t h => k t (st34 _ h)
                                    obtain ⟨fs, hr, hrun, hended, hW, hsame⟩ := X34.leave (v := some (.ref (a 16))) (fun h => by rw [Bd.returns] at h; cases h)
                                    refine ⟨_, _, k _ (retOut X34 hx Bd.returns rfl (Or.inr (Or.inr (Or.inr (Or.inr ⟨rfl, rfl, rfl⟩)))) (hb hby own_d1_162) hr), hrun, hended, _, _, rfl, ?_, ⟨_, rfl⟩, hW, hsame.mono (by decide) (by decide)⟩
                                    show Q1 Z kk nn a h0 n0 _ T34.heap _
                                    rw [e34]
                                    exact ⟨(by rw [show nn = 16 from (own_at hk cc33 (by omega))]), N0, rfl⟩
                                  · replace k : own_K p.tables e below (s₁.setTop (entryFrame m #[(.int kk)] 1)) (s₁.setTop (mkF m 163 #[.val (.int kk)] [])) := fun t h => k t (XS.icmpYes X0.here hx rfl (pc0 := 156) (pc' := 163) rfl (hb hby own_d1_156) rfl (feq cc33).2 (by decide) (by decide) h)
                                    obtain ⟨T35, X35, e35, st35⟩ := getS2 X0 hx hZ hown (host := "") (Or.inl (hw _ (List.mem_of_getElem? (i := 42) rfl))) Via.refl e0 S17 (g := (mkF m 163 #[.val (.int kk)] [])) rfl (hb hby own_d1_163)
                                    replace k : own_K p.tables e below (s₁.setTop (entryFrame m #[(.int kk)] 1)) (T35.setTop (mkF m 166 #[.val (.int kk)] [(.ref (a 17))])) := fun t h => k t (st35 _ h)
                                    obtain ⟨fs, hr, hrun, hended, hW, hsame⟩ := X35.leave (v := some (.ref (a 17))) (fun h => by rw [Bd.returns] at h; cases h)
                                    refine ⟨_, _, k _ (retOut X35 hx Bd.returns rfl (Or.inr (Or.inr (Or.inr (Or.inr ⟨rfl, rfl, rfl⟩)))) (hb hby own_d1_166) hr), hrun, hended, _, _, rfl, ?_, ⟨_, rfl⟩, hW, hsame.mono (by decide) (by decide)⟩
                                    show Q1 Z kk nn a h0 n0 _ T35.heap _
                                    rw [e35]
                                    have d0 := own_ne (m := 0) hk cc1 (by omega)
                                    have d1 := own_ne (m := 1) hk cc3 (by omega)
                                    have d2 := own_ne (m := 2) hk cc5 (by omega)
                                    have d3 := own_ne (m := 3) hk cc7 (by omega)
                                    have d4 := own_ne (m := 4) hk cc9 (by omega)
                                    have d5 := own_ne (m := 5) hk cc11 (by omega)
                                    have d6 := own_ne (m := 6) hk cc13 (by omega)
                                    have d7 := own_ne (m := 7) hk cc15 (by omega)
                                    have d8 := own_ne (m := 8) hk cc17 (by omega)
                                    have d9 := own_ne (m := 9) hk cc19 (by omega)
                                    have d10 := own_ne (m := 10) hk cc21 (by omega)
                                    have d11 := own_ne (m := 11) hk cc23 (by omega)
                                    have d12 := own_ne (m := 12) hk cc25 (by omega)
                                    have d13 := own_ne (m := 13) hk cc27 (by omega)
                                    have d14 := own_ne (m := 14) hk cc29 (by omega)
                                    have d15 := own_ne (m := 15) hk cc31 (by omega)
                                    have d16 := own_ne (m := 16) hk cc33 (by omega)
                                    exact ⟨(by rw [show nn = 17 from (by omega)]), N0, rfl⟩
theorem own_pn1 : plainName "com/example/exact_labels/exactlabels/CharacterItem" = true := by first | (simp [plainName, overriddenIn]; done) | decide +kernel
theorem own_d2_0 : decode prog_10_method_4_code 0 = .ok (.aload_n 0, 1) := by decide +kernel
theorem own_d2_1 : decode prog_10_method_4_code 1 = .ok (.getstatic 3, 3) := by decide +kernel
theorem own_d2_4 : decode prog_10_method_4_code 4 = .ok (.if_acmp .eq 21, 3) := by decide +kernel
theorem own_d2_7 : decode prog_10_method_4_code 7 = .ok (.aload_n 0, 1) := by decide +kernel
theorem own_d2_8 : decode prog_10_method_4_code 8 = .ok (.getstatic 7, 3) := by decide +kernel
theorem own_d2_11 : decode prog_10_method_4_code 11 = .ok (.if_acmp .eq 14, 3) := by decide +kernel
theorem own_d2_14 : decode prog_10_method_4_code 14 = .ok (.aload_n 0, 1) := by decide +kernel
theorem own_d2_15 : decode prog_10_method_4_code 15 = .ok (.getstatic 10, 3) := by decide +kernel
theorem own_d2_18 : decode prog_10_method_4_code 18 = .ok (.if_acmp .eq 7, 3) := by decide +kernel
theorem own_d2_21 : decode prog_10_method_4_code 21 = .ok (.iconst 1, 1) := by decide +kernel
theorem own_d2_22 : decode prog_10_method_4_code 22 = .ok (.goto 4, 3) := by decide +kernel
theorem own_d2_25 : decode prog_10_method_4_code 25 = .ok (.iconst 0, 1) := by decide +kernel
theorem own_d2_26 : decode prog_10_method_4_code 26 = .ok (.ireturn, 1) := by decide +kernel
theorem own_ef2 (m : MethodId) (y0 : Addr) : entryFrame m #[(.ref y0)] 1 = mkF m 0 #[.val (.ref y0)] [] := by first | (simp [entryFrame, mkF, argsToLocals, Value.category]; done) | rfl
def Q2 (Z : State) (r : Addr) (a : Nat → Addr) (h0 : Heap) (n0 : Nat) (v : Option Value) (h : Heap) (L : List Loc) : Prop := v = some (.int (own_f r a)) ∧ Fr n0 L ∧ h = h0
set_option maxRecDepth 65536 in
set_option maxHeartbeats 40000000 in
theorem rm2 (l : Launch) (Z : State) (a0 : Array Value) (hw : ∀ d ∈ tables_1, d.before a0 Z = true) (ws : List Jvm.Cond) (r : Addr) (a : Nat → Addr) (h0 : Heap) (n0 : Nat) (S0 : Sta Z h0 "com/example/exact_labels/exactlabels/CharacterItem" "CHARACTER" "Lcom/example/exact_labels/exactlabels/CharacterItem;" (.ref (a 0))) (S1 : Sta Z h0 "com/example/exact_labels/exactlabels/CharacterItem" "NOT_CHARACTER" "Lcom/example/exact_labels/exactlabels/CharacterItem;" (.ref (a 1))) (S2 : Sta Z h0 "com/example/exact_labels/exactlabels/CharacterItem" "CLASS" "Lcom/example/exact_labels/exactlabels/CharacterItem;" (.ref (a 2))) :
    MetFree l (⟨"com/example/exact_labels/exactlabels/CharacterItem", "type", "()Z"⟩ : MethodName) (head1 (Jvm.Cond.code (⟨"com/example/exact_labels/exactlabels/CharacterItem", "type", "()Z"⟩ : MethodName) prog_10_method_4_code 1 (some .boolean) :: ws) ({ frames := 0, cells := 0, slots := 0, locals := 0 } : Room)) (fun a U => a = #[(.ref r)] ∧ Z.Warmed39 U.vm ∧ U.heap = h0) (fun _ _ _ _ _ => True) (fun _ U o U' => ∃ v L, o = .returned v ∧ Q2 Z r a h0 n0 v U'.heap L ∧ FrameEnd U o U' L ({ frames := 0, cells := 0, slots := 0, locals := 0 } : Room).cells ({ frames := 0, cells := 0, slots := 0, locals := 0 } : Room).slots) := by
  refine MetFree.of_bodySF (plainFor_of_name own_pn1) hisR ?_
  intro p e s m args below meth c s₁ Bd hml0 hP hK
  obtain ⟨rfl, hZ, hh⟩ := hP
  have hx := Bd.exec
  have hby := Bd.bytes
  have hml : c.maxLocals = 1 := hml0
  have hown : s.vm.findClass "com/example/exact_labels/exactlabels/CharacterItem" = some m.cls := findClass_of_methodNamed Bd.named
  have hnm := (name_of_methodNamed Bd.named Bd.method).1
  have X0 : Stand p l e ({ frames := 0, cells := 0, slots := 0, locals := 0 } : Room) s m #[(.ref r)] below meth c s₁ [] 0 0 := Stand.of_body Bd
  have e0 : s₁.heap = h0 := by rw [← hh, Bd.state]; rfl
  have N0 := Fr.nil n0
  have k : own_K p.tables e below (s₁.setTop (entryFrame m #[(.ref r)] 1)) (s₁.setTop (mkF m 0 #[.val (.ref r)] [])) := fun t h => castTop (own_ef2 m r) h
  replace k : own_K p.tables e below (s₁.setTop (entryFrame m #[(.ref r)] 1)) (s₁.setTop (mkF m 1 #[.val (.ref r)] [(.ref r)])) := fun t h => k t (XS.aloadN X0.here hx rfl (hb hby own_d2_0) rfl rfl h)
  obtain ⟨T1, X1, e1, st1⟩ := getS2 X0 hx hZ hown (host := "") (Or.inl (hw _ (List.mem_of_getElem? (i := 13) rfl))) Via.refl e0 S0 (g := (mkF m 1 #[.val (.ref r)] [(.ref r)])) rfl (hb hby own_d2_1)
  replace k : own_K p.tables e below (s₁.setTop (entryFrame m #[(.ref r)] 1)) (T1.setTop (mkF m 4 #[.val (.ref r)] [(.ref (a 0)), (.ref r)])) := fun t h => k t (st1 _ h)
  by_cases cc2 : r = (a 0)
  · replace k : own_K p.tables e below (s₁.setTop (entryFrame m #[(.ref r)] 1)) (T1.setTop (mkF m 25 #[.val (.ref r)] [])) := fun t h => k t (Jvm.RoadKit.acmp (g := (mkF m 4 #[.val (.ref r)] [(.ref (a 0)), (.ref r)])) X1 hx rfl rfl rfl (pc0 := 4) (pc' := 25) (same := true) rfl (hb hby own_d2_4) rfl (decide_eq_true (congrArg Value.ref cc2)) (by decide) (by decide) h)
    replace k : own_K p.tables e below (s₁.setTop (entryFrame m #[(.ref r)] 1)) (T1.setTop (mkF m 26 #[.val (.ref r)] [(.int (0 : Int32))])) := fun t h => k t (XS.iconst X1.here hx rfl (hb hby own_d2_25) h)
    obtain ⟨fs, hr, hrun, hended, hW, hsame⟩ := X1.leave (v := some (.int (0 : Int32))) (fun h => by rw [Bd.returns] at h; cases h)
    refine ⟨_, _, k _ (retOut X1 hx Bd.returns rfl (Or.inl ⟨rfl, by simp, _, rfl⟩) (hb hby own_d2_26) hr), hrun, hended, _, _, rfl, ?_, ⟨_, rfl⟩, hW, hsame.mono (by decide) (by decide)⟩
    show Q2 Z r a h0 n0 _ T1.heap _
    rw [e1]
    exact ⟨(by simp [own_f, cc2]), N0, rfl⟩
  · replace k : own_K p.tables e below (s₁.setTop (entryFrame m #[(.ref r)] 1)) (T1.setTop (mkF m 7 #[.val (.ref r)] [])) := fun t h => k t (Jvm.RoadKit.acmp (g := (mkF m 4 #[.val (.ref r)] [(.ref (a 0)), (.ref r)])) X1 hx rfl rfl rfl (pc0 := 4) (pc' := 7) (same := false) rfl (hb hby own_d2_4) rfl (decide_eq_false fun q => cc2 (Value.ref.inj q)) (by decide) (by decide) h)
    replace k : own_K p.tables e below (s₁.setTop (entryFrame m #[(.ref r)] 1)) (T1.setTop (mkF m 8 #[.val (.ref r)] [(.ref r)])) := fun t h => k t (XS.aloadN X1.here hx rfl (hb hby own_d2_7) rfl rfl h)
    obtain ⟨T3, X3, e3, st3⟩ := getS2 X1 hx hZ hown (host := "") (Or.inl (hw _ (List.mem_of_getElem? (i := 16) rfl))) Via.refl e1 S1 (g := (mkF m 8 #[.val (.ref r)] [(.ref r)])) rfl (hb hby own_d2_8)
    replace k : own_K p.tables e below (s₁.setTop (entryFrame m #[(.ref r)] 1)) (T3.setTop (mkF m 11 #[.val (.ref r)] [(.ref (a 1)), (.ref r)])) := fun t h => k t (st3 _ h)
    by_cases cc4 : r = (a 1)
    · replace k : own_K p.tables e below (s₁.setTop (entryFrame m #[(.ref r)] 1)) (T3.setTop (mkF m 25 #[.val (.ref r)] [])) := fun t h => k t (Jvm.RoadKit.acmp (g := (mkF m 11 #[.val (.ref r)] [(.ref (a 1)), (.ref r)])) X3 hx rfl rfl rfl (pc0 := 11) (pc' := 25) (same := true) rfl (hb hby own_d2_11) rfl (decide_eq_true (congrArg Value.ref cc4)) (by decide) (by decide) h)
      replace k : own_K p.tables e below (s₁.setTop (entryFrame m #[(.ref r)] 1)) (T3.setTop (mkF m 26 #[.val (.ref r)] [(.int (0 : Int32))])) := fun t h => k t (XS.iconst X3.here hx rfl (hb hby own_d2_25) h)
      obtain ⟨fs, hr, hrun, hended, hW, hsame⟩ := X3.leave (v := some (.int (0 : Int32))) (fun h => by rw [Bd.returns] at h; cases h)
      refine ⟨_, _, k _ (retOut X3 hx Bd.returns rfl (Or.inl ⟨rfl, by simp, _, rfl⟩) (hb hby own_d2_26) hr), hrun, hended, _, _, rfl, ?_, ⟨_, rfl⟩, hW, hsame.mono (by decide) (by decide)⟩
      show Q2 Z r a h0 n0 _ T3.heap _
      rw [e3]
      exact ⟨(by simp [own_f, cc2, cc4]), N0, rfl⟩
    · replace k : own_K p.tables e below (s₁.setTop (entryFrame m #[(.ref r)] 1)) (T3.setTop (mkF m 14 #[.val (.ref r)] [])) := fun t h => k t (Jvm.RoadKit.acmp (g := (mkF m 11 #[.val (.ref r)] [(.ref (a 1)), (.ref r)])) X3 hx rfl rfl rfl (pc0 := 11) (pc' := 14) (same := false) rfl (hb hby own_d2_11) rfl (decide_eq_false fun q => cc4 (Value.ref.inj q)) (by decide) (by decide) h)
      replace k : own_K p.tables e below (s₁.setTop (entryFrame m #[(.ref r)] 1)) (T3.setTop (mkF m 15 #[.val (.ref r)] [(.ref r)])) := fun t h => k t (XS.aloadN X3.here hx rfl (hb hby own_d2_14) rfl rfl h)
      obtain ⟨T5, X5, e5, st5⟩ := getS2 X3 hx hZ hown (host := "") (Or.inl (hw _ (List.mem_of_getElem? (i := 18) rfl))) Via.refl e3 S2 (g := (mkF m 15 #[.val (.ref r)] [(.ref r)])) rfl (hb hby own_d2_15)
      replace k : own_K p.tables e below (s₁.setTop (entryFrame m #[(.ref r)] 1)) (T5.setTop (mkF m 18 #[.val (.ref r)] [(.ref (a 2)), (.ref r)])) := fun t h => k t (st5 _ h)
      by_cases cc6 : r = (a 2)
      · replace k : own_K p.tables e below (s₁.setTop (entryFrame m #[(.ref r)] 1)) (T5.setTop (mkF m 25 #[.val (.ref r)] [])) := fun t h => k t (Jvm.RoadKit.acmp (g := (mkF m 18 #[.val (.ref r)] [(.ref (a 2)), (.ref r)])) X5 hx rfl rfl rfl (pc0 := 18) (pc' := 25) (same := true) rfl (hb hby own_d2_18) rfl (decide_eq_true (congrArg Value.ref cc6)) (by decide) (by decide) h)
        replace k : own_K p.tables e below (s₁.setTop (entryFrame m #[(.ref r)] 1)) (T5.setTop (mkF m 26 #[.val (.ref r)] [(.int (0 : Int32))])) := fun t h => k t (XS.iconst X5.here hx rfl (hb hby own_d2_25) h)
        obtain ⟨fs, hr, hrun, hended, hW, hsame⟩ := X5.leave (v := some (.int (0 : Int32))) (fun h => by rw [Bd.returns] at h; cases h)
        refine ⟨_, _, k _ (retOut X5 hx Bd.returns rfl (Or.inl ⟨rfl, by simp, _, rfl⟩) (hb hby own_d2_26) hr), hrun, hended, _, _, rfl, ?_, ⟨_, rfl⟩, hW, hsame.mono (by decide) (by decide)⟩
        show Q2 Z r a h0 n0 _ T5.heap _
        rw [e5]
        exact ⟨(by simp [own_f, cc2, cc4, cc6]), N0, rfl⟩
      · replace k : own_K p.tables e below (s₁.setTop (entryFrame m #[(.ref r)] 1)) (T5.setTop (mkF m 21 #[.val (.ref r)] [])) := fun t h => k t (Jvm.RoadKit.acmp (g := (mkF m 18 #[.val (.ref r)] [(.ref (a 2)), (.ref r)])) X5 hx rfl rfl rfl (pc0 := 18) (pc' := 21) (same := false) rfl (hb hby own_d2_18) rfl (decide_eq_false fun q => cc6 (Value.ref.inj q)) (by decide) (by decide) h)
        replace k : own_K p.tables e below (s₁.setTop (entryFrame m #[(.ref r)] 1)) (T5.setTop (mkF m 22 #[.val (.ref r)] [(.int (1 : Int32))])) := fun t h => k t (XS.iconst X5.here hx rfl (hb hby own_d2_21) h)
        replace k : own_K p.tables e below (s₁.setTop (entryFrame m #[(.ref r)] 1)) (T5.setTop (mkF m 26 #[.val (.ref r)] [(.int (1 : Int32))])) := fun t h => k t (XS.goto X5.here hx rfl (pc0 := 22) (pc' := 26) rfl (hb hby own_d2_22) (by decide) (by decide) h)
        obtain ⟨fs, hr, hrun, hended, hW, hsame⟩ := X5.leave (v := some (.int (1 : Int32))) (fun h => by rw [Bd.returns] at h; cases h)
        refine ⟨_, _, k _ (retOut X5 hx Bd.returns rfl (Or.inl ⟨rfl, by simp, _, rfl⟩) (hb hby own_d2_26) hr), hrun, hended, _, _, rfl, ?_, ⟨_, rfl⟩, hW, hsame.mono (by decide) (by decide)⟩
        show Q2 Z r a h0 n0 _ T5.heap _
        rw [e5]
        exact ⟨(by simp [own_f, cc2, cc4, cc6]), N0, rfl⟩
theorem own_pd0 : parseMethodDescriptor "(I)Lcom/example/exact_labels/exactlabels/CharacterItem;" = some ⟨[.int], some (.object "com/example/exact_labels/exactlabels/CharacterItem")⟩ := by decide +kernel
theorem own_pd1 : parseMethodDescriptor "()Z" = some ⟨[], some .boolean⟩ := by decide +kernel
theorem own_ef0 (m : MethodId) (y0 : Int32) : entryFrame m #[(.int y0)] maxLocals = mkF m 0 #[.val (.int y0), .unset, .unset, .unset] [] := by first | (simp [entryFrame, mkF, argsToLocals, Value.category, maxLocals]; done) | rfl
def Q0 (Z : State) (q : Int32) (a : Nat → Addr) (h0 : Heap) (n0 : Nat) (v : Option Value) (h : Heap) (L : List Loc) : Prop := v = some (.int 1) ∧ Fr n0 L
set_option maxRecDepth 65536 in
set_option maxHeartbeats 40000000 in
theorem rm0 (l : Launch) (Z : State) (a0 : Array Value) (hw : ∀ d ∈ tables_1, d.before a0 Z = true) (ws : List Jvm.Cond) (q : Int32) (a : Nat → Addr) (h0 : Heap) (n0 : Nat) (S0 : Sta Z h0 "com/example/exact_labels/exactlabels/CharacterItem" "CHARACTER" "Lcom/example/exact_labels/exactlabels/CharacterItem;" (.ref (a 0))) (S1 : Sta Z h0 "com/example/exact_labels/exactlabels/CharacterItem" "NOT_CHARACTER" "Lcom/example/exact_labels/exactlabels/CharacterItem;" (.ref (a 1))) (S2 : Sta Z h0 "com/example/exact_labels/exactlabels/CharacterItem" "CLASS" "Lcom/example/exact_labels/exactlabels/CharacterItem;" (.ref (a 2))) (S3 : Sta Z h0 "com/example/exact_labels/exactlabels/CharacterItem" "DIGIT" "Lcom/example/exact_labels/exactlabels/CharacterItem;" (.ref (a 3))) (S4 : Sta Z h0 "com/example/exact_labels/exactlabels/CharacterItem" "NOT_DIGIT" "Lcom/example/exact_labels/exactlabels/CharacterItem;" (.ref (a 4))) (S5 : Sta Z h0 "com/example/exact_labels/exactlabels/CharacterItem" "SPACE" "Lcom/example/exact_labels/exactlabels/CharacterItem;" (.ref (a 5))) (S6 : Sta Z h0 "com/example/exact_labels/exactlabels/CharacterItem" "NOT_SPACE" "Lcom/example/exact_labels/exactlabels/CharacterItem;" (.ref (a 6))) (S7 : Sta Z h0 "com/example/exact_labels/exactlabels/CharacterItem" "WORD" "Lcom/example/exact_labels/exactlabels/CharacterItem;" (.ref (a 7))) (S8 : Sta Z h0 "com/example/exact_labels/exactlabels/CharacterItem" "NOT_WORD" "Lcom/example/exact_labels/exactlabels/CharacterItem;" (.ref (a 8))) (S9 : Sta Z h0 "com/example/exact_labels/exactlabels/CharacterItem" "HORIZONTAL" "Lcom/example/exact_labels/exactlabels/CharacterItem;" (.ref (a 9))) (S10 : Sta Z h0 "com/example/exact_labels/exactlabels/CharacterItem" "NOT_HORIZONTAL" "Lcom/example/exact_labels/exactlabels/CharacterItem;" (.ref (a 10))) (S11 : Sta Z h0 "com/example/exact_labels/exactlabels/CharacterItem" "VERTICAL" "Lcom/example/exact_labels/exactlabels/CharacterItem;" (.ref (a 11))) (S12 : Sta Z h0 "com/example/exact_labels/exactlabels/CharacterItem" "NOT_VERTICAL" "Lcom/example/exact_labels/exactlabels/CharacterItem;" (.ref (a 12))) (S13 : Sta Z h0 "com/example/exact_labels/exactlabels/CharacterItem" "NEWLINE" "Lcom/example/exact_labels/exactlabels/CharacterItem;" (.ref (a 13))) (S14 : Sta Z h0 "com/example/exact_labels/exactlabels/CharacterItem" "NOT_NEWLINE" "Lcom/example/exact_labels/exactlabels/CharacterItem;" (.ref (a 14))) (S15 : Sta Z h0 "com/example/exact_labels/exactlabels/CharacterItem" "ANY" "Lcom/example/exact_labels/exactlabels/CharacterItem;" (.ref (a 15))) (S16 : Sta Z h0 "com/example/exact_labels/exactlabels/CharacterItem" "BYTE" "Lcom/example/exact_labels/exactlabels/CharacterItem;" (.ref (a 16))) (S17 : Sta Z h0 "com/example/exact_labels/exactlabels/CharacterItem" "GRAPHEME" "Lcom/example/exact_labels/exactlabels/CharacterItem;" (.ref (a 17))) (EE : ∀ n, n < 18 → Exa Z h0 (a n) "com/example/exact_labels/exactlabels/CharacterItem") (DD : ∀ n m, n < 18 → m < 18 → a n = a m → n = m) :
    MetFree l x (head1 (Jvm.Cond.code x code maxLocals ret :: ws) room_1) (fun a U => a = #[(.int q)] ∧ Z.Warmed39 U.vm ∧ U.heap = h0) (fun _ _ _ _ _ => True) (fun _ U o U' => ∃ v L, o = .returned v ∧ Q0 Z q a h0 n0 v U'.heap L ∧ FrameEnd U o U' L room_1.cells room_1.slots) := by
  refine MetFree.of_bodySF (plainFor_of_name own_pn0) hisR ?_
  intro p e s m args below meth c s₁ Bd hml0 hP hK
  obtain ⟨rfl, hZ, hh⟩ := hP
  have hx := Bd.exec
  have hby := Bd.bytes
  have hml : c.maxLocals = 4 := hml0
  have hown : s.vm.findClass "com/example/exact_labels/exactlabels/CharacterItemTypePinLaw" = some m.cls := findClass_of_methodNamed Bd.named
  have hnm := (name_of_methodNamed Bd.named Bd.method).1
  have X0 : Stand p l e room_1 s m #[(.int q)] below meth c s₁ [] 0 0 := Stand.of_body Bd
  have e0 : s₁.heap = h0 := by rw [← hh, Bd.state]; rfl
  have N0 := Fr.nil n0
  have k : own_K p.tables e below (s₁.setTop (entryFrame m #[(.int q)] maxLocals)) (s₁.setTop (mkF m 0 #[.val (.int q), .unset, .unset, .unset] [])) := fun t h => castTop (own_ef0 m q) h
  replace k : own_K p.tables e below (s₁.setTop (entryFrame m #[(.int q)] maxLocals)) (s₁.setTop (mkF m 1 #[.val (.int q), .unset, .unset, .unset] [(.int q)])) := fun t h => k t (XS.iloadN X0.here hx rfl (hb hby at_0) rfl h)
  replace k : own_K p.tables e below (s₁.setTop (entryFrame m #[(.int q)] maxLocals)) (s₁.setTop (mkF m 3 #[.val (.int q), .unset, .unset, .unset] [(.int (2147483647 : Int32)), (.int q)])) := fun t h => k t (X0.ldcInt hx hown (mvT hZ (hw _ (List.mem_of_getElem? (i := 0) rfl))) (g := (mkF m 1 #[.val (.int q), .unset, .unset, .unset] [(.int q)])) rfl (hb hby at_1) _ h)
  replace k : own_K p.tables e below (s₁.setTop (entryFrame m #[(.int q)] maxLocals)) (s₁.setTop (mkF m 4 #[.val (.int q), .unset, .unset, .unset] [(.int (q &&& (2147483647 : Int32)))])) := fun t h => k t (XS.iand X0.here hx rfl (hb hby at_3) rfl h)
  replace k : own_K p.tables e below (s₁.setTop (entryFrame m #[(.int q)] maxLocals)) (s₁.setTop (mkF m 6 #[.val (.int q), .unset, .unset, .unset] [(.int (18 : Int32)), (.int (q &&& (2147483647 : Int32)))])) := fun t h => k t (XS.bipush X0.here hx rfl (hb hby at_4) h)
  replace k : own_K p.tables e below (s₁.setTop (entryFrame m #[(.int q)] maxLocals)) (s₁.setTop (mkF m 7 #[.val (.int q), .unset, .unset, .unset] [(.int ((q &&& (2147483647 : Int32)) % (18 : Int32)))])) := fun t h => k t (iremM X0 hx rfl (hb hby at_6) rfl (by decide) h)
  obtain ⟨ii, hii⟩ : ∃ z, z = ((q &&& (2147483647 : Int32)) % (18 : Int32)) := ⟨_, rfl⟩
  rw [← hii] at k
  obtain ⟨hi0, hi1⟩ := own_rng q
  rw [← hii] at hi0 hi1
  obtain ⟨nn, hnn⟩ : ∃ z, z = ii.toNatClampNeg := ⟨_, rfl⟩
  have hni : ii.toInt = (nn : Int) := by rw [hnn]; exact nat_of hi0
  have hn1 : nn < 18 := by
    have t1 : (18 : Int32).toInt = 18 := by decide
    rw [Int32.lt_iff_toInt_lt] at hi1
    omega
  replace k : own_K p.tables e below (s₁.setTop (entryFrame m #[(.int q)] maxLocals)) (s₁.setTop (mkF m 8 #[.val (.int q), .val (.int ii), .unset, .unset] [])) := fun t h => k t (XS.istoreN X0.here hx rfl (hb hby at_7) rfl (l' := #[.val (.int q), .val (.int ii), .unset, .unset]) rfl h)
  replace k : own_K p.tables e below (s₁.setTop (entryFrame m #[(.int q)] maxLocals)) (s₁.setTop (mkF m 9 #[.val (.int q), .val (.int ii), .unset, .unset] [(.int ii)])) := fun t h => k t (XS.iloadN X0.here hx rfl (hb hby at_8) rfl h)
  obtain ⟨_, _, ⟨T2, L2, kk2, n2⟩, -, X2, ⟨Lc2, hQ2, l2, y2, z2⟩, st2⟩ := Jvm.LawKit.callS X0 hx (y := (⟨"com/example/exact_labels/exactlabels/CharacterItemTypePinLaw", "pick", "(I)Lcom/example/exact_labels/exactlabels/CharacterItem;"⟩ : MethodName)) hown (mvT hZ (hw _ (List.mem_of_getElem? (i := 1) rfl))) (mvT hZ (hw _ (List.mem_of_getElem? (i := 2) rfl))) (mvT hZ (hw _ (List.mem_of_getElem? (i := 3) rfl))) (mvT hZ (hw _ (List.mem_of_getElem? (i := 4) rfl))) (by decide) (backOf (W := 0) (rm1 l Z a0 hw [] ii nn a h0 n0 S0 S1 S2 S3 S4 S5 S6 S7 S8 S9 S10 S11 S12 S13 S14 S15 S16 S17 hni hn1) hZ (hw _ (List.mem_of_getElem? (i := 4) rfl)) (hw _ (List.mem_of_getElem? (i := 3) rfl)) (by decide) (by decide)) (g := (mkF m 9 #[.val (.int q), .val (.int ii), .unset, .unset] [(.int ii)])) rfl (by rw [hml]; rfl) (argsL := [(.int ii)]) (rest := []) (lenOf own_pd0 rfl) rfl (by show 2 * 0 + _ ≤ _; exact Nat.le_of_eq rfl) (hb hby at_9) (fun _ _ => ⟨rfl, e0, (by decide : 0 + 0 ≤ _), (by decide : 0 + 0 ≤ _)⟩)
  dsimp only [Pt.U, Pt.locs, Pt.cells, Pt.slots] at X2 l2 y2 z2 st2 hQ2
  subst l2 y2 z2
  obtain ⟨rfl, N2q, eq1⟩ := hQ2
  have N2 := Fr.app N0 N2q
  replace k : own_K p.tables e below (s₁.setTop (entryFrame m #[(.int q)] maxLocals)) (T2.setTop (mkF m 12 #[.val (.int q), .val (.int ii), .unset, .unset] [(.ref (a nn))])) := fun t h => k t (st2 _ h)
  replace k : own_K p.tables e below (s₁.setTop (entryFrame m #[(.int q)] maxLocals)) (T2.setTop (mkF m 13 #[.val (.int q), .val (.int ii), .val (.ref (a nn)), .unset] [])) := fun t h => k t (XS.astoreN X2.here hx rfl (hb hby at_12) rfl rfl (l' := #[.val (.int q), .val (.int ii), .val (.ref (a nn)), .unset]) rfl h)
  replace k : own_K p.tables e below (s₁.setTop (entryFrame m #[(.int q)] maxLocals)) (T2.setTop (mkF m 14 #[.val (.int q), .val (.int ii), .val (.ref (a nn)), .unset] [(.int ii)])) := fun t h => k t (XS.iloadN X2.here hx rfl (hb hby at_13) rfl h)
  replace k : own_K p.tables e below (s₁.setTop (entryFrame m #[(.int q)] maxLocals)) (T2.setTop (mkF m 15 #[.val (.int q), .val (.int ii), .val (.ref (a nn)), .unset] [(.int (3 : Int32)), (.int ii)])) := fun t h => k t (XS.iconst X2.here hx rfl (hb hby at_14) h)
  by_cases cc3 : ii < (3 : Int32)
  · replace k : own_K p.tables e below (s₁.setTop (entryFrame m #[(.int q)] maxLocals)) (T2.setTop (mkF m 22 #[.val (.int q), .val (.int ii), .val (.ref (a nn)), .unset] [])) := fun t h => k t (XS.icmpYes X2.here hx rfl (pc0 := 15) (pc' := 22) rfl (hb hby at_15) rfl (tlt cc3).1 (by decide) (by decide) h)
    replace k : own_K p.tables e below (s₁.setTop (entryFrame m #[(.int q)] maxLocals)) (T2.setTop (mkF m 23 #[.val (.int q), .val (.int ii), .val (.ref (a nn)), .unset] [(.int (0 : Int32))])) := fun t h => k t (XS.iconst X2.here hx rfl (hb hby at_22) h)
    replace k : own_K p.tables e below (s₁.setTop (entryFrame m #[(.int q)] maxLocals)) (T2.setTop (mkF m 24 #[.val (.int q), .val (.int ii), .val (.ref (a nn)), .val (.int (0 : Int32))] [])) := fun t h => k t (XS.istoreN X2.here hx rfl (hb hby at_23) rfl (l' := #[.val (.int q), .val (.int ii), .val (.ref (a nn)), .val (.int (0 : Int32))]) rfl h)
    replace k : own_K p.tables e below (s₁.setTop (entryFrame m #[(.int q)] maxLocals)) (T2.setTop (mkF m 25 #[.val (.int q), .val (.int ii), .val (.ref (a nn)), .val (.int (0 : Int32))] [(.ref (a nn))])) := fun t h => k t (XS.aloadN X2.here hx rfl (hb hby at_24) rfl rfl h)
    obtain ⟨cq5, kq5, q5a, q5b, q5c⟩ := isOf hZ eq1 (EE nn hn1)
    obtain ⟨_, _, ⟨T5, L5, kk5, n5⟩, -, X5, ⟨Lc5, hQ5, l5, y5, z5⟩, st5⟩ := X2.virtualBack hx (y := (⟨"com/example/exact_labels/exactlabels/CharacterItem", "type", "()Z"⟩ : MethodName)) (z := (⟨"com/example/exact_labels/exactlabels/CharacterItem", "type", "()Z"⟩ : MethodName)) hown (mvT hZ (hw _ (List.mem_of_getElem? (i := 8) rfl))) (mvT hZ (hw _ (List.mem_of_getElem? (i := 9) rfl))) (notFace_of_selects (args := #[]) (mvT hZ (hw _ (List.mem_of_getElem? (i := 11) rfl)))) (mvT hZ (hw _ (List.mem_of_getElem? (i := 11) rfl))) (mvT hZ (hw _ (List.mem_of_getElem? (i := 10) rfl))) (by decide) (backOf (W := 0) (rm2 l Z a0 hw [] (a nn) a h0 n0 S0 S1 S2) hZ (hw _ (List.mem_of_getElem? (i := 12) rfl)) (hw _ (List.mem_of_getElem? (i := 6) rfl)) (by decide) (by decide)) q5a q5c (g := (mkF m 25 #[.val (.int q), .val (.int ii), .val (.ref (a nn)), .val (.int (0 : Int32))] [(.ref (a nn))])) rfl (by rw [hml]; rfl) (Steps.refl _) (argsL := []) (rest := []) (lenOf own_pd1 rfl) rfl (by show 2 * 0 + _ ≤ _; exact Nat.le_of_eq rfl) (hb hby at_25) (fun _ _ => ⟨rfl, eq1, (by decide : 0 + 0 ≤ _), (by decide : 0 + 0 ≤ _)⟩)
    dsimp only [Pt.U, Pt.locs, Pt.cells, Pt.slots] at X5 l5 y5 z5 st5 hQ5
    subst l5 y5 z5
    obtain ⟨rfl, N5q, eq4⟩ := hQ5
    have N5 := Fr.app N2 N5q
    replace k : own_K p.tables e below (s₁.setTop (entryFrame m #[(.int q)] maxLocals)) (T5.setTop (mkF m 28 #[.val (.int q), .val (.int ii), .val (.ref (a nn)), .val (.int (0 : Int32))] [(.int (own_f (a nn) a))])) := fun t h => k t (st5.trans h)
    have hval : own_f (a nn) a = (0 : Int32) := by
      rw [Int32.lt_iff_toInt_lt] at cc3
      have t3 : (3 : Int32).toInt = 3 := by decide
      exact own_f0 (by omega)
    replace k : own_K p.tables e below (s₁.setTop (entryFrame m #[(.int q)] maxLocals)) (T5.setTop (mkF m 29 #[.val (.int q), .val (.int ii), .val (.ref (a nn)), .val (.int (0 : Int32))] [(.int (0 : Int32)), (.int (own_f (a nn) a))])) := fun t h => k t (XS.iloadN X5.here hx rfl (hb hby at_28) rfl h)
    replace k : own_K p.tables e below (s₁.setTop (entryFrame m #[(.int q)] maxLocals)) (T5.setTop (mkF m 32 #[.val (.int q), .val (.int ii), .val (.ref (a nn)), .val (.int (0 : Int32))] [])) := fun t h => k t (XS.icmpNo X5.here hx rfl (hb hby at_29) rfl (teq hval).2 h)
    replace k : own_K p.tables e below (s₁.setTop (entryFrame m #[(.int q)] maxLocals)) (T5.setTop (mkF m 33 #[.val (.int q), .val (.int ii), .val (.ref (a nn)), .val (.int (0 : Int32))] [(.int (1 : Int32))])) := fun t h => k t (XS.iconst X5.here hx rfl (hb hby at_32) h)
    replace k : own_K p.tables e below (s₁.setTop (entryFrame m #[(.int q)] maxLocals)) (T5.setTop (mkF m 37 #[.val (.int q), .val (.int ii), .val (.ref (a nn)), .val (.int (0 : Int32))] [(.int (1 : Int32))])) := fun t h => k t (XS.goto X5.here hx rfl (pc0 := 33) (pc' := 37) rfl (hb hby at_33) (by decide) (by decide) h)
    obtain ⟨fs, hr, hrun, hended, hW, hsame⟩ := X5.leave (v := some (.int (1 : Int32))) (fun h => by rw [Bd.returns] at h; cases h)
    refine ⟨_, _, k _ (retOut X5 hx Bd.returns rfl (Or.inl ⟨rfl, by simp [ret], _, rfl⟩) (hb hby at_37) hr), hrun, hended, _, _, rfl, ?_, ⟨_, rfl⟩, hW, hsame.mono (by decide) (by decide)⟩
    show Q0 Z q a h0 n0 _ T5.heap _
    rw [eq4]
    exact ⟨rfl, N5⟩
  · replace k : own_K p.tables e below (s₁.setTop (entryFrame m #[(.int q)] maxLocals)) (T2.setTop (mkF m 18 #[.val (.int q), .val (.int ii), .val (.ref (a nn)), .unset] [])) := fun t h => k t (XS.icmpNo X2.here hx rfl (hb hby at_15) rfl (flt cc3).1 h)
    replace k : own_K p.tables e below (s₁.setTop (entryFrame m #[(.int q)] maxLocals)) (T2.setTop (mkF m 19 #[.val (.int q), .val (.int ii), .val (.ref (a nn)), .unset] [(.int (1 : Int32))])) := fun t h => k t (XS.iconst X2.here hx rfl (hb hby at_18) h)
    replace k : own_K p.tables e below (s₁.setTop (entryFrame m #[(.int q)] maxLocals)) (T2.setTop (mkF m 23 #[.val (.int q), .val (.int ii), .val (.ref (a nn)), .unset] [(.int (1 : Int32))])) := fun t h => k t (XS.goto X2.here hx rfl (pc0 := 19) (pc' := 23) rfl (hb hby at_19) (by decide) (by decide) h)
    replace k : own_K p.tables e below (s₁.setTop (entryFrame m #[(.int q)] maxLocals)) (T2.setTop (mkF m 24 #[.val (.int q), .val (.int ii), .val (.ref (a nn)), .val (.int (1 : Int32))] [])) := fun t h => k t (XS.istoreN X2.here hx rfl (hb hby at_23) rfl (l' := #[.val (.int q), .val (.int ii), .val (.ref (a nn)), .val (.int (1 : Int32))]) rfl h)
    replace k : own_K p.tables e below (s₁.setTop (entryFrame m #[(.int q)] maxLocals)) (T2.setTop (mkF m 25 #[.val (.int q), .val (.int ii), .val (.ref (a nn)), .val (.int (1 : Int32))] [(.ref (a nn))])) := fun t h => k t (XS.aloadN X2.here hx rfl (hb hby at_24) rfl rfl h)
    obtain ⟨cq7, kq7, q7a, q7b, q7c⟩ := isOf hZ eq1 (EE nn hn1)
    obtain ⟨_, _, ⟨T7, L7, kk7, n7⟩, -, X7, ⟨Lc7, hQ7, l7, y7, z7⟩, st7⟩ := X2.virtualBack hx (y := (⟨"com/example/exact_labels/exactlabels/CharacterItem", "type", "()Z"⟩ : MethodName)) (z := (⟨"com/example/exact_labels/exactlabels/CharacterItem", "type", "()Z"⟩ : MethodName)) hown (mvT hZ (hw _ (List.mem_of_getElem? (i := 8) rfl))) (mvT hZ (hw _ (List.mem_of_getElem? (i := 9) rfl))) (notFace_of_selects (args := #[]) (mvT hZ (hw _ (List.mem_of_getElem? (i := 11) rfl)))) (mvT hZ (hw _ (List.mem_of_getElem? (i := 11) rfl))) (mvT hZ (hw _ (List.mem_of_getElem? (i := 10) rfl))) (by decide) (backOf (W := 0) (rm2 l Z a0 hw [] (a nn) a h0 n0 S0 S1 S2) hZ (hw _ (List.mem_of_getElem? (i := 12) rfl)) (hw _ (List.mem_of_getElem? (i := 6) rfl)) (by decide) (by decide)) q7a q7c (g := (mkF m 25 #[.val (.int q), .val (.int ii), .val (.ref (a nn)), .val (.int (1 : Int32))] [(.ref (a nn))])) rfl (by rw [hml]; rfl) (Steps.refl _) (argsL := []) (rest := []) (lenOf own_pd1 rfl) rfl (by show 2 * 0 + _ ≤ _; exact Nat.le_of_eq rfl) (hb hby at_25) (fun _ _ => ⟨rfl, eq1, (by decide : 0 + 0 ≤ _), (by decide : 0 + 0 ≤ _)⟩)
    dsimp only [Pt.U, Pt.locs, Pt.cells, Pt.slots] at X7 l7 y7 z7 st7 hQ7
    subst l7 y7 z7
    obtain ⟨rfl, N7q, eq6⟩ := hQ7
    have N7 := Fr.app N2 N7q
    replace k : own_K p.tables e below (s₁.setTop (entryFrame m #[(.int q)] maxLocals)) (T7.setTop (mkF m 28 #[.val (.int q), .val (.int ii), .val (.ref (a nn)), .val (.int (1 : Int32))] [(.int (own_f (a nn) a))])) := fun t h => k t (st7.trans h)
    have hval : own_f (a nn) a = (1 : Int32) := by
      rw [Int32.lt_iff_toInt_lt] at cc3
      have t3 : (3 : Int32).toInt = 3 := by decide
      exact own_f1 DD hn1 (by omega)
    replace k : own_K p.tables e below (s₁.setTop (entryFrame m #[(.int q)] maxLocals)) (T7.setTop (mkF m 29 #[.val (.int q), .val (.int ii), .val (.ref (a nn)), .val (.int (1 : Int32))] [(.int (1 : Int32)), (.int (own_f (a nn) a))])) := fun t h => k t (XS.iloadN X7.here hx rfl (hb hby at_28) rfl h)
    replace k : own_K p.tables e below (s₁.setTop (entryFrame m #[(.int q)] maxLocals)) (T7.setTop (mkF m 32 #[.val (.int q), .val (.int ii), .val (.ref (a nn)), .val (.int (1 : Int32))] [])) := fun t h => k t (XS.icmpNo X7.here hx rfl (hb hby at_29) rfl (teq hval).2 h)
    replace k : own_K p.tables e below (s₁.setTop (entryFrame m #[(.int q)] maxLocals)) (T7.setTop (mkF m 33 #[.val (.int q), .val (.int ii), .val (.ref (a nn)), .val (.int (1 : Int32))] [(.int (1 : Int32))])) := fun t h => k t (XS.iconst X7.here hx rfl (hb hby at_32) h)
    replace k : own_K p.tables e below (s₁.setTop (entryFrame m #[(.int q)] maxLocals)) (T7.setTop (mkF m 37 #[.val (.int q), .val (.int ii), .val (.ref (a nn)), .val (.int (1 : Int32))] [(.int (1 : Int32))])) := fun t h => k t (XS.goto X7.here hx rfl (pc0 := 33) (pc' := 37) rfl (hb hby at_33) (by decide) (by decide) h)
    obtain ⟨fs, hr, hrun, hended, hW, hsame⟩ := X7.leave (v := some (.int (1 : Int32))) (fun h => by rw [Bd.returns] at h; cases h)
    refine ⟨_, _, k _ (retOut X7 hx Bd.returns rfl (Or.inl ⟨rfl, by simp [ret], _, rfl⟩) (hb hby at_37) hr), hrun, hended, _, _, rfl, ?_, ⟨_, rfl⟩, hW, hsame.mono (by decide) (by decide)⟩
    show Q0 Z q a h0 n0 _ T7.heap _
    rw [eq6]
    exact ⟨rfl, N7⟩
set_option maxRecDepth 65536 in
set_option maxHeartbeats 40000000 in
theorem comes_1 {Post : Tables → Env → Array Value → State → Outcome → State → Prop} (hpost : ∀ tb e args s v u, (limb_1_1.after args s (.returned v) u = true ∧ limb_1_2.after args s (.returned v) u = true ∧ True) → FrameEnd s (.returned v) u (Jvm.fieldLocs frame_1_writes args s ++ Jvm.arrayLocs frame_1_arrays args s ++ Jvm.staticLocs frame_1_statics s) 0 0 → Post tb e args s (.returned v) u) :
    ArmFor flags0 classFile x code maxLocals ret World_1 tables_1 room_1 Calls_1 rest_1 Pre_1 Post := by
  intro l hfl _ _ p e ha hc hk s m args below hf hA hF happ hP
  obtain ⟨hcalls, hrest, hpre⟩ := hP
  obtain ⟨-, -, -, hnamed, -, -, -, hat⟩ := (Spec.applies_iff hf).mp happ
  obtain ⟨hg, hn⟩ := and_e (Cond.before_iff.mp (show (Jvm.Cond.and given_1 narrow_1).before args s = true from hpre))
  obtain ⟨hcount, hg⟩ := and_e hg
  obtain ⟨w0, rfl⟩ : ∃ w0 : Value, args = #[w0] := by
    have hs : args.size = 1 := by simpa [Cond.value, given_1] using hcount
    obtain ⟨L⟩ := args
    match L, hs with
    | [w0], _ => exact ⟨w0, rfl⟩
  have hw := fun d (hd : d ∈ tables_1) => atoms_spec (ws := Jvm.Cond.code x code maxLocals ret :: tables_1) hat d (List.mem_cons_of_mem _ hd)
  have hfit : Fit s := fun {y c} hc i hi => by
    obtain ⟨ha, rfl⟩ := Array.getElem?_eq_some_iff.mp hc
    have q := List.all_eq_true.mp ((Array.all_eq_true_iff_forall_mem.mp hF) _ (Array.getElem_mem ha)) i (List.mem_range.mpr hi)
    simpa [Array.getElem?_eq_getElem hi] using q
  obtain ⟨i0, hi0⟩ := is_v hg
  obtain rfl : w0 = (.int i0) := Option.some.inj hi0
  obtain ⟨r0, hn⟩ := and_e hn
  obtain ⟨r1, hn⟩ := and_e hn
  obtain ⟨r2, hn⟩ := and_e hn
  obtain ⟨r3, hn⟩ := and_e hn
  obtain ⟨r4, hn⟩ := and_e hn
  obtain ⟨r5, hn⟩ := and_e hn
  obtain ⟨r6, hn⟩ := and_e hn
  obtain ⟨r7, hn⟩ := and_e hn
  obtain ⟨r8, hn⟩ := and_e hn
  obtain ⟨r9, hn⟩ := and_e hn
  obtain ⟨r10, hn⟩ := and_e hn
  obtain ⟨r11, hn⟩ := and_e hn
  obtain ⟨r12, hn⟩ := and_e hn
  obtain ⟨r13, hn⟩ := and_e hn
  obtain ⟨r14, hn⟩ := and_e hn
  obtain ⟨r15, hn⟩ := and_e hn
  obtain ⟨r16, hn⟩ := and_e hn
  obtain ⟨r17, hn⟩ := and_e hn
  obtain ⟨r18, hn⟩ := and_e hn
  obtain ⟨r19, hn⟩ := and_e hn
  obtain ⟨r20, hn⟩ := and_e hn
  obtain ⟨r21, hn⟩ := and_e hn
  obtain ⟨r22, hn⟩ := and_e hn
  obtain ⟨r23, hn⟩ := and_e hn
  obtain ⟨r24, hn⟩ := and_e hn
  obtain ⟨r25, hn⟩ := and_e hn
  obtain ⟨r26, hn⟩ := and_e hn
  obtain ⟨r27, hn⟩ := and_e hn
  obtain ⟨r28, hn⟩ := and_e hn
  obtain ⟨r29, hn⟩ := and_e hn
  obtain ⟨r30, hn⟩ := and_e hn
  obtain ⟨r31, hn⟩ := and_e hn
  obtain ⟨r32, hn⟩ := and_e hn
  obtain ⟨r33, hn⟩ := and_e hn
  obtain ⟨r34, hn⟩ := and_e hn
  have r35 := hn
  obtain ⟨x0, S0, E0, ev0⟩ := own_stat r0 (hw _ (List.mem_of_getElem? (i := 6) rfl)) (hw _ (List.mem_of_getElem? (i := 7) rfl))
  obtain ⟨x3, S3, E3, ev3⟩ := own_stat r1 (hw _ (List.mem_of_getElem? (i := 6) rfl)) (hw _ (List.mem_of_getElem? (i := 15) rfl))
  obtain ⟨x1, S1, E1, ev1⟩ := own_stat r4 (hw _ (List.mem_of_getElem? (i := 6) rfl)) (hw _ (List.mem_of_getElem? (i := 17) rfl))
  obtain ⟨x2, S2, E2, ev2⟩ := own_stat r6 (hw _ (List.mem_of_getElem? (i := 6) rfl)) (hw _ (List.mem_of_getElem? (i := 19) rfl))
  obtain ⟨x7, S7, E7, ev7⟩ := own_stat r8 (hw _ (List.mem_of_getElem? (i := 6) rfl)) (hw _ (List.mem_of_getElem? (i := 23) rfl))
  obtain ⟨x11, S11, E11, ev11⟩ := own_stat r10 (hw _ (List.mem_of_getElem? (i := 6) rfl)) (hw _ (List.mem_of_getElem? (i := 25) rfl))
  obtain ⟨x4, S4, E4, ev4⟩ := own_stat r12 (hw _ (List.mem_of_getElem? (i := 6) rfl)) (hw _ (List.mem_of_getElem? (i := 27) rfl))
  obtain ⟨x8, S8, E8, ev8⟩ := own_stat r14 (hw _ (List.mem_of_getElem? (i := 6) rfl)) (hw _ (List.mem_of_getElem? (i := 29) rfl))
  obtain ⟨x12, S12, E12, ev12⟩ := own_stat r16 (hw _ (List.mem_of_getElem? (i := 6) rfl)) (hw _ (List.mem_of_getElem? (i := 31) rfl))
  obtain ⟨x16, S16, E16, ev16⟩ := own_stat r18 (hw _ (List.mem_of_getElem? (i := 6) rfl)) (hw _ (List.mem_of_getElem? (i := 33) rfl))
  obtain ⟨x15, S15, E15, ev15⟩ := own_stat r20 (hw _ (List.mem_of_getElem? (i := 6) rfl)) (hw _ (List.mem_of_getElem? (i := 35) rfl))
  obtain ⟨x10, S10, E10, ev10⟩ := own_stat r22 (hw _ (List.mem_of_getElem? (i := 6) rfl)) (hw _ (List.mem_of_getElem? (i := 37) rfl))
  obtain ⟨x13, S13, E13, ev13⟩ := own_stat r24 (hw _ (List.mem_of_getElem? (i := 6) rfl)) (hw _ (List.mem_of_getElem? (i := 39) rfl))
  obtain ⟨x6, S6, E6, ev6⟩ := own_stat r26 (hw _ (List.mem_of_getElem? (i := 6) rfl)) (hw _ (List.mem_of_getElem? (i := 41) rfl))
  obtain ⟨x17, S17, E17, ev17⟩ := own_stat r28 (hw _ (List.mem_of_getElem? (i := 6) rfl)) (hw _ (List.mem_of_getElem? (i := 43) rfl))
  obtain ⟨x14, S14, E14, ev14⟩ := own_stat r30 (hw _ (List.mem_of_getElem? (i := 6) rfl)) (hw _ (List.mem_of_getElem? (i := 45) rfl))
  obtain ⟨x5, S5, E5, ev5⟩ := own_stat r32 (hw _ (List.mem_of_getElem? (i := 6) rfl)) (hw _ (List.mem_of_getElem? (i := 47) rfl))
  obtain ⟨x9, S9, E9, ev9⟩ := own_stat r34 (hw _ (List.mem_of_getElem? (i := 6) rfl)) (hw _ (List.mem_of_getElem? (i := 49) rfl))
  have F_ordinal3 := own_fldI ev3 r2
  have F_ordinal0 := own_fldI ev0 r3
  have F_ordinal1 := own_fldI ev1 r5
  have F_ordinal2 := own_fldI ev2 r7
  have F_ordinal7 := own_fldI ev7 r9
  have F_ordinal11 := own_fldI ev11 r11
  have F_ordinal4 := own_fldI ev4 r13
  have F_ordinal8 := own_fldI ev8 r15
  have F_ordinal12 := own_fldI ev12 r17
  have F_ordinal16 := own_fldI ev16 r19
  have F_ordinal15 := own_fldI ev15 r21
  have F_ordinal10 := own_fldI ev10 r23
  have F_ordinal13 := own_fldI ev13 r25
  have F_ordinal6 := own_fldI ev6 r27
  have F_ordinal17 := own_fldI ev17 r29
  have F_ordinal14 := own_fldI ev14 r31
  have F_ordinal5 := own_fldI ev5 r33
  have F_ordinal9 := own_fldI ev9 r35
  obtain ⟨a, ha0⟩ : ∃ a : Nat → Addr, a = fun n => [x0, x1, x2, x3, x4, x5, x6, x7, x8, x9, x10, x11, x12, x13, x14, x15, x16, x17].getD n 0 := ⟨_, rfl⟩
  have hx0 : x0 = a 0 := by rw [ha0]; rfl
  have hx1 : x1 = a 1 := by rw [ha0]; rfl
  have hx2 : x2 = a 2 := by rw [ha0]; rfl
  have hx3 : x3 = a 3 := by rw [ha0]; rfl
  have hx4 : x4 = a 4 := by rw [ha0]; rfl
  have hx5 : x5 = a 5 := by rw [ha0]; rfl
  have hx6 : x6 = a 6 := by rw [ha0]; rfl
  have hx7 : x7 = a 7 := by rw [ha0]; rfl
  have hx8 : x8 = a 8 := by rw [ha0]; rfl
  have hx9 : x9 = a 9 := by rw [ha0]; rfl
  have hx10 : x10 = a 10 := by rw [ha0]; rfl
  have hx11 : x11 = a 11 := by rw [ha0]; rfl
  have hx12 : x12 = a 12 := by rw [ha0]; rfl
  have hx13 : x13 = a 13 := by rw [ha0]; rfl
  have hx14 : x14 = a 14 := by rw [ha0]; rfl
  have hx15 : x15 = a 15 := by rw [ha0]; rfl
  have hx16 : x16 = a 16 := by rw [ha0]; rfl
  have hx17 : x17 = a 17 := by rw [ha0]; rfl
  clear ha0
  subst hx0
  subst hx1
  subst hx2
  subst hx3
  subst hx4
  subst hx5
  subst hx6
  subst hx7
  subst hx8
  subst hx9
  subst hx10
  subst hx11
  subst hx12
  subst hx13
  subst hx14
  subst hx15
  subst hx16
  subst hx17
  have EE : ∀ n, n < 18 → Exa s s.heap (a n) "com/example/exact_labels/exactlabels/CharacterItem" := fun n hn => by
    rcases own_lt18 hn with rfl | rfl | rfl | rfl | rfl | rfl | rfl | rfl | rfl | rfl | rfl | rfl | rfl | rfl | rfl | rfl | rfl | rfl
    · exact E0
    · exact E1
    · exact E2
    · exact E3
    · exact E4
    · exact E5
    · exact E6
    · exact E7
    · exact E8
    · exact E9
    · exact E10
    · exact E11
    · exact E12
    · exact E13
    · exact E14
    · exact E15
    · exact E16
    · exact E17
  have OO : ∀ n, n < 18 → Fld s s.heap (a n) "java/lang/Enum" "ordinal" "I" (.int (Int32.ofNat n)) := fun n hn => by
    rcases own_lt18 hn with rfl | rfl | rfl | rfl | rfl | rfl | rfl | rfl | rfl | rfl | rfl | rfl | rfl | rfl | rfl | rfl | rfl | rfl
    · exact F_ordinal0
    · exact F_ordinal1
    · exact F_ordinal2
    · exact F_ordinal3
    · exact F_ordinal4
    · exact F_ordinal5
    · exact F_ordinal6
    · exact F_ordinal7
    · exact F_ordinal8
    · exact F_ordinal9
    · exact F_ordinal10
    · exact F_ordinal11
    · exact F_ordinal12
    · exact F_ordinal13
    · exact F_ordinal14
    · exact F_ordinal15
    · exact F_ordinal16
    · exact F_ordinal17
  have DD : ∀ n m, n < 18 → m < 18 → a n = a m → n = m := fun n m hn hm e => own_inj (by omega) (by omega) (OO n hn) (e ▸ OO m hm)
  obtain ⟨n, o, h1, h2, h3, _, L, rfl, ⟨rfl, N⟩, hq⟩ := rm0 l s _ hw tables_1 i0 a s.heap s.heap.size S0 S1 S2 S3 S4 S5 S6 S7 S8 S9 S10 S11 S12 S13 S14 S15 S16 S17 EE DD p e ha hc hk s m _ below hf ((Spec.applies_iff_loose hf).mp happ).1 ⟨rfl, State.Warmed39.refl s, rfl⟩ trivial
  refine ⟨n, _, h1, h2, h3, hpost _ _ _ _ _ _ ⟨Cond.after_iff.mpr rfl, Cond.after_iff.mpr (eq_i res_at (Term.int_eval (1)) rfl), trivial⟩ ⟨hq.1, hq.2.1, (hq.2.2.sift fun y hy => Or.inr (N y hy)).mono (by decide) (by decide)⟩⟩
theorem main_1_1 : Claimed_1_1 := comes_1 fun _ _ _ _ _ _ h hF => ⟨h.1, hF⟩
theorem main_1_2 : Claimed_1_2 := comes_1 fun _ _ _ _ _ _ h hF => ⟨h.2.1, hF⟩
end Jvm.Pilot.@@N@@
namespace Jvm.Pilot.@@N@@
open Jvm Jvm.ClassFile Sem Op Lib Jvm.Free Jvm.Stand Jvm.Pilot.@@N@@.Jvm.D
/-! MADE BY PROGRAM (witnessworld.py) out of the Statement's table words and the real class files: 12 classes; the members and pool entries that the words name. The judged class is class 1, her method 2. -/
namespace start1
open Jvm.ClassFile
def u (s : String) : CpInfo := .utf8 (stringToUtf16 s)
/-- a pool by its gaps: so many unusable entries, then the entry; so many at the end -/
def gap : Nat → List CpInfo → List CpInfo
  | 0, r => r
  | n + 1, r => .unusable :: gap n r
def poolList (es : List (Nat × CpInfo)) (last : Nat) : List CpInfo := es.foldr (fun e r => gap e.1 (e.2 :: r)) (gap last [])
def pool (es : List (Nat × CpInfo)) (last : Nat) : Array CpInfo := ⟨poolList es last⟩
def fileOf (pool : Array CpInfo) (this : Nat) (attrs : Array Attribute := #[]) (ms : Array MethodInfo := #[]) (fl : Nat := 33) (sup : Nat := 0) (ifs : Array Nat := #[]) (fds : Array FieldInfo := #[]) : ClassFile where
  minorVersion := 0
  majorVersion := 65
  constantPool := pool
  accessFlags := fl
  thisClass := this
  superClass := sup
  interfaces := ifs
  fields := fds
  methods := ms
  attributes := attrs
def plain (name : String) (sup : Option ClassId) : Class where
  name := name
  kind := .ordinary
  loader := none
  accessFlags := 33
  super := sup
  interfaces := #[]
  cf := none
  fields := #[]
  methods := #[]
  instanceTypes := #[]
  staticTypes := #[]
  resolved := #[]
  callSites := []
  init := .initialized
  statics := none
  mirror := none

def pool0 : Array CpInfo := pool [(5, u "<init>"), (0, u "()V"), (1, .class_ 10), (1, u "java/lang/Object")] 113

def k0m0 : Method := { name := "<init>", desc := "()V", sig := { parameters := [], returnType := none }, accessFlags := 1, code := none }
/-- java/lang/Object -/
def k0 : Class := { plain "java/lang/Object" none with
  accessFlags := 33
  interfaces := #[]
  cf := some (fileOf pool0 8 #[] #[{ accessFlags := 1, nameIndex := 5, descriptorIndex := 6, attributes := #[] }] 33 0 #[] #[])
  fields := #[]
  methods := #[k0m0]
  instanceTypes := #[]
  staticTypes := #[]
  resolved := Array.replicate 124 none
  statics := none }

def pool1 : Array CpInfo := pool [(2, .class_ 4), (1, u "java/lang/Object"), (0, u "<init>"), (0, u "()V"), (0, .fieldref 8 9), (0, .class_ 10), (0, .nameAndType 11 12), (0, u "com/example/exact_labels/exactlabels/CharacterItem"), (0, u "CHARACTER"), (0, u "Lcom/example/exact_labels/exactlabels/CharacterItem;"), (0, .fieldref 8 14), (0, .nameAndType 15 12), (0, u "NOT_CHARACTER"), (0, .fieldref 8 17), (0, .nameAndType 18 12), (0, u "CLASS"), (0, .fieldref 8 20), (0, .nameAndType 21 12), (0, u "DIGIT"), (0, .fieldref 8 23), (0, .nameAndType 24 12), (0, u "NOT_DIGIT"), (0, .fieldref 8 26), (0, .nameAndType 27 12), (0, u "SPACE"), (0, .fieldref 8 29), (0, .nameAndType 30 12), (0, u "NOT_SPACE"), (0, .fieldref 8 32), (0, .nameAndType 33 12), (0, u "WORD"), (0, .fieldref 8 35), (0, .nameAndType 36 12), (0, u "NOT_WORD"), (0, .fieldref 8 38), (0, .nameAndType 39 12), (0, u "HORIZONTAL"), (0, .fieldref 8 41), (0, .nameAndType 42 12), (0, u "NOT_HORIZONTAL"), (0, .fieldref 8 44), (0, .nameAndType 45 12), (0, u "VERTICAL"), (0, .fieldref 8 47), (0, .nameAndType 48 12), (0, u "NOT_VERTICAL"), (0, .fieldref 8 50), (0, .nameAndType 51 12), (0, u "NEWLINE"), (0, .fieldref 8 53), (0, .nameAndType 54 12), (0, u "NOT_NEWLINE"), (0, .fieldref 8 56), (0, .nameAndType 57 12), (0, u "ANY"), (0, .fieldref 8 59), (0, .nameAndType 60 12), (0, u "BYTE"), (0, .fieldref 8 62), (0, .nameAndType 63 12), (0, u "GRAPHEME"), (0, .integer 2147483647), (0, .methodref 66 67), (0, .class_ 68), (0, .nameAndType 69 70), (0, u "com/example/exact_labels/exactlabels/CharacterItemTypePinLaw"), (0, u "pick"), (0, u "(I)Lcom/example/exact_labels/exactlabels/CharacterItem;"), (0, .methodref 8 72), (0, .nameAndType 73 74), (0, u "type"), (0, u "()Z"), (3, u "law"), (0, u "(I)Z")] 2

def k1m0 : Method := { name := "<init>", desc := "()V", sig := { parameters := [], returnType := none }, accessFlags := 1, code := none }
def k1c1 : Code := { maxStack := 2, maxLocals := 1, code := method_2_code, exceptionTable := #[], attributes := #[] }
def k1m1 : Method := { name := "pick", desc := "(I)Lcom/example/exact_labels/exactlabels/CharacterItem;", sig := { parameters := [.int], returnType := some (.object "com/example/exact_labels/exactlabels/CharacterItem") }, accessFlags := 10, code := some k1c1 }
def k1c2 : Code := { maxStack := 2, maxLocals := 4, code := code, exceptionTable := #[], attributes := #[] }
def k1m2 : Method := { name := "law", desc := "(I)Z", sig := { parameters := [.int], returnType := some .boolean }, accessFlags := 9, code := some k1c2 }
/-- com/example/exact_labels/exactlabels/CharacterItemTypePinLaw -/
def k1 : Class := { plain "com/example/exact_labels/exactlabels/CharacterItemTypePinLaw" (some 0) with
  accessFlags := 49
  interfaces := #[]
  cf := some (fileOf pool1 66 #[] #[{ accessFlags := 1, nameIndex := 5, descriptorIndex := 6, attributes := #[] }, { accessFlags := 10, nameIndex := 69, descriptorIndex := 70, attributes := #[] }, { accessFlags := 9, nameIndex := 78, descriptorIndex := 79, attributes := #[] }] 49 2 #[] #[])
  fields := #[]
  methods := #[k1m0, k1m1, k1m2]
  instanceTypes := #[]
  staticTypes := #[]
  resolved := Array.replicate 82 none
  statics := none }

def pool2 : Array CpInfo := pool [(1, .class_ 2), (0, u "java/lang/constant/Constable"), (0, .class_ 4), (0, u "java/lang/Object")] 6

/-- java/lang/constant/Constable -/
def k2 : Class := { plain "java/lang/constant/Constable" (some 0) with
  accessFlags := 1537
  interfaces := #[]
  cf := some (fileOf pool2 1 #[] #[] 1537 3 #[] #[])
  fields := #[]
  methods := #[]
  instanceTypes := #[]
  staticTypes := #[]
  resolved := Array.replicate 11 none
  statics := none }

def pool3 : Array CpInfo := pool [(1, .class_ 2), (0, u "java/lang/Comparable"), (0, .class_ 4), (0, u "java/lang/Object")] 7

/-- java/lang/Comparable -/
def k3 : Class := { plain "java/lang/Comparable" (some 0) with
  accessFlags := 1537
  interfaces := #[]
  cf := some (fileOf pool3 1 #[] #[] 1537 3 #[] #[])
  fields := #[]
  methods := #[]
  instanceTypes := #[]
  staticTypes := #[]
  resolved := Array.replicate 12 none
  statics := none }

def pool4 : Array CpInfo := pool [(1, .class_ 2), (0, u "java/io/Serializable"), (0, .class_ 4), (0, u "java/lang/Object")] 2

/-- java/io/Serializable -/
def k4 : Class := { plain "java/io/Serializable" (some 0) with
  accessFlags := 1537
  interfaces := #[]
  cf := some (fileOf pool4 1 #[] #[] 1537 3 #[] #[])
  fields := #[]
  methods := #[]
  instanceTypes := #[]
  staticTypes := #[]
  resolved := Array.replicate 7 none
  statics := none }

def pool5 : Array CpInfo := pool [(2, .class_ 4), (1, u "java/lang/Enum"), (0, u "name"), (0, u "Ljava/lang/String;"), (2, u "ordinal"), (0, u "I"), (1, .class_ 14), (1, u "java/lang/Object"), (4, u "hash"), (86, .class_ 108), (1, u "java/lang/Enum$EnumDesc"), (2, .class_ 112), (0, u "java/lang/constant/Constable"), (0, .class_ 114), (0, u "java/lang/Comparable"), (0, .class_ 116), (0, u "java/io/Serializable")] 87

/-- java/lang/Enum -/
def k5 : Class := { plain "java/lang/Enum" (some 0) with
  accessFlags := 1057
  interfaces := #[2, 3, 4]
  cf := some (fileOf pool5 2 #[.nestMembers #[106]] #[] 1057 12 #[111, 113, 115] #[{ accessFlags := 18, nameIndex := 5, descriptorIndex := 6, attributes := #[] }, { accessFlags := 18, nameIndex := 9, descriptorIndex := 10, attributes := #[] }, { accessFlags := 2, nameIndex := 19, descriptorIndex := 10, attributes := #[] }])
  fields := #[{ name := "name", type := (.object "java/lang/String"), accessFlags := 18, slot := 0, constantValue := 0 }, { name := "ordinal", type := .int, accessFlags := 18, slot := 1, constantValue := 0 }, { name := "hash", type := .int, accessFlags := 2, slot := 2, constantValue := 0 }]
  methods := #[]
  instanceTypes := #[(.object "java/lang/String"), .int, .int]
  staticTypes := #[]
  resolved := Array.replicate 204 none
  statics := none }

def pool6 : Array CpInfo := pool [(1, .class_ 2), (0, u "com/example/exact_labels/exactlabels/CharacterItem"), (0, .fieldref 1 4), (0, .nameAndType 5 6), (0, u "CHARACTER"), (0, u "Lcom/example/exact_labels/exactlabels/CharacterItem;"), (0, .fieldref 1 8), (0, .nameAndType 9 6), (0, u "NOT_CHARACTER"), (0, .fieldref 1 11), (0, .nameAndType 12 6), (0, u "CLASS"), (2, u "DIGIT"), (2, u "NOT_DIGIT"), (2, u "SPACE"), (2, u "NOT_SPACE"), (2, u "WORD"), (2, u "NOT_WORD"), (2, u "HORIZONTAL"), (2, u "NOT_HORIZONTAL"), (2, u "VERTICAL"), (2, u "NOT_VERTICAL"), (2, u "NEWLINE"), (2, u "NOT_NEWLINE"), (2, u "ANY"), (2, u "BYTE"), (2, u "GRAPHEME"), (2, u "$VALUES"), (0, u "[Lcom/example/exact_labels/exactlabels/CharacterItem;"), (6, .class_ 70), (1, u "java/lang/Enum"), (44, u "()Z"), (30, u "type")] 9

def k6c0 : Code := { maxStack := 2, maxLocals := 1, code := prog_10_method_4_code, exceptionTable := #[], attributes := #[] }
def k6m0 : Method := { name := "type", desc := "()Z", sig := { parameters := [], returnType := some .boolean }, accessFlags := 0, code := some k6c0 }
/-- com/example/exact_labels/exactlabels/CharacterItem -/
def k6 : Class := { plain "com/example/exact_labels/exactlabels/CharacterItem" (some 5) with
  accessFlags := 16432
  interfaces := #[]
  cf := some (fileOf pool6 1 #[] #[{ accessFlags := 0, nameIndex := 146, descriptorIndex := 115, attributes := #[] }] 16432 68 #[] #[{ accessFlags := 16409, nameIndex := 5, descriptorIndex := 6, attributes := #[] }, { accessFlags := 16409, nameIndex := 9, descriptorIndex := 6, attributes := #[] }, { accessFlags := 16409, nameIndex := 12, descriptorIndex := 6, attributes := #[] }, { accessFlags := 16409, nameIndex := 15, descriptorIndex := 6, attributes := #[] }, { accessFlags := 16409, nameIndex := 18, descriptorIndex := 6, attributes := #[] }, { accessFlags := 16409, nameIndex := 21, descriptorIndex := 6, attributes := #[] }, { accessFlags := 16409, nameIndex := 24, descriptorIndex := 6, attributes := #[] }, { accessFlags := 16409, nameIndex := 27, descriptorIndex := 6, attributes := #[] }, { accessFlags := 16409, nameIndex := 30, descriptorIndex := 6, attributes := #[] }, { accessFlags := 16409, nameIndex := 33, descriptorIndex := 6, attributes := #[] }, { accessFlags := 16409, nameIndex := 36, descriptorIndex := 6, attributes := #[] }, { accessFlags := 16409, nameIndex := 39, descriptorIndex := 6, attributes := #[] }, { accessFlags := 16409, nameIndex := 42, descriptorIndex := 6, attributes := #[] }, { accessFlags := 16409, nameIndex := 45, descriptorIndex := 6, attributes := #[] }, { accessFlags := 16409, nameIndex := 48, descriptorIndex := 6, attributes := #[] }, { accessFlags := 16409, nameIndex := 51, descriptorIndex := 6, attributes := #[] }, { accessFlags := 16409, nameIndex := 54, descriptorIndex := 6, attributes := #[] }, { accessFlags := 16409, nameIndex := 57, descriptorIndex := 6, attributes := #[] }, { accessFlags := 4122, nameIndex := 60, descriptorIndex := 61, attributes := #[] }])
  fields := #[{ name := "CHARACTER", type := (.object "com/example/exact_labels/exactlabels/CharacterItem"), accessFlags := 16409, slot := 0, constantValue := 0 }, { name := "NOT_CHARACTER", type := (.object "com/example/exact_labels/exactlabels/CharacterItem"), accessFlags := 16409, slot := 1, constantValue := 0 }, { name := "CLASS", type := (.object "com/example/exact_labels/exactlabels/CharacterItem"), accessFlags := 16409, slot := 2, constantValue := 0 }, { name := "DIGIT", type := (.object "com/example/exact_labels/exactlabels/CharacterItem"), accessFlags := 16409, slot := 3, constantValue := 0 }, { name := "NOT_DIGIT", type := (.object "com/example/exact_labels/exactlabels/CharacterItem"), accessFlags := 16409, slot := 4, constantValue := 0 }, { name := "SPACE", type := (.object "com/example/exact_labels/exactlabels/CharacterItem"), accessFlags := 16409, slot := 5, constantValue := 0 }, { name := "NOT_SPACE", type := (.object "com/example/exact_labels/exactlabels/CharacterItem"), accessFlags := 16409, slot := 6, constantValue := 0 }, { name := "WORD", type := (.object "com/example/exact_labels/exactlabels/CharacterItem"), accessFlags := 16409, slot := 7, constantValue := 0 }, { name := "NOT_WORD", type := (.object "com/example/exact_labels/exactlabels/CharacterItem"), accessFlags := 16409, slot := 8, constantValue := 0 }, { name := "HORIZONTAL", type := (.object "com/example/exact_labels/exactlabels/CharacterItem"), accessFlags := 16409, slot := 9, constantValue := 0 }, { name := "NOT_HORIZONTAL", type := (.object "com/example/exact_labels/exactlabels/CharacterItem"), accessFlags := 16409, slot := 10, constantValue := 0 }, { name := "VERTICAL", type := (.object "com/example/exact_labels/exactlabels/CharacterItem"), accessFlags := 16409, slot := 11, constantValue := 0 }, { name := "NOT_VERTICAL", type := (.object "com/example/exact_labels/exactlabels/CharacterItem"), accessFlags := 16409, slot := 12, constantValue := 0 }, { name := "NEWLINE", type := (.object "com/example/exact_labels/exactlabels/CharacterItem"), accessFlags := 16409, slot := 13, constantValue := 0 }, { name := "NOT_NEWLINE", type := (.object "com/example/exact_labels/exactlabels/CharacterItem"), accessFlags := 16409, slot := 14, constantValue := 0 }, { name := "ANY", type := (.object "com/example/exact_labels/exactlabels/CharacterItem"), accessFlags := 16409, slot := 15, constantValue := 0 }, { name := "BYTE", type := (.object "com/example/exact_labels/exactlabels/CharacterItem"), accessFlags := 16409, slot := 16, constantValue := 0 }, { name := "GRAPHEME", type := (.object "com/example/exact_labels/exactlabels/CharacterItem"), accessFlags := 16409, slot := 17, constantValue := 0 }, { name := "$VALUES", type := (.array (.object "com/example/exact_labels/exactlabels/CharacterItem")), accessFlags := 4122, slot := 18, constantValue := 0 }]
  methods := #[k6m0]
  instanceTypes := #[(.object "java/lang/String"), .int, .int]
  staticTypes := #[(.object "com/example/exact_labels/exactlabels/CharacterItem"), (.object "com/example/exact_labels/exactlabels/CharacterItem"), (.object "com/example/exact_labels/exactlabels/CharacterItem"), (.object "com/example/exact_labels/exactlabels/CharacterItem"), (.object "com/example/exact_labels/exactlabels/CharacterItem"), (.object "com/example/exact_labels/exactlabels/CharacterItem"), (.object "com/example/exact_labels/exactlabels/CharacterItem"), (.object "com/example/exact_labels/exactlabels/CharacterItem"), (.object "com/example/exact_labels/exactlabels/CharacterItem"), (.object "com/example/exact_labels/exactlabels/CharacterItem"), (.object "com/example/exact_labels/exactlabels/CharacterItem"), (.object "com/example/exact_labels/exactlabels/CharacterItem"), (.object "com/example/exact_labels/exactlabels/CharacterItem"), (.object "com/example/exact_labels/exactlabels/CharacterItem"), (.object "com/example/exact_labels/exactlabels/CharacterItem"), (.object "com/example/exact_labels/exactlabels/CharacterItem"), (.object "com/example/exact_labels/exactlabels/CharacterItem"), (.object "com/example/exact_labels/exactlabels/CharacterItem"), (.array (.object "com/example/exact_labels/exactlabels/CharacterItem"))]
  resolved := Array.replicate 156 none
  statics := some 0 }

def pool7 : Array CpInfo := pool [(1, u "java/lang/Cloneable"), (0, .class_ 1), (0, u "java/lang/Object"), (0, .class_ 3)] 3

/-- java/lang/Cloneable -/
def k7 : Class := { plain "java/lang/Cloneable" (some 0) with
  accessFlags := 1537
  interfaces := #[]
  cf := some (fileOf pool7 2 #[] #[] 1537 4 #[] #[])
  fields := #[]
  methods := #[]
  instanceTypes := #[]
  staticTypes := #[]
  resolved := Array.replicate 8 none
  statics := none }

/-- the primitive byte -/
def k8 : Class := { plain "byte" none with kind := .primitive 'B', accessFlags := 0x411 }
/-- [B -/
def k9 : Class := { plain "[B" (some 0) with kind := .array 8 .byte, interfaces := #[7, 4], accessFlags := 1041 }

/-- the primitive int -/
def k10 : Class := { plain "int" none with kind := .primitive 'I', accessFlags := 0x411 }
/-- [I -/
def k11 : Class := { plain "[I" (some 0) with kind := .array 10 .int, interfaces := #[7, 4], accessFlags := 1041 }

def heap : Heap := #[{ cls := 6, slots := #[.ref 1, .ref 3, .ref 4, .ref 2, .ref 7, .ref 17, .ref 14, .ref 5, .ref 8, .ref 18, .ref 12, .ref 6, .ref 9, .ref 13, .ref 16, .ref 11, .ref 10, .ref 15, .null], vm := .statics 6 },
  { cls := 6, slots := #[.null, .int 0, .int 0], vm := .none },
  { cls := 6, slots := #[.null, .int 3, .int 0], vm := .none },
  { cls := 6, slots := #[.null, .int 1, .int 0], vm := .none },
  { cls := 6, slots := #[.null, .int 2, .int 0], vm := .none },
  { cls := 6, slots := #[.null, .int 7, .int 0], vm := .none },
  { cls := 6, slots := #[.null, .int 11, .int 0], vm := .none },
  { cls := 6, slots := #[.null, .int 4, .int 0], vm := .none },
  { cls := 6, slots := #[.null, .int 8, .int 0], vm := .none },
  { cls := 6, slots := #[.null, .int 12, .int 0], vm := .none },
  { cls := 6, slots := #[.null, .int 16, .int 0], vm := .none },
  { cls := 6, slots := #[.null, .int 15, .int 0], vm := .none },
  { cls := 6, slots := #[.null, .int 10, .int 0], vm := .none },
  { cls := 6, slots := #[.null, .int 13, .int 0], vm := .none },
  { cls := 6, slots := #[.null, .int 6, .int 0], vm := .none },
  { cls := 6, slots := #[.null, .int 17, .int 0], vm := .none },
  { cls := 6, slots := #[.null, .int 14, .int 0], vm := .none },
  { cls := 6, slots := #[.null, .int 5, .int 0], vm := .none },
  { cls := 6, slots := #[.null, .int 9, .int 0], vm := .none }]
def classes : Array Class := #[k0, k1, k2, k3, k4, k5, k6, k7, k8, k9, k10, k11]
def interned : List (Array UInt16 × Addr) := []
def slotsUsed : Nat := 73
def theMethod : MethodId := ⟨1, 2⟩
def args0 : Array Value := #[.int 5]
def aboutOver (below : List Frame) : State where
  vm := { classes := classes, interned := interned.toArray }
  heap := heap
  slotsUsed := slotsUsed
  threads := #[{ frames := .invoking theMethod args0 :: below }]
def below0 : List Frame := [.native { method := ⟨0, 0⟩, args := #[] }]
def about1 : State := aboutOver below0
def p0 : Program := .bare "" "" ""
def e0 : Env := launch0.env 0 0 0
theorem w_frames : about1.frames = Frame.invoking theMethod args0 :: below0 := rfl
set_option maxRecDepth 65536 in
theorem w_args : argsFit about1.vm theMethod args0 = true := by decide +kernel
set_option maxRecDepth 65536 in
theorem w_heap : heapFits about1 = true := by decide +kernel
set_option maxRecDepth 65536 in
theorem w_runnable : about1.curStatus? = some .runnable := by decide +kernel
set_option maxRecDepth 65536 in
theorem w_alone : about1.alone = true := by decide +kernel
set_option maxRecDepth 65536 in
theorem w_named : about1.methodNamed? x = some theMethod := by decide +kernel
set_option maxRecDepth 65536 in
theorem w_hears : about1.hears theMethod below0 = true := by decide +kernel
set_option maxRecDepth 65536 in
theorem w_ripe : about1.ripe theMethod args0 below0 = true := by decide +kernel
theorem w_running : about1.status = .running := rfl
set_option maxRecDepth 65536 in
theorem w_room : about1.hasRoom e0.platform room_1 = true :=
  launch0.hasRoom_least _ room_1 (by decide +kernel) (by decide +kernel) (by decide +kernel) (by decide +kernel) (by decide +kernel) (by decide +kernel)
theorem allAtoms_all (ts : List Jvm.Cond) (a : Array Jvm.Value) (st : Jvm.State) : (allAtoms ts).before a st = ts.all (fun c => c.before a st) := by
  induction ts with
  | nil => rfl
  | cons c t ih =>
    show (Jvm.Cond.and c (allAtoms t)).before a st = _
    rw [Jvm.Cond.before_and, ih, List.all_cons]
def words1 : List Jvm.Cond := Jvm.Cond.code x code maxLocals ret :: tables_1
/-- a 'code' word, met by the world's own term for the bytes: nothing is compared byte by byte -/
theorem code_word {y : MethodName} {bytes : ByteArray} {mx : Nat} {rt : Option FieldType} {a : Array Value} {s : State} {m : MethodId} {meth : Method} {c : Code} (h1 : s.methodNamed? y = some m) (h2 : s.vm.method? m = some meth) (h3 : meth.code = some c) (h4 : c.code = bytes)
    (h5 : (c.maxLocals == mx && c.exceptionTable.isEmpty && decide (c.maxStack ≤ mostOperands) && decide (meth.sig.returnType = rt) && !meth.locks && decide (parseMethodDescriptor y.desc = some meth.sig)) = true) : (Jvm.Cond.code y bytes mx rt).before a s = true := by
  simp only [Bool.and_eq_true, beq_iff_eq, Bool.not_eq_true', decide_eq_true_eq] at h5
  obtain ⟨⟨⟨⟨⟨g1, g2⟩, g3⟩, g4⟩, g5⟩, g6⟩ := h5
  simp [Cond.before, Cond.holds, Cond.value, h1, h2, h3, h4, g1, g2, g3, g4, g5, g6]
def isCode : Jvm.Cond → Bool
  | .code _ _ _ _ => true
  | _ => false
theorem all_split {L : List Jvm.Cond} {P : Jvm.Cond → Bool} (h1 : L.all (fun c => isCode c || P c) = true) (h2 : ∀ c ∈ L.filter isCode, P c = true) : L.all P = true := by
  refine List.all_eq_true.mpr fun c hc => ?_
  have h := List.all_eq_true.mp h1 c hc
  rcases Bool.eq_false_or_eq_true (isCode c) with hi | hi
  · exact h2 c (List.mem_filter.mpr ⟨hc, hi⟩)
  · simpa [hi] using h
set_option maxRecDepth 65536 in
theorem w_c0 : (Jvm.Cond.code x code maxLocals ret).before args0 about1 = true := code_word (m := ⟨1, 2⟩) (meth := k1m2) (c := k1c2) (by decide +kernel) rfl rfl rfl (by decide +kernel)
set_option maxRecDepth 65536 in
theorem w_c1 : (Jvm.Cond.code ({ cls := "com/example/exact_labels/exactlabels/CharacterItemTypePinLaw", name := "pick", desc := "(I)Lcom/example/exact_labels/exactlabels/CharacterItem;" } : Jvm.MethodName) method_2_code (1 : Nat) (Option.some (Jvm.ClassFile.FieldType.object "com/example/exact_labels/exactlabels/CharacterItem"))).before args0 about1 = true := code_word (m := ⟨1, 1⟩) (meth := k1m1) (c := k1c1) (by decide +kernel) rfl rfl rfl (by decide +kernel)
set_option maxRecDepth 65536 in
theorem w_c2 : (Jvm.Cond.code ({ cls := "com/example/exact_labels/exactlabels/CharacterItem", name := "type", desc := "()Z" } : Jvm.MethodName) prog_10_method_4_code (1 : Nat) (Option.some Jvm.ClassFile.FieldType.boolean)).before args0 about1 = true := code_word (m := ⟨6, 0⟩) (meth := k6m0) (c := k6c0) (by decide +kernel) rfl rfl rfl (by decide +kernel)
def codes1 : List Jvm.Cond := [Jvm.Cond.code x code maxLocals ret, Jvm.Cond.code ({ cls := "com/example/exact_labels/exactlabels/CharacterItemTypePinLaw", name := "pick", desc := "(I)Lcom/example/exact_labels/exactlabels/CharacterItem;" } : Jvm.MethodName) method_2_code (1 : Nat) (Option.some (Jvm.ClassFile.FieldType.object "com/example/exact_labels/exactlabels/CharacterItem")), Jvm.Cond.code ({ cls := "com/example/exact_labels/exactlabels/CharacterItem", name := "type", desc := "()Z" } : Jvm.MethodName) prog_10_method_4_code (1 : Nat) (Option.some Jvm.ClassFile.FieldType.boolean)]
set_option maxRecDepth 65536 in
theorem codes_eq : words1.filter isCode = codes1 := rfl
theorem w_codes : ∀ c ∈ words1.filter isCode, c.before args0 about1 = true := by
  rw [codes_eq]
  intro c hc
  simp only [codes1, List.mem_cons, List.not_mem_nil, or_false] at hc
  rcases hc with rfl | rfl | rfl
  · exact w_c0
  · exact w_c1
  · exact w_c2
set_option maxRecDepth 65536 in
theorem w_t1 : (words1.take 24).all (fun c => isCode c || c.before args0 about1) = true := by decide +kernel
set_option maxRecDepth 65536 in
theorem w_t2 : ((words1.drop 24).take 24).all (fun c => isCode c || c.before args0 about1) = true := by decide +kernel
set_option maxRecDepth 65536 in
theorem w_t3 : ((words1.drop 24).drop 24).all (fun c => isCode c || c.before args0 about1) = true := by decide +kernel
theorem w_tables : (allAtoms (Jvm.Cond.code x code maxLocals ret :: tables_1)).before args0 about1 = true := by
  rw [allAtoms_all]
  show words1.all (fun c => c.before args0 about1) = true
  refine all_split ?_ w_codes
  rw [← List.take_append_drop 24 words1, List.all_append, w_t1, ← List.take_append_drop 24 (words1.drop 24), List.all_append, w_t2, w_t3]
  rfl
set_option maxRecDepth 65536 in
theorem w_case : (Jvm.Cond.and given_1 narrow_1).before args0 about1 = true := by decide +kernel
theorem w_applies : (headSpec (Jvm.Cond.code x code maxLocals ret :: tables_1) room_1).applies x e0.platform about1 = true :=
  (Spec.applies_iff w_frames).mpr ⟨w_running, w_runnable, w_alone, w_named, w_hears, w_ripe, w_room, w_tables⟩
theorem atStart : AtStart classFile x code maxLocals ret World_1 tables_1 room_1 Calls_1 rest_1 Pre_1 launch0 p0 e0 about1 theMethod args0 below0 :=
  ⟨lists_1, trivial, launch0.admits_env _ _ _, launch0.least_env, fairChoices_fair.cas, fairChoices_fair.clock, w_frames, w_args, w_heap, w_applies, trivial, trivial, w_case⟩
end start1
theorem witness_1 : WitnessClaimed_1 := ⟨start1.p0, start1.e0, start1.about1, start1.theMethod, start1.args0, start1.below0, start1.atStart⟩
end Jvm.Pilot.@@N@@
