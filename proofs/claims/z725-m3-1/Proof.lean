import JvmDerived
import JvmDerived.Pilot.@@N@@Statement
import JvmDerived.Pilot.@@N@@Code
set_option linter.unusedVariables false
set_option linter.unusedSimpArgs false
namespace Jvm.RoadKit
open Sem ClassFile Op Lib Jvm.Stand Jvm.Free Jvm.LawKit
section New
variable {p : Program} {l : Launch} {e : Env} {R : Room} {s : State} {m : MethodId} {args : Array Value} {below : List Frame} {meth : Method} {c : Code} {T : State} {locs : List Loc} {cells slots : Nat}
theorem retI (X : Stand p l e R s m args below meth c T locs cells slots) (hx : p.tables.exec = Jvm.exec) {pc : Nat} {Ls : Array Slot} {z : Int32} {rest : List Value} (hret : meth.sig.returnType = some .int) (hd : decode c.code pc = .ok (.ireturn, 1)) {fs : List Frame}
    (hl : ∀ (f : JFrame) (acts : List Action), f.method = m → f.locked = none → f.entered = [] → (doReturn e (T.setTop f) acts (some (.int z))).1 = T.setFrames fs) : Steps p.tables e below (T.setTop (mkF m pc Ls (.int z :: rest))) (T.setFrames fs) := by
  have hm' : T.vm.method? m = some meth := X.method'
  have hn : narrow .int (.int z) = .int z := rfl
  show Steps p.tables e below (T.setTop { method := m, pc := pc, locals := Ls, stack := _ :: rest, locked := none }) _
  jvm_step X.here [X.here.top, hx, hd, hm', hret, hn]
  first | (intro acts; rw [hl _ acts rfl rfl rfl]) | rw [hl _ _ rfl rfl rfl]
  exact Steps.refl _
end New
end Jvm.RoadKit
namespace Jvm.Pilot.@@N@@
open Jvm Jvm.ClassFile Sem Op Lib Jvm.Free Jvm.Stand Jvm.LawKit Jvm.RoadKit Bundle Jvm.Pilot.@@N@@.Jvm.D
def own_G (tb : Tables) (e : Env) (below : List Frame) (P : State → Outcome → Prop) (S : State) : Prop := ∃ t o, Steps tb e below S t ∧ P t o
theorem own_in {tb : Tables} {e : Env} {below : List Frame} {P : State → Outcome → Prop} {S : State} (h : own_G tb e below P S) : ∃ t o, Steps tb e below S t ∧ P t o := h
theorem own_go {tb : Tables} {e : Env} {below : List Frame} {P : State → Outcome → Prop} {S S' : State} (f : ∀ t, Steps tb e below S' t → Steps tb e below S t) (h : own_G tb e below P S') : own_G tb e below P S := by
  obtain ⟨t, o, st, hp⟩ := h
  exact ⟨t, o, f t st, hp⟩
theorem own_join {α : Type} {tb : Tables} {e : Env} {below : List Frame} {P : State → Outcome → Prop} {S : State} (C : α → Prop) (F : α → State) (J : ∀ a, C a → own_G tb e below P (F a)) (M : (∀ a, C a → own_G tb e below P (F a)) → own_G tb e below P S) : own_G tb e below P S := M J
theorem own_loop {α : Type} {tb : Tables} {e : Env} {below : List Frame} {P : State → Outcome → Prop} {S : State} (mu : α → Nat) (C : α → Prop) (F : α → State) (J : ∀ a, C a → (∀ b, C b → mu b < mu a → own_G tb e below P (F b)) → own_G tb e below P (F a)) (M : (∀ a, C a → own_G tb e below P (F a)) → own_G tb e below P S) : own_G tb e below P S := by
  apply M
  have q : ∀ n a, mu a < n → C a → own_G tb e below P (F a) := by
    intro n
    induction n with
    | zero => intro a h; exact absurd h (Nat.not_lt_zero _)
    | succ n ih => intro a h ha; exact J a ha fun b hb hlt => ih b (by omega) hb
  exact fun a ha => q _ a (Nat.lt_succ_self _) ha
theorem own_l1 {a b : Int64} (h : a = b) : lcmpW a b = 0 := by subst h; simp [lcmpW]
theorem own_l2 {a b : Int64} (h : ¬ a = b) : ¬ lcmpW a b = 0 := by
  unfold lcmpW; split
  · decide
  · first | (rw [if_neg h]; decide) | decide
theorem own_l3 {a b : Int64} (h : a < b) : lcmpW a b < 0 := by
  have h1 : ¬ a > b := Int64.not_lt.mpr (Int64.le_of_lt h)
  have h2 : ¬ a = b := fun q => by subst q; exact Int64.lt_irrefl h
  unfold lcmpW; rw [if_neg h1, if_neg h2]; decide
theorem own_l4 {a b : Int64} (h : ¬ a < b) : ¬ lcmpW a b < 0 := by
  unfold lcmpW; split
  · decide
  · split
    · decide
    · rename_i h1 h2
      rw [gt_iff_lt, Int64.lt_iff_toInt_lt] at h1; rw [Int64.lt_iff_toInt_lt] at h; rw [← Int64.toInt_inj] at h2; omega
theorem own_l5 {a b : Int64} (h : b < a) : 0 < lcmpW a b := by unfold lcmpW; rw [if_pos h]; decide
theorem own_l6 {a b : Int64} (h : ¬ b < a) : ¬ 0 < lcmpW a b := by
  unfold lcmpW; rw [if_neg h]; split <;> decide
def own_max (a b : Int32) : Int32 := if a < b then b else a
def own_pc (r p : Int32) : Int32 := if r = 0 then 0 else (r - 1) / p + 1
theorem own_max1 (y : Int32) : ¬ own_max (1 : Int32) y < (1 : Int32) := by
  unfold own_max; split
  · rename_i h; rw [Int32.lt_iff_toInt_lt] at h ⊢; omega
  · decide
theorem own_nz {p : Int32} (h : ¬ p < (1 : Int32)) : p ≠ 0 := fun q => by subst q; exact h (by decide)
theorem own_msk (x : Int32) : 0 ≤ (x &&& (2147483647 : Int32)).toInt ∧ (x &&& (2147483647 : Int32)).toInt < 2147483648 := by
  have h := (Jvm.RoadKit.c_andS x (2147483647 : Int32)).2.2 (by decide)
  have := Int32.toInt_lt (x &&& (2147483647 : Int32))
  omega
theorem own_q (R P : Int) (h0 : 0 < R) (hP : 1 ≤ P) : let K := (R - 1) / P + 1; 1 ≤ K ∧ K ≤ R ∧ (K - 1) * P < R ∧ R ≤ K * P := by
  intro K
  have h1 : 0 ≤ (R - 1) / P := Int.ediv_nonneg (by omega) (by omega)
  have h2 : (R - 1) / P * P ≤ R - 1 := Int.ediv_mul_le _ (by omega)
  have h3 : R - 1 < ((R - 1) / P + 1) * P := Int.lt_ediv_add_one_mul_self _ (by omega)
  have h4 : (R - 1) / P ≤ R - 1 := Int.ediv_le_self _ (by omega)
  refine ⟨by show 1 ≤ (R - 1) / P + 1; omega, by show (R - 1) / P + 1 ≤ R; omega, ?_, ?_⟩
  · show ((R - 1) / P + 1 - 1) * P < R
    rw [Int.add_sub_cancel]; omega
  · show R ≤ ((R - 1) / P + 1) * P
    omega
theorem own_mm (r p : Int32) (hr : 0 ≤ r.toInt) (hz : ¬ r = 0) (hp : 1 ≤ p.toInt) : ¬ (own_pc r p).toInt64 < (1 : Int64) ∧ (((own_pc r p).toInt64 - (1 : Int64)) * p.toInt64) < r.toInt64 ∧ ¬ ((own_pc r p).toInt64 * p.toInt64) < r.toInt64 := by
  have hr0 : r.toInt ≠ 0 := fun q => hz (Int32.toInt_inj.mp (by rw [q]; rfl))
  have r2 := Int32.toInt_lt r
  have p2 := Int32.toInt_lt p
  obtain ⟨q1, q2, q3, q4⟩ := own_q r.toInt p.toInt (by omega) hp
  have e1 : (r - 1).toInt = r.toInt - 1 := by
    rw [Int32.toInt_sub, show (1 : Int32).toInt = 1 from rfl]; exact Int.bmod_eq_of_le (by omega) (by omega)
  have e2 : ((r - 1) / p).toInt = (r.toInt - 1) / p.toInt := by
    rw [Int32.toInt_div_of_ne_right (r - 1) p (fun q => by rw [q] at hp; exact absurd hp (by decide)), e1, Int.tdiv_eq_ediv_of_nonneg (by omega)]
  have e3 : (own_pc r p).toInt = (r.toInt - 1) / p.toInt + 1 := by
    unfold own_pc; rw [if_neg hz, Int32.toInt_add, e2, show (1 : Int32).toInt = 1 from rfl]; exact Int.bmod_eq_of_le (by omega) (by omega)
  have k1 : (own_pc r p).toInt64.toInt = (own_pc r p).toInt := Int32.toInt_toInt64 _
  have k2 : p.toInt64.toInt = p.toInt := Int32.toInt_toInt64 _
  have k3 : r.toInt64.toInt = r.toInt := Int32.toInt_toInt64 _
  rw [e3] at k1
  generalize (r.toInt - 1) / p.toInt + 1 = K at *
  have o1 : (1 : Int64).toInt = 1 := rfl
  have s1 : ((own_pc r p).toInt64 - (1 : Int64)).toInt = K - 1 := by
    rw [Int64.toInt_sub, k1, o1]; exact Int.bmod_eq_of_le (by omega) (by omega)
  have b1 : 0 ≤ (K - 1) * p.toInt := Int.mul_nonneg (by omega) (by omega)
  have b2 : K * p.toInt ≤ 2147483648 * 2147483648 := Int.mul_le_mul (by omega) (by omega) (by omega) (by omega)
  have b3 : 0 ≤ K * p.toInt := Int.mul_nonneg (by omega) (by omega)
  have s2 : (((own_pc r p).toInt64 - (1 : Int64)) * p.toInt64).toInt = (K - 1) * p.toInt := by
    rw [Int64.toInt_mul, s1, k2]; exact Int.bmod_eq_of_le (by omega) (by omega)
  have s3 : ((own_pc r p).toInt64 * p.toInt64).toInt = K * p.toInt := by
    rw [Int64.toInt_mul, k1, k2]; exact Int.bmod_eq_of_le (by omega) (by omega)
  rw [Int64.lt_iff_toInt_lt, Int64.lt_iff_toInt_lt, Int64.lt_iff_toInt_lt, s2, s3, k1, k3, o1]
  omega
theorem own_m (x y : Int32) (hz : ¬ (x &&& (2147483647 : Int32)) = 0) : ¬ (own_pc (x &&& (2147483647 : Int32)) (own_max 1 y)).toInt64 < (1 : Int64) ∧ (((own_pc (x &&& (2147483647 : Int32)) (own_max 1 y)).toInt64 - (1 : Int64)) * (own_max 1 y).toInt64) < (x &&& (2147483647 : Int32)).toInt64 ∧ ¬ ((own_pc (x &&& (2147483647 : Int32)) (own_max 1 y)).toInt64 * (own_max 1 y).toInt64) < (x &&& (2147483647 : Int32)).toInt64 := by
  refine own_mm _ _ (own_msk x).1 hz ?_
  have h := own_max1 y
  rw [Int32.lt_iff_toInt_lt, show (1 : Int32).toInt = 1 from rfl] at h
  omega
theorem pd_I_V : parseMethodDescriptor "(I)V" = some ⟨[.int], none⟩ := by decide +kernel
theorem pd_II_I : parseMethodDescriptor "(II)I" = some ⟨[.int, .int], some .int⟩ := by decide +kernel
-- java/lang/Math.max:(II)I
theorem d_max_0 : decode jdk_29_method_65_code 0 = .ok (.iload_n 0, 1) := by decide +kernel
theorem d_max_1 : decode jdk_29_method_65_code 1 = .ok (.iload_n 1, 1) := by decide +kernel
theorem d_max_2 : decode jdk_29_method_65_code 2 = .ok (.if_icmp .lt 7, 3) := by decide +kernel
theorem d_max_5 : decode jdk_29_method_65_code 5 = .ok (.iload_n 0, 1) := by decide +kernel
theorem d_max_6 : decode jdk_29_method_65_code 6 = .ok (.goto 4, 3) := by decide +kernel
theorem d_max_9 : decode jdk_29_method_65_code 9 = .ok (.iload_n 1, 1) := by decide +kernel
theorem d_max_10 : decode jdk_29_method_65_code 10 = .ok (.ireturn, 1) := by decide +kernel
theorem ef_max (m : MethodId) (ja : Int32) (jb : Int32) : entryFrame m #[(.int ja), (.int jb)] 2 = mkF m 0 #[.val (.int ja), .val (.int jb)] [] := by first | (simp [entryFrame, mkF, argsToLocals, Value.category]; done) | rfl
def Q_max (Z : State) (ja : Int32) (jb : Int32) (h0 : Heap) (n0 : Nat) (v : Option Value) (h : Heap) (L : List Loc) : Prop := v = some (.int (own_max ja jb)) ∧ Fr n0 L ∧ h = h0
set_option maxRecDepth 65536 in
set_option maxHeartbeats 40000000 in
theorem rm_max (l : Launch) (Z : State) (a0 : Array Value) (hw : ∀ d ∈ tables_1, d.before a0 Z = true) (ws : List Jvm.Cond) (ja : Int32) (jb : Int32) (h0 : Heap) (n0 : Nat) (Z0 : n0 ≤ h0.size) :
    MetFree l (⟨"java/lang/Math", "max", "(II)I"⟩ : MethodName) (head1 (Jvm.Cond.code (⟨"java/lang/Math", "max", "(II)I"⟩ : MethodName) jdk_29_method_65_code 2 (some .int) :: ws) ({ frames := 0, cells := 0, slots := 0, locals := 0 } : Room)) (fun a U => a = #[(.int ja), (.int jb)] ∧ Z.Warmed39 U.vm ∧ U.heap = h0) (fun _ _ _ _ _ => True) (fun _ U o U' => ∃ v L, o = .returned v ∧ Q_max Z ja jb h0 n0 v U'.heap L ∧ FrameEnd U o U' L ({ frames := 0, cells := 0, slots := 0, locals := 0 } : Room).cells ({ frames := 0, cells := 0, slots := 0, locals := 0 } : Room).slots) := by
  refine MetFree.of_bodySF (Jvm.Free.JP.mathPlain rfl (by decide +kernel)) hisR ?_
  intro p e s m args below meth c s₁ Bd hml0 hP hK
  obtain ⟨rfl, hZ, hh⟩ := hP
  have hx := Bd.exec
  have hby := Bd.bytes
  have hml : c.maxLocals = 2 := hml0
  have hown : s.vm.findClass "java/lang/Math" = some m.cls := findClass_of_methodNamed Bd.named
  have hnm := (name_of_methodNamed Bd.named Bd.method).1
  have X0 : Stand p l e ({ frames := 0, cells := 0, slots := 0, locals := 0 } : Room) s m #[(.int ja), (.int jb)] below meth c s₁ [] 0 0 := Stand.of_body Bd
  have e0 : s₁.heap = h0 := by rw [← hh, Bd.state]; rfl
  have N0 := Fr.nil n0
  refine own_in ?_
  refine own_go (S' := s₁.setTop (mkF m 0 #[.val (.int ja), .val (.int jb)] [])) (fun tgt_ stp_ => castTop (ef_max m ja jb) stp_) ?_
  refine own_go (S' := s₁.setTop (mkF m 2 #[.val (.int ja), .val (.int jb)] [(.int jb), (.int ja)])) (fun target kt => ?_) ?_
  · show Steps p.tables e below (s₁.setTop (mkF m 0 #[.val (.int ja), .val (.int jb)] [])) target
    refine XS.iloadN X0.here hx rfl (hb hby d_max_0) rfl ?_
    show Steps p.tables e below (s₁.setTop (mkF m 1 #[.val (.int ja), .val (.int jb)] [(.int ja)])) target
    refine XS.iloadN X0.here hx rfl (hb hby d_max_1) rfl ?_
    show Steps p.tables e below (s₁.setTop (mkF m 2 #[.val (.int ja), .val (.int jb)] [(.int jb), (.int ja)])) target
    exact kt
  by_cases hc2 : ja < jb
  · -- pc 2: yes
    refine own_go (S' := s₁.setTop (mkF m 10 #[.val (.int ja), .val (.int jb)] [(.int jb)])) (fun target kt => ?_) ?_
    · show Steps p.tables e below (s₁.setTop (mkF m 2 #[.val (.int ja), .val (.int jb)] [(.int jb), (.int ja)])) target
      refine XS.icmpYes X0.here hx rfl (pc0 := 2) (pc' := 9) rfl (hb hby d_max_2) rfl (tlt hc2).1 (by decide) (by decide) ?_
      show Steps p.tables e below (s₁.setTop (mkF m 9 #[.val (.int ja), .val (.int jb)] [])) target
      refine XS.iloadN X0.here hx rfl (hb hby d_max_9) rfl ?_
      show Steps p.tables e below (s₁.setTop (mkF m 10 #[.val (.int ja), .val (.int jb)] [(.int jb)])) target
      exact kt
    obtain ⟨fs, hr, hrun, hended, hW, hsame⟩ := X0.leave (v := some (.int jb)) (fun h => by rw [Bd.returns] at h; cases h)
    refine ⟨_, _, retI X0 hx Bd.returns (hb hby d_max_10) hr, hrun, hended, _, _, rfl, ?_, ⟨_, rfl⟩, hW, hsame.mono (by decide) (by decide)⟩
    show Q_max Z ja jb h0 n0 _ s₁.heap _
    rw [e0]
    exact ⟨(congrArg (fun z => some (Value.int z)) (by simp [own_max, hc2])), N0, rfl⟩
  · -- pc 2: no
    refine own_go (S' := s₁.setTop (mkF m 10 #[.val (.int ja), .val (.int jb)] [(.int ja)])) (fun target kt => ?_) ?_
    · show Steps p.tables e below (s₁.setTop (mkF m 2 #[.val (.int ja), .val (.int jb)] [(.int jb), (.int ja)])) target
      refine XS.icmpNo X0.here hx rfl (hb hby d_max_2) rfl (flt hc2).1 ?_
      show Steps p.tables e below (s₁.setTop (mkF m 5 #[.val (.int ja), .val (.int jb)] [])) target
      refine XS.iloadN X0.here hx rfl (hb hby d_max_5) rfl ?_
      show Steps p.tables e below (s₁.setTop (mkF m 6 #[.val (.int ja), .val (.int jb)] [(.int ja)])) target
      refine XS.goto X0.here hx rfl (pc0 := 6) (pc' := 10) rfl (hb hby d_max_6) (by decide) (by decide) ?_
      show Steps p.tables e below (s₁.setTop (mkF m 10 #[.val (.int ja), .val (.int jb)] [(.int ja)])) target
      exact kt
    obtain ⟨fs, hr, hrun, hended, hW, hsame⟩ := X0.leave (v := some (.int ja)) (fun h => by rw [Bd.returns] at h; cases h)
    refine ⟨_, _, retI X0 hx Bd.returns (hb hby d_max_10) hr, hrun, hended, _, _, rfl, ?_, ⟨_, rfl⟩, hW, hsame.mono (by decide) (by decide)⟩
    show Q_max Z ja jb h0 n0 _ s₁.heap _
    rw [e0]
    exact ⟨(congrArg (fun z => some (Value.int z)) (by simp [own_max, hc2])), N0, rfl⟩
-- com/example/rahasia/rahasia/service/PairAveragingPrivatizer.checkPartitionRows:(I)V
theorem d_chk_0 : decode prog_51_method_4_code 0 = .ok (.iload_n 0, 1) := by decide +kernel
theorem d_chk_1 : decode prog_51_method_4_code 1 = .ok (.iconst 1, 1) := by decide +kernel
theorem d_chk_2 : decode prog_51_method_4_code 2 = .ok (.if_icmp .ge 17, 3) := by decide +kernel
theorem d_chk_19 : decode prog_51_method_4_code 19 = .ok (.return_, 1) := by decide +kernel
theorem pn_chk : plainName "com/example/rahasia/rahasia/service/PairAveragingPrivatizer" = true := by first | (simp [plainName, overriddenIn]; done) | decide +kernel
theorem ef_chk (m : MethodId) (p1 : Int32) : entryFrame m #[(.int p1)] 1 = mkF m 0 #[.val (.int p1)] [] := by first | (simp [entryFrame, mkF, argsToLocals, Value.category]; done) | rfl
def Q_chk (Z : State) (p1 : Int32) (h0 : Heap) (n0 : Nat) (v : Option Value) (h : Heap) (L : List Loc) : Prop := v = none ∧ Fr n0 L ∧ h = h0
set_option maxRecDepth 65536 in
set_option maxHeartbeats 40000000 in
theorem rm_chk (l : Launch) (Z : State) (a0 : Array Value) (hw : ∀ d ∈ tables_1, d.before a0 Z = true) (ws : List Jvm.Cond) (p1 : Int32) (h0 : Heap) (n0 : Nat) (Z0 : n0 ≤ h0.size) (hp : ¬ p1 < (1 : Int32)) :
    MetFree l (⟨"com/example/rahasia/rahasia/service/PairAveragingPrivatizer", "checkPartitionRows", "(I)V"⟩ : MethodName) (head1 (Jvm.Cond.code (⟨"com/example/rahasia/rahasia/service/PairAveragingPrivatizer", "checkPartitionRows", "(I)V"⟩ : MethodName) prog_51_method_4_code 1 none :: ws) ({ frames := 0, cells := 0, slots := 0, locals := 0 } : Room)) (fun a U => a = #[(.int p1)] ∧ Z.Warmed39 U.vm ∧ U.heap = h0) (fun _ _ _ _ _ => True) (fun _ U o U' => ∃ v L, o = .returned v ∧ Q_chk Z p1 h0 n0 v U'.heap L ∧ FrameEnd U o U' L ({ frames := 0, cells := 0, slots := 0, locals := 0 } : Room).cells ({ frames := 0, cells := 0, slots := 0, locals := 0 } : Room).slots) := by
  refine MetFree.of_bodySF (plainFor_of_name pn_chk) hisR ?_
  intro p e s m args below meth c s₁ Bd hml0 hP hK
  obtain ⟨rfl, hZ, hh⟩ := hP
  have hx := Bd.exec
  have hby := Bd.bytes
  have hml : c.maxLocals = 1 := hml0
  have hown : s.vm.findClass "com/example/rahasia/rahasia/service/PairAveragingPrivatizer" = some m.cls := findClass_of_methodNamed Bd.named
  have hnm := (name_of_methodNamed Bd.named Bd.method).1
  have X0 : Stand p l e ({ frames := 0, cells := 0, slots := 0, locals := 0 } : Room) s m #[(.int p1)] below meth c s₁ [] 0 0 := Stand.of_body Bd
  have e0 : s₁.heap = h0 := by rw [← hh, Bd.state]; rfl
  have N0 := Fr.nil n0
  refine own_in ?_
  refine own_go (S' := s₁.setTop (mkF m 0 #[.val (.int p1)] [])) (fun tgt_ stp_ => castTop (ef_chk m p1) stp_) ?_
  refine own_go (S' := s₁.setTop (mkF m 19 #[.val (.int p1)] [])) (fun target kt => ?_) ?_
  · show Steps p.tables e below (s₁.setTop (mkF m 0 #[.val (.int p1)] [])) target
    refine XS.iloadN X0.here hx rfl (hb hby d_chk_0) rfl ?_
    show Steps p.tables e below (s₁.setTop (mkF m 1 #[.val (.int p1)] [(.int p1)])) target
    refine XS.iconst X0.here hx rfl (hb hby d_chk_1) ?_
    show Steps p.tables e below (s₁.setTop (mkF m 2 #[.val (.int p1)] [(.int (1 : Int32)), (.int p1)])) target
    refine XS.icmpYes X0.here hx rfl (pc0 := 2) (pc' := 19) rfl (hb hby d_chk_2) rfl (flt (hp : ¬ (p1 < (1 : Int32)))).2.1 (by decide) (by decide) ?_
    show Steps p.tables e below (s₁.setTop (mkF m 19 #[.val (.int p1)] [])) target
    exact kt
  obtain ⟨fs, hr, hrun, hended, hW, hsame⟩ := X0.leave (v := none) (fun _ => rfl)
  refine ⟨_, _, X0.returnOut hx Bd.returns (hb hby d_chk_19) hr, hrun, hended, _, _, rfl, ?_, ⟨_, rfl⟩, hW, hsame.mono (by decide) (by decide)⟩
  show Q_chk Z p1 h0 n0 _ s₁.heap _
  rw [e0]
  exact ⟨rfl, N0, rfl⟩
-- com/example/rahasia/rahasia/service/PairAveragingPrivatizer.partitionCount:(II)I
theorem d_cnt_0 : decode prog_51_method_3_code 0 = .ok (.iload_n 1, 1) := by decide +kernel
theorem d_cnt_1 : decode prog_51_method_3_code 1 = .ok (.invokestatic 70, 3) := by decide +kernel
theorem d_cnt_4 : decode prog_51_method_3_code 4 = .ok (.iload_n 0, 1) := by decide +kernel
theorem d_cnt_5 : decode prog_51_method_3_code 5 = .ok (.ifCond .ne 7, 3) := by decide +kernel
theorem d_cnt_8 : decode prog_51_method_3_code 8 = .ok (.iconst 0, 1) := by decide +kernel
theorem d_cnt_9 : decode prog_51_method_3_code 9 = .ok (.goto 10, 3) := by decide +kernel
theorem d_cnt_12 : decode prog_51_method_3_code 12 = .ok (.iload_n 0, 1) := by decide +kernel
theorem d_cnt_13 : decode prog_51_method_3_code 13 = .ok (.iconst 1, 1) := by decide +kernel
theorem d_cnt_14 : decode prog_51_method_3_code 14 = .ok (.isub, 1) := by decide +kernel
theorem d_cnt_15 : decode prog_51_method_3_code 15 = .ok (.iload_n 1, 1) := by decide +kernel
theorem d_cnt_16 : decode prog_51_method_3_code 16 = .ok (.idiv, 1) := by decide +kernel
theorem d_cnt_17 : decode prog_51_method_3_code 17 = .ok (.iconst 1, 1) := by decide +kernel
theorem d_cnt_18 : decode prog_51_method_3_code 18 = .ok (.iadd, 1) := by decide +kernel
theorem d_cnt_19 : decode prog_51_method_3_code 19 = .ok (.ireturn, 1) := by decide +kernel
theorem pn_cnt : plainName "com/example/rahasia/rahasia/service/PairAveragingPrivatizer" = true := by first | (simp [plainName, overriddenIn]; done) | decide +kernel
theorem ef_cnt (m : MethodId) (r1 : Int32) (p1 : Int32) : entryFrame m #[(.int r1), (.int p1)] 2 = mkF m 0 #[.val (.int r1), .val (.int p1)] [] := by first | (simp [entryFrame, mkF, argsToLocals, Value.category]; done) | rfl
def Q_cnt (Z : State) (r1 : Int32) (p1 : Int32) (h0 : Heap) (n0 : Nat) (v : Option Value) (h : Heap) (L : List Loc) : Prop := v = some (.int (own_pc r1 p1)) ∧ Fr n0 L ∧ h = h0
set_option maxRecDepth 65536 in
set_option maxHeartbeats 40000000 in
theorem rm_cnt (l : Launch) (Z : State) (a0 : Array Value) (hw : ∀ d ∈ tables_1, d.before a0 Z = true) (ws : List Jvm.Cond) (r1 : Int32) (p1 : Int32) (h0 : Heap) (n0 : Nat) (Z0 : n0 ≤ h0.size) (hp : ¬ p1 < (1 : Int32)) :
    MetFree l (⟨"com/example/rahasia/rahasia/service/PairAveragingPrivatizer", "partitionCount", "(II)I"⟩ : MethodName) (head1 (Jvm.Cond.code (⟨"com/example/rahasia/rahasia/service/PairAveragingPrivatizer", "partitionCount", "(II)I"⟩ : MethodName) prog_51_method_3_code 2 (some .int) :: ws) ({ frames := 1, cells := 0, slots := 0, locals := 12 } : Room)) (fun a U => a = #[(.int r1), (.int p1)] ∧ Z.Warmed39 U.vm ∧ U.heap = h0) (fun _ _ _ _ _ => True) (fun _ U o U' => ∃ v L, o = .returned v ∧ Q_cnt Z r1 p1 h0 n0 v U'.heap L ∧ FrameEnd U o U' L ({ frames := 1, cells := 0, slots := 0, locals := 12 } : Room).cells ({ frames := 1, cells := 0, slots := 0, locals := 12 } : Room).slots) := by
  refine MetFree.of_bodySF (plainFor_of_name pn_cnt) hisR ?_
  intro p e s m args below meth c s₁ Bd hml0 hP hK
  obtain ⟨rfl, hZ, hh⟩ := hP
  have hx := Bd.exec
  have hby := Bd.bytes
  have hml : c.maxLocals = 2 := hml0
  have hown : s.vm.findClass "com/example/rahasia/rahasia/service/PairAveragingPrivatizer" = some m.cls := findClass_of_methodNamed Bd.named
  have hnm := (name_of_methodNamed Bd.named Bd.method).1
  have X0 : Stand p l e ({ frames := 1, cells := 0, slots := 0, locals := 12 } : Room) s m #[(.int r1), (.int p1)] below meth c s₁ [] 0 0 := Stand.of_body Bd
  have e0 : s₁.heap = h0 := by rw [← hh, Bd.state]; rfl
  have N0 := Fr.nil n0
  refine own_in ?_
  refine own_go (S' := s₁.setTop (mkF m 0 #[.val (.int r1), .val (.int p1)] [])) (fun tgt_ stp_ => castTop (ef_cnt m r1 p1) stp_) ?_
  obtain ⟨_, _, ⟨T_1, L_1, k_1, n_1⟩, -, X_1, ⟨Lc_1, hQ_1, l_1, y_1, z_1⟩, st_1⟩ := Jvm.LawKit.callS X0 hx (y := (⟨"com/example/rahasia/rahasia/service/PairAveragingPrivatizer", "checkPartitionRows", "(I)V"⟩ : MethodName)) hown (mvT hZ (hw _ (List.mem_of_getElem? (i := 9) rfl))) (mvT hZ (hw _ (List.mem_of_getElem? (i := 10) rfl))) (mvT hZ (hw _ (List.mem_of_getElem? (i := 7) rfl))) (mvT hZ (hw _ (List.mem_of_getElem? (i := 11) rfl))) (by decide) (backOf (W := 0) (rm_chk l Z a0 hw [] p1  h0 n0 Z0 hp) hZ (hw _ (List.mem_of_getElem? (i := 11) rfl)) (hw _ (List.mem_of_getElem? (i := 7) rfl)) (by decide) (by decide)) (g := (mkF m 1 #[.val (.int r1), .val (.int p1)] [(.int p1)])) rfl (by rw [hml]; rfl) (argsL := [(.int p1)]) (rest := []) (lenOf pd_I_V rfl) rfl (by show 2 * 0 + _ ≤ _; exact Nat.le_of_eq rfl) (hb hby d_cnt_1) (fun _ _ => ⟨rfl, e0, (by decide : 0 + 0 ≤ _), (by decide : 0 + 0 ≤ _)⟩)
  dsimp only [Pt.U, Pt.locs, Pt.cells, Pt.slots] at X_1 l_1 y_1 z_1 st_1 hQ_1
  subst l_1 y_1 z_1
  obtain ⟨rfl, N_1q, p_1_0⟩ := hQ_1
  have N_1 := Fr.app N0 N_1q
  refine own_go (S' := T_1.setTop (mkF m 5 #[.val (.int r1), .val (.int p1)] [(.int r1)])) (fun target kt => ?_) ?_
  · show Steps p.tables e below (s₁.setTop (mkF m 0 #[.val (.int r1), .val (.int p1)] [])) target
    refine XS.iloadN X0.here hx rfl (hb hby d_cnt_0) rfl ?_
    show Steps p.tables e below (s₁.setTop (mkF m 1 #[.val (.int r1), .val (.int p1)] [(.int p1)])) target
    refine st_1 _ ?_
    show Steps p.tables e below (T_1.setTop (mkF m 4 #[.val (.int r1), .val (.int p1)] [])) target
    refine XS.iloadN X_1.here hx rfl (hb hby d_cnt_4) rfl ?_
    show Steps p.tables e below (T_1.setTop (mkF m 5 #[.val (.int r1), .val (.int p1)] [(.int r1)])) target
    exact kt
  by_cases hc5 : r1 = (0 : Int32)
  · -- pc 5: yes
    refine own_go (S' := T_1.setTop (mkF m 19 #[.val (.int r1), .val (.int p1)] [(.int (0 : Int32))])) (fun target kt => ?_) ?_
    · show Steps p.tables e below (T_1.setTop (mkF m 5 #[.val (.int r1), .val (.int p1)] [(.int r1)])) target
      refine XS.ifNo X_1.here hx rfl (hb hby d_cnt_5) rfl ((if0 _ _).trans (teq hc5).2) ?_
      show Steps p.tables e below (T_1.setTop (mkF m 8 #[.val (.int r1), .val (.int p1)] [])) target
      refine XS.iconst X_1.here hx rfl (hb hby d_cnt_8) ?_
      show Steps p.tables e below (T_1.setTop (mkF m 9 #[.val (.int r1), .val (.int p1)] [(.int (0 : Int32))])) target
      refine XS.goto X_1.here hx rfl (pc0 := 9) (pc' := 19) rfl (hb hby d_cnt_9) (by decide) (by decide) ?_
      show Steps p.tables e below (T_1.setTop (mkF m 19 #[.val (.int r1), .val (.int p1)] [(.int (0 : Int32))])) target
      exact kt
    obtain ⟨fs, hr, hrun, hended, hW, hsame⟩ := X_1.leave (v := some (.int (0 : Int32))) (fun h => by rw [Bd.returns] at h; cases h)
    refine ⟨_, _, retI X_1 hx Bd.returns (hb hby d_cnt_19) hr, hrun, hended, _, _, rfl, ?_, ⟨_, rfl⟩, hW, hsame.mono (by decide) (by decide)⟩
    show Q_cnt Z r1 p1 h0 n0 _ T_1.heap _
    rw [p_1_0]
    exact ⟨(congrArg (fun z => some (Value.int z)) (by simp [own_pc, hc5])), N_1, rfl⟩
  · -- pc 5: no
    refine own_go (S' := T_1.setTop (mkF m 19 #[.val (.int r1), .val (.int p1)] [(.int (((r1 - (1 : Int32)) / p1) + (1 : Int32)))])) (fun target kt => ?_) ?_
    · show Steps p.tables e below (T_1.setTop (mkF m 5 #[.val (.int r1), .val (.int p1)] [(.int r1)])) target
      refine XS.ifYes X_1.here hx rfl (pc0 := 5) (pc' := 12) rfl (hb hby d_cnt_5) rfl ((if0 _ _).trans (feq hc5).2) (by decide) (by decide) ?_
      show Steps p.tables e below (T_1.setTop (mkF m 12 #[.val (.int r1), .val (.int p1)] [])) target
      refine XS.iloadN X_1.here hx rfl (hb hby d_cnt_12) rfl ?_
      show Steps p.tables e below (T_1.setTop (mkF m 13 #[.val (.int r1), .val (.int p1)] [(.int r1)])) target
      refine XS.iconst X_1.here hx rfl (hb hby d_cnt_13) ?_
      show Steps p.tables e below (T_1.setTop (mkF m 14 #[.val (.int r1), .val (.int p1)] [(.int (1 : Int32)), (.int r1)])) target
      refine XS.isub X_1.here hx rfl (hb hby d_cnt_14) rfl ?_
      show Steps p.tables e below (T_1.setTop (mkF m 15 #[.val (.int r1), .val (.int p1)] [(.int (r1 - (1 : Int32)))])) target
      refine XS.iloadN X_1.here hx rfl (hb hby d_cnt_15) rfl ?_
      show Steps p.tables e below (T_1.setTop (mkF m 16 #[.val (.int r1), .val (.int p1)] [(.int p1), (.int (r1 - (1 : Int32)))])) target
      refine XS.idiv X_1.here hx rfl (hb hby d_cnt_16) rfl (own_nz hp) ?_
      show Steps p.tables e below (T_1.setTop (mkF m 17 #[.val (.int r1), .val (.int p1)] [(.int ((r1 - (1 : Int32)) / p1))])) target
      refine XS.iconst X_1.here hx rfl (hb hby d_cnt_17) ?_
      show Steps p.tables e below (T_1.setTop (mkF m 18 #[.val (.int r1), .val (.int p1)] [(.int (1 : Int32)), (.int ((r1 - (1 : Int32)) / p1))])) target
      refine XS.iadd X_1.here hx rfl (hb hby d_cnt_18) rfl ?_
      show Steps p.tables e below (T_1.setTop (mkF m 19 #[.val (.int r1), .val (.int p1)] [(.int (((r1 - (1 : Int32)) / p1) + (1 : Int32)))])) target
      exact kt
    obtain ⟨fs, hr, hrun, hended, hW, hsame⟩ := X_1.leave (v := some (.int (((r1 - (1 : Int32)) / p1) + (1 : Int32)))) (fun h => by rw [Bd.returns] at h; cases h)
    refine ⟨_, _, retI X_1 hx Bd.returns (hb hby d_cnt_19) hr, hrun, hended, _, _, rfl, ?_, ⟨_, rfl⟩, hW, hsame.mono (by decide) (by decide)⟩
    show Q_cnt Z r1 p1 h0 n0 _ T_1.heap _
    rw [p_1_0]
    exact ⟨(congrArg (fun z => some (Value.int z)) (by simp [own_pc, hc5])), N_1, rfl⟩
-- com/example/rahasia/rahasia/service/PairAveragingPrivatizerPartitionCountPinLaw.law:(II)Z
theorem pn_law : plainName "com/example/rahasia/rahasia/service/PairAveragingPrivatizerPartitionCountPinLaw" = true := by first | (simp [plainName, overriddenIn]; done) | decide +kernel
theorem ef_law (m : MethodId) (x0 : Int32) (y0 : Int32) : entryFrame m #[(.int x0), (.int y0)] maxLocals = mkF m 0 #[.val (.int x0), .val (.int y0), .unset, .unset, .unset, .unset, .unset, .unset, .unset, .unset, .unset] [] := by first | (simp [entryFrame, mkF, argsToLocals, Value.category, maxLocals]; done) | rfl
def Q_law (Z : State) (x0 : Int32) (y0 : Int32) (h0 : Heap) (n0 : Nat) (v : Option Value) (h : Heap) (L : List Loc) : Prop := v = some (.int (1 : Int32)) ∧ Fr n0 L
set_option maxRecDepth 65536 in
set_option maxHeartbeats 40000000 in
theorem rm_law (l : Launch) (Z : State) (a0 : Array Value) (hw : ∀ d ∈ tables_1, d.before a0 Z = true) (ws : List Jvm.Cond) (x0 : Int32) (y0 : Int32) (h0 : Heap) (n0 : Nat) (Z0 : n0 ≤ h0.size) :
    MetFree l x (head1 (Jvm.Cond.code x code maxLocals ret :: ws) room_1) (fun a U => a = #[(.int x0), (.int y0)] ∧ Z.Warmed39 U.vm ∧ U.heap = h0) (fun _ _ _ _ _ => True) (fun _ U o U' => ∃ v L, o = .returned v ∧ Q_law Z x0 y0 h0 n0 v U'.heap L ∧ FrameEnd U o U' L room_1.cells room_1.slots) := by
  refine MetFree.of_bodySF (plainFor_of_name pn_law) hisR ?_
  intro p e s m args below meth c s₁ Bd hml0 hP hK
  obtain ⟨rfl, hZ, hh⟩ := hP
  have hx := Bd.exec
  have hby := Bd.bytes
  have hml : c.maxLocals = 11 := hml0
  have hown : s.vm.findClass "com/example/rahasia/rahasia/service/PairAveragingPrivatizerPartitionCountPinLaw" = some m.cls := findClass_of_methodNamed Bd.named
  have hnm := (name_of_methodNamed Bd.named Bd.method).1
  have X0 : Stand p l e room_1 s m #[(.int x0), (.int y0)] below meth c s₁ [] 0 0 := Stand.of_body Bd
  have e0 : s₁.heap = h0 := by rw [← hh, Bd.state]; rfl
  have N0 := Fr.nil n0
  refine own_in ?_
  refine own_go (S' := s₁.setTop (mkF m 0 #[.val (.int x0), .val (.int y0), .unset, .unset, .unset, .unset, .unset, .unset, .unset, .unset, .unset] [])) (fun tgt_ stp_ => castTop (ef_law m x0 y0) stp_) ?_
  obtain ⟨_, _, ⟨T_1, L_1, k_1, n_1⟩, -, X_1, ⟨Lc_1, hQ_1, l_1, y_1, z_1⟩, st_1⟩ := Jvm.LawKit.callS X0 hx (y := (⟨"java/lang/Math", "max", "(II)I"⟩ : MethodName)) hown (mvT hZ (hw _ (List.mem_of_getElem? (i := 1) rfl))) (mvT hZ (hw _ (List.mem_of_getElem? (i := 2) rfl))) (mvT hZ (hw _ (List.mem_of_getElem? (i := 3) rfl))) (mvT hZ (hw _ (List.mem_of_getElem? (i := 4) rfl))) (by decide) (backOf (W := 0) (rm_max l Z a0 hw [] (1 : Int32) (y0 &&& (2147483647 : Int32))  h0 n0 Z0 ) hZ (hw _ (List.mem_of_getElem? (i := 4) rfl)) (hw _ (List.mem_of_getElem? (i := 3) rfl)) (by decide) (by decide)) (g := (mkF m 10 #[.val (.int x0), .val (.int y0), .val (.int (x0 &&& (2147483647 : Int32))), .unset, .unset, .unset, .unset, .unset, .unset, .unset, .unset] [(.int (y0 &&& (2147483647 : Int32))), (.int (1 : Int32))])) rfl (by rw [hml]; rfl) (argsL := [(.int (1 : Int32)), (.int (y0 &&& (2147483647 : Int32)))]) (rest := []) (lenOf pd_II_I rfl) rfl (by show 2 * 0 + _ ≤ _; exact Nat.le_of_eq rfl) (hb hby at_10) (fun _ _ => ⟨rfl, e0, (by decide : 0 + 0 ≤ _), (by decide : 0 + 0 ≤ _)⟩)
  dsimp only [Pt.U, Pt.locs, Pt.cells, Pt.slots] at X_1 l_1 y_1 z_1 st_1 hQ_1
  subst l_1 y_1 z_1
  obtain ⟨rfl, N_1q, p_1_0⟩ := hQ_1
  have N_1 := Fr.app N0 N_1q
  obtain ⟨_, _, ⟨T_2, L_2, k_2, n_2⟩, -, X_2, ⟨Lc_2, hQ_2, l_2, y_2, z_2⟩, st_2⟩ := Jvm.LawKit.callS X_1 hx (y := (⟨"com/example/rahasia/rahasia/service/PairAveragingPrivatizer", "partitionCount", "(II)I"⟩ : MethodName)) hown (mvT hZ (hw _ (List.mem_of_getElem? (i := 5) rfl))) (mvT hZ (hw _ (List.mem_of_getElem? (i := 6) rfl))) (mvT hZ (hw _ (List.mem_of_getElem? (i := 7) rfl))) (mvT hZ (hw _ (List.mem_of_getElem? (i := 8) rfl))) (by decide) (backOf (W := 0) (rm_cnt l Z a0 hw [] (x0 &&& (2147483647 : Int32)) (own_max (1 : Int32) (y0 &&& (2147483647 : Int32)))  h0 n0 Z0 (own_max1 _)) hZ (hw _ (List.mem_of_getElem? (i := 8) rfl)) (hw _ (List.mem_of_getElem? (i := 7) rfl)) (by decide) (by decide)) (g := (mkF m 16 #[.val (.int x0), .val (.int y0), .val (.int (x0 &&& (2147483647 : Int32))), .val (.int (own_max (1 : Int32) (y0 &&& (2147483647 : Int32)))), .unset, .unset, .unset, .unset, .unset, .unset, .unset] [(.int (own_max (1 : Int32) (y0 &&& (2147483647 : Int32)))), (.int (x0 &&& (2147483647 : Int32)))])) rfl (by rw [hml]; rfl) (argsL := [(.int (x0 &&& (2147483647 : Int32))), (.int (own_max (1 : Int32) (y0 &&& (2147483647 : Int32))))]) (rest := []) (lenOf pd_II_I rfl) rfl (by show 2 * 0 + _ ≤ _; exact Nat.le_of_eq rfl) (hb hby at_16) (fun _ _ => ⟨rfl, p_1_0, (by decide : 0 + 0 ≤ _), (by decide : 0 + 0 ≤ _)⟩)
  dsimp only [Pt.U, Pt.locs, Pt.cells, Pt.slots] at X_2 l_2 y_2 z_2 st_2 hQ_2
  subst l_2 y_2 z_2
  obtain ⟨rfl, N_2q, p_2_0⟩ := hQ_2
  have N_2 := Fr.app N_1 N_2q
  refine own_go (S' := T_2.setTop (mkF m 22 #[.val (.int x0), .val (.int y0), .val (.int (x0 &&& (2147483647 : Int32))), .val (.int (own_max (1 : Int32) (y0 &&& (2147483647 : Int32)))), .val (.int (own_pc (x0 &&& (2147483647 : Int32)) (own_max (1 : Int32) (y0 &&& (2147483647 : Int32))))), .unset, .unset, .unset, .unset, .unset, .unset] [(.int (x0 &&& (2147483647 : Int32)))])) (fun target kt => ?_) ?_
  · show Steps p.tables e below (s₁.setTop (mkF m 0 #[.val (.int x0), .val (.int y0), .unset, .unset, .unset, .unset, .unset, .unset, .unset, .unset, .unset] [])) target
    refine XS.iloadN X0.here hx rfl (hb hby at_0) rfl ?_
    show Steps p.tables e below (s₁.setTop (mkF m 1 #[.val (.int x0), .val (.int y0), .unset, .unset, .unset, .unset, .unset, .unset, .unset, .unset, .unset] [(.int x0)])) target
    refine X0.ldcInt hx hown (mvT hZ (hw _ (List.mem_of_getElem? (i := 0) rfl))) (g := (mkF m 1 #[.val (.int x0), .val (.int y0), .unset, .unset, .unset, .unset, .unset, .unset, .unset, .unset, .unset] [(.int x0)])) rfl (hb hby at_1) _ ?_
    show Steps p.tables e below (s₁.setTop (mkF m 3 #[.val (.int x0), .val (.int y0), .unset, .unset, .unset, .unset, .unset, .unset, .unset, .unset, .unset] [(.int (2147483647 : Int32)), (.int x0)])) target
    refine XS.iand X0.here hx rfl (hb hby at_3) rfl ?_
    show Steps p.tables e below (s₁.setTop (mkF m 4 #[.val (.int x0), .val (.int y0), .unset, .unset, .unset, .unset, .unset, .unset, .unset, .unset, .unset] [(.int (x0 &&& (2147483647 : Int32)))])) target
    refine XS.istoreN X0.here hx rfl (hb hby at_4) rfl (l' := #[.val (.int x0), .val (.int y0), .val (.int (x0 &&& (2147483647 : Int32))), .unset, .unset, .unset, .unset, .unset, .unset, .unset, .unset]) rfl ?_
    show Steps p.tables e below (s₁.setTop (mkF m 5 #[.val (.int x0), .val (.int y0), .val (.int (x0 &&& (2147483647 : Int32))), .unset, .unset, .unset, .unset, .unset, .unset, .unset, .unset] [])) target
    refine XS.iconst X0.here hx rfl (hb hby at_5) ?_
    show Steps p.tables e below (s₁.setTop (mkF m 6 #[.val (.int x0), .val (.int y0), .val (.int (x0 &&& (2147483647 : Int32))), .unset, .unset, .unset, .unset, .unset, .unset, .unset, .unset] [(.int (1 : Int32))])) target
    refine XS.iloadN X0.here hx rfl (hb hby at_6) rfl ?_
    show Steps p.tables e below (s₁.setTop (mkF m 7 #[.val (.int x0), .val (.int y0), .val (.int (x0 &&& (2147483647 : Int32))), .unset, .unset, .unset, .unset, .unset, .unset, .unset, .unset] [(.int y0), (.int (1 : Int32))])) target
    refine X0.ldcInt hx hown (mvT hZ (hw _ (List.mem_of_getElem? (i := 0) rfl))) (g := (mkF m 7 #[.val (.int x0), .val (.int y0), .val (.int (x0 &&& (2147483647 : Int32))), .unset, .unset, .unset, .unset, .unset, .unset, .unset, .unset] [(.int y0), (.int (1 : Int32))])) rfl (hb hby at_7) _ ?_
    show Steps p.tables e below (s₁.setTop (mkF m 9 #[.val (.int x0), .val (.int y0), .val (.int (x0 &&& (2147483647 : Int32))), .unset, .unset, .unset, .unset, .unset, .unset, .unset, .unset] [(.int (2147483647 : Int32)), (.int y0), (.int (1 : Int32))])) target
    refine XS.iand X0.here hx rfl (hb hby at_9) rfl ?_
    show Steps p.tables e below (s₁.setTop (mkF m 10 #[.val (.int x0), .val (.int y0), .val (.int (x0 &&& (2147483647 : Int32))), .unset, .unset, .unset, .unset, .unset, .unset, .unset, .unset] [(.int (y0 &&& (2147483647 : Int32))), (.int (1 : Int32))])) target
    refine st_1 _ ?_
    show Steps p.tables e below (T_1.setTop (mkF m 13 #[.val (.int x0), .val (.int y0), .val (.int (x0 &&& (2147483647 : Int32))), .unset, .unset, .unset, .unset, .unset, .unset, .unset, .unset] [(.int (own_max (1 : Int32) (y0 &&& (2147483647 : Int32))))])) target
    refine XS.istoreN X_1.here hx rfl (hb hby at_13) rfl (l' := #[.val (.int x0), .val (.int y0), .val (.int (x0 &&& (2147483647 : Int32))), .val (.int (own_max (1 : Int32) (y0 &&& (2147483647 : Int32)))), .unset, .unset, .unset, .unset, .unset, .unset, .unset]) rfl ?_
    show Steps p.tables e below (T_1.setTop (mkF m 14 #[.val (.int x0), .val (.int y0), .val (.int (x0 &&& (2147483647 : Int32))), .val (.int (own_max (1 : Int32) (y0 &&& (2147483647 : Int32)))), .unset, .unset, .unset, .unset, .unset, .unset, .unset] [])) target
    refine XS.iloadN X_1.here hx rfl (hb hby at_14) rfl ?_
    show Steps p.tables e below (T_1.setTop (mkF m 15 #[.val (.int x0), .val (.int y0), .val (.int (x0 &&& (2147483647 : Int32))), .val (.int (own_max (1 : Int32) (y0 &&& (2147483647 : Int32)))), .unset, .unset, .unset, .unset, .unset, .unset, .unset] [(.int (x0 &&& (2147483647 : Int32)))])) target
    refine XS.iloadN X_1.here hx rfl (hb hby at_15) rfl ?_
    show Steps p.tables e below (T_1.setTop (mkF m 16 #[.val (.int x0), .val (.int y0), .val (.int (x0 &&& (2147483647 : Int32))), .val (.int (own_max (1 : Int32) (y0 &&& (2147483647 : Int32)))), .unset, .unset, .unset, .unset, .unset, .unset, .unset] [(.int (own_max (1 : Int32) (y0 &&& (2147483647 : Int32)))), (.int (x0 &&& (2147483647 : Int32)))])) target
    refine st_2 _ ?_
    show Steps p.tables e below (T_2.setTop (mkF m 19 #[.val (.int x0), .val (.int y0), .val (.int (x0 &&& (2147483647 : Int32))), .val (.int (own_max (1 : Int32) (y0 &&& (2147483647 : Int32)))), .unset, .unset, .unset, .unset, .unset, .unset, .unset] [(.int (own_pc (x0 &&& (2147483647 : Int32)) (own_max (1 : Int32) (y0 &&& (2147483647 : Int32)))))])) target
    refine XS.istore X_2.here hx rfl (hb hby at_19) rfl (l' := #[.val (.int x0), .val (.int y0), .val (.int (x0 &&& (2147483647 : Int32))), .val (.int (own_max (1 : Int32) (y0 &&& (2147483647 : Int32)))), .val (.int (own_pc (x0 &&& (2147483647 : Int32)) (own_max (1 : Int32) (y0 &&& (2147483647 : Int32))))), .unset, .unset, .unset, .unset, .unset, .unset]) rfl ?_
    show Steps p.tables e below (T_2.setTop (mkF m 21 #[.val (.int x0), .val (.int y0), .val (.int (x0 &&& (2147483647 : Int32))), .val (.int (own_max (1 : Int32) (y0 &&& (2147483647 : Int32)))), .val (.int (own_pc (x0 &&& (2147483647 : Int32)) (own_max (1 : Int32) (y0 &&& (2147483647 : Int32))))), .unset, .unset, .unset, .unset, .unset, .unset] [])) target
    refine XS.iloadN X_2.here hx rfl (hb hby at_21) rfl ?_
    show Steps p.tables e below (T_2.setTop (mkF m 22 #[.val (.int x0), .val (.int y0), .val (.int (x0 &&& (2147483647 : Int32))), .val (.int (own_max (1 : Int32) (y0 &&& (2147483647 : Int32)))), .val (.int (own_pc (x0 &&& (2147483647 : Int32)) (own_max (1 : Int32) (y0 &&& (2147483647 : Int32))))), .unset, .unset, .unset, .unset, .unset, .unset] [(.int (x0 &&& (2147483647 : Int32)))])) target
    exact kt
  by_cases hc22 : (x0 &&& (2147483647 : Int32)) = (0 : Int32)
  · -- pc 22: yes
    refine own_go (S' := T_2.setTop (mkF m 35 #[.val (.int x0), .val (.int y0), .val (.int (x0 &&& (2147483647 : Int32))), .val (.int (own_max (1 : Int32) (y0 &&& (2147483647 : Int32)))), .val (.int (own_pc (x0 &&& (2147483647 : Int32)) (own_max (1 : Int32) (y0 &&& (2147483647 : Int32))))), .unset, .unset, .unset, .unset, .unset, .unset] [(.int (1 : Int32))])) (fun target kt => ?_) ?_
    · show Steps p.tables e below (T_2.setTop (mkF m 22 #[.val (.int x0), .val (.int y0), .val (.int (x0 &&& (2147483647 : Int32))), .val (.int (own_max (1 : Int32) (y0 &&& (2147483647 : Int32)))), .val (.int (own_pc (x0 &&& (2147483647 : Int32)) (own_max (1 : Int32) (y0 &&& (2147483647 : Int32))))), .unset, .unset, .unset, .unset, .unset, .unset] [(.int (x0 &&& (2147483647 : Int32)))])) target
      refine XS.ifNo X_2.here hx rfl (hb hby at_22) rfl ((if0 _ _).trans (teq hc22).2) ?_
      show Steps p.tables e below (T_2.setTop (mkF m 25 #[.val (.int x0), .val (.int y0), .val (.int (x0 &&& (2147483647 : Int32))), .val (.int (own_max (1 : Int32) (y0 &&& (2147483647 : Int32)))), .val (.int (own_pc (x0 &&& (2147483647 : Int32)) (own_max (1 : Int32) (y0 &&& (2147483647 : Int32))))), .unset, .unset, .unset, .unset, .unset, .unset] [])) target
      refine XS.iload X_2.here hx rfl (hb hby at_25) rfl ?_
      show Steps p.tables e below (T_2.setTop (mkF m 27 #[.val (.int x0), .val (.int y0), .val (.int (x0 &&& (2147483647 : Int32))), .val (.int (own_max (1 : Int32) (y0 &&& (2147483647 : Int32)))), .val (.int (own_pc (x0 &&& (2147483647 : Int32)) (own_max (1 : Int32) (y0 &&& (2147483647 : Int32))))), .unset, .unset, .unset, .unset, .unset, .unset] [(.int (own_pc (x0 &&& (2147483647 : Int32)) (own_max (1 : Int32) (y0 &&& (2147483647 : Int32)))))])) target
      refine XS.ifNo X_2.here hx rfl (hb hby at_27) rfl ((if0 _ _).trans (teq (by simp [own_pc, hc22] : (own_pc (x0 &&& (2147483647 : Int32)) (own_max (1 : Int32) (y0 &&& (2147483647 : Int32)))) = (0 : Int32))).2) ?_
      show Steps p.tables e below (T_2.setTop (mkF m 30 #[.val (.int x0), .val (.int y0), .val (.int (x0 &&& (2147483647 : Int32))), .val (.int (own_max (1 : Int32) (y0 &&& (2147483647 : Int32)))), .val (.int (own_pc (x0 &&& (2147483647 : Int32)) (own_max (1 : Int32) (y0 &&& (2147483647 : Int32))))), .unset, .unset, .unset, .unset, .unset, .unset] [])) target
      refine XS.iconst X_2.here hx rfl (hb hby at_30) ?_
      show Steps p.tables e below (T_2.setTop (mkF m 31 #[.val (.int x0), .val (.int y0), .val (.int (x0 &&& (2147483647 : Int32))), .val (.int (own_max (1 : Int32) (y0 &&& (2147483647 : Int32)))), .val (.int (own_pc (x0 &&& (2147483647 : Int32)) (own_max (1 : Int32) (y0 &&& (2147483647 : Int32))))), .unset, .unset, .unset, .unset, .unset, .unset] [(.int (1 : Int32))])) target
      refine XS.goto X_2.here hx rfl (pc0 := 31) (pc' := 35) rfl (hb hby at_31) (by decide) (by decide) ?_
      show Steps p.tables e below (T_2.setTop (mkF m 35 #[.val (.int x0), .val (.int y0), .val (.int (x0 &&& (2147483647 : Int32))), .val (.int (own_max (1 : Int32) (y0 &&& (2147483647 : Int32)))), .val (.int (own_pc (x0 &&& (2147483647 : Int32)) (own_max (1 : Int32) (y0 &&& (2147483647 : Int32))))), .unset, .unset, .unset, .unset, .unset, .unset] [(.int (1 : Int32))])) target
      exact kt
    obtain ⟨fs, hr, hrun, hended, hW, hsame⟩ := X_2.leave (v := some (.int (1 : Int32))) (fun h => by rw [Bd.returns] at h; cases h)
    refine ⟨_, _, retN X_2 hx (t := .boolean) Bd.returns (by simp) (hb hby at_35) hr, hrun, hended, _, _, rfl, ?_, ⟨_, rfl⟩, hW, hsame.mono (by decide) (by decide)⟩
    show Q_law Z x0 y0 h0 n0 _ T_2.heap _
    rw [p_2_0]
    exact ⟨rfl, N_2⟩
  · -- pc 22: no
    refine own_go (S' := T_2.setTop (mkF m 85 #[.val (.int x0), .val (.int y0), .val (.int (x0 &&& (2147483647 : Int32))), .val (.int (own_max (1 : Int32) (y0 &&& (2147483647 : Int32)))), .val (.int (own_pc (x0 &&& (2147483647 : Int32)) (own_max (1 : Int32) (y0 &&& (2147483647 : Int32))))), .val (.long ((own_pc (x0 &&& (2147483647 : Int32)) (own_max (1 : Int32) (y0 &&& (2147483647 : Int32)))).toInt64)), .second, .val (.long ((own_max (1 : Int32) (y0 &&& (2147483647 : Int32))).toInt64)), .second, .val (.long ((x0 &&& (2147483647 : Int32)).toInt64)), .second] [(.int (1 : Int32))])) (fun target kt => ?_) ?_
    · show Steps p.tables e below (T_2.setTop (mkF m 22 #[.val (.int x0), .val (.int y0), .val (.int (x0 &&& (2147483647 : Int32))), .val (.int (own_max (1 : Int32) (y0 &&& (2147483647 : Int32)))), .val (.int (own_pc (x0 &&& (2147483647 : Int32)) (own_max (1 : Int32) (y0 &&& (2147483647 : Int32))))), .unset, .unset, .unset, .unset, .unset, .unset] [(.int (x0 &&& (2147483647 : Int32)))])) target
      refine XS.ifYes X_2.here hx rfl (pc0 := 22) (pc' := 36) rfl (hb hby at_22) rfl ((if0 _ _).trans (feq hc22).2) (by decide) (by decide) ?_
      show Steps p.tables e below (T_2.setTop (mkF m 36 #[.val (.int x0), .val (.int y0), .val (.int (x0 &&& (2147483647 : Int32))), .val (.int (own_max (1 : Int32) (y0 &&& (2147483647 : Int32)))), .val (.int (own_pc (x0 &&& (2147483647 : Int32)) (own_max (1 : Int32) (y0 &&& (2147483647 : Int32))))), .unset, .unset, .unset, .unset, .unset, .unset] [])) target
      refine XS.iload X_2.here hx rfl (hb hby at_36) rfl ?_
      show Steps p.tables e below (T_2.setTop (mkF m 38 #[.val (.int x0), .val (.int y0), .val (.int (x0 &&& (2147483647 : Int32))), .val (.int (own_max (1 : Int32) (y0 &&& (2147483647 : Int32)))), .val (.int (own_pc (x0 &&& (2147483647 : Int32)) (own_max (1 : Int32) (y0 &&& (2147483647 : Int32))))), .unset, .unset, .unset, .unset, .unset, .unset] [(.int (own_pc (x0 &&& (2147483647 : Int32)) (own_max (1 : Int32) (y0 &&& (2147483647 : Int32)))))])) target
      refine XS.i2l X_2.here hx rfl (hb hby at_38) rfl ?_
      show Steps p.tables e below (T_2.setTop (mkF m 39 #[.val (.int x0), .val (.int y0), .val (.int (x0 &&& (2147483647 : Int32))), .val (.int (own_max (1 : Int32) (y0 &&& (2147483647 : Int32)))), .val (.int (own_pc (x0 &&& (2147483647 : Int32)) (own_max (1 : Int32) (y0 &&& (2147483647 : Int32))))), .unset, .unset, .unset, .unset, .unset, .unset] [(.long ((own_pc (x0 &&& (2147483647 : Int32)) (own_max (1 : Int32) (y0 &&& (2147483647 : Int32)))).toInt64))])) target
      refine XS.lstore X_2.here hx rfl (hb hby at_39) rfl (l' := #[.val (.int x0), .val (.int y0), .val (.int (x0 &&& (2147483647 : Int32))), .val (.int (own_max (1 : Int32) (y0 &&& (2147483647 : Int32)))), .val (.int (own_pc (x0 &&& (2147483647 : Int32)) (own_max (1 : Int32) (y0 &&& (2147483647 : Int32))))), .val (.long ((own_pc (x0 &&& (2147483647 : Int32)) (own_max (1 : Int32) (y0 &&& (2147483647 : Int32)))).toInt64)), .second, .unset, .unset, .unset, .unset]) rfl ?_
      show Steps p.tables e below (T_2.setTop (mkF m 41 #[.val (.int x0), .val (.int y0), .val (.int (x0 &&& (2147483647 : Int32))), .val (.int (own_max (1 : Int32) (y0 &&& (2147483647 : Int32)))), .val (.int (own_pc (x0 &&& (2147483647 : Int32)) (own_max (1 : Int32) (y0 &&& (2147483647 : Int32))))), .val (.long ((own_pc (x0 &&& (2147483647 : Int32)) (own_max (1 : Int32) (y0 &&& (2147483647 : Int32)))).toInt64)), .second, .unset, .unset, .unset, .unset] [])) target
      refine XS.iloadN X_2.here hx rfl (hb hby at_41) rfl ?_
      show Steps p.tables e below (T_2.setTop (mkF m 42 #[.val (.int x0), .val (.int y0), .val (.int (x0 &&& (2147483647 : Int32))), .val (.int (own_max (1 : Int32) (y0 &&& (2147483647 : Int32)))), .val (.int (own_pc (x0 &&& (2147483647 : Int32)) (own_max (1 : Int32) (y0 &&& (2147483647 : Int32))))), .val (.long ((own_pc (x0 &&& (2147483647 : Int32)) (own_max (1 : Int32) (y0 &&& (2147483647 : Int32)))).toInt64)), .second, .unset, .unset, .unset, .unset] [(.int (own_max (1 : Int32) (y0 &&& (2147483647 : Int32))))])) target
      refine XS.i2l X_2.here hx rfl (hb hby at_42) rfl ?_
      show Steps p.tables e below (T_2.setTop (mkF m 43 #[.val (.int x0), .val (.int y0), .val (.int (x0 &&& (2147483647 : Int32))), .val (.int (own_max (1 : Int32) (y0 &&& (2147483647 : Int32)))), .val (.int (own_pc (x0 &&& (2147483647 : Int32)) (own_max (1 : Int32) (y0 &&& (2147483647 : Int32))))), .val (.long ((own_pc (x0 &&& (2147483647 : Int32)) (own_max (1 : Int32) (y0 &&& (2147483647 : Int32)))).toInt64)), .second, .unset, .unset, .unset, .unset] [(.long ((own_max (1 : Int32) (y0 &&& (2147483647 : Int32))).toInt64))])) target
      refine XS.lstore X_2.here hx rfl (hb hby at_43) rfl (l' := #[.val (.int x0), .val (.int y0), .val (.int (x0 &&& (2147483647 : Int32))), .val (.int (own_max (1 : Int32) (y0 &&& (2147483647 : Int32)))), .val (.int (own_pc (x0 &&& (2147483647 : Int32)) (own_max (1 : Int32) (y0 &&& (2147483647 : Int32))))), .val (.long ((own_pc (x0 &&& (2147483647 : Int32)) (own_max (1 : Int32) (y0 &&& (2147483647 : Int32)))).toInt64)), .second, .val (.long ((own_max (1 : Int32) (y0 &&& (2147483647 : Int32))).toInt64)), .second, .unset, .unset]) rfl ?_
      show Steps p.tables e below (T_2.setTop (mkF m 45 #[.val (.int x0), .val (.int y0), .val (.int (x0 &&& (2147483647 : Int32))), .val (.int (own_max (1 : Int32) (y0 &&& (2147483647 : Int32)))), .val (.int (own_pc (x0 &&& (2147483647 : Int32)) (own_max (1 : Int32) (y0 &&& (2147483647 : Int32))))), .val (.long ((own_pc (x0 &&& (2147483647 : Int32)) (own_max (1 : Int32) (y0 &&& (2147483647 : Int32)))).toInt64)), .second, .val (.long ((own_max (1 : Int32) (y0 &&& (2147483647 : Int32))).toInt64)), .second, .unset, .unset] [])) target
      refine XS.iloadN X_2.here hx rfl (hb hby at_45) rfl ?_
      show Steps p.tables e below (T_2.setTop (mkF m 46 #[.val (.int x0), .val (.int y0), .val (.int (x0 &&& (2147483647 : Int32))), .val (.int (own_max (1 : Int32) (y0 &&& (2147483647 : Int32)))), .val (.int (own_pc (x0 &&& (2147483647 : Int32)) (own_max (1 : Int32) (y0 &&& (2147483647 : Int32))))), .val (.long ((own_pc (x0 &&& (2147483647 : Int32)) (own_max (1 : Int32) (y0 &&& (2147483647 : Int32)))).toInt64)), .second, .val (.long ((own_max (1 : Int32) (y0 &&& (2147483647 : Int32))).toInt64)), .second, .unset, .unset] [(.int (x0 &&& (2147483647 : Int32)))])) target
      refine XS.i2l X_2.here hx rfl (hb hby at_46) rfl ?_
      show Steps p.tables e below (T_2.setTop (mkF m 47 #[.val (.int x0), .val (.int y0), .val (.int (x0 &&& (2147483647 : Int32))), .val (.int (own_max (1 : Int32) (y0 &&& (2147483647 : Int32)))), .val (.int (own_pc (x0 &&& (2147483647 : Int32)) (own_max (1 : Int32) (y0 &&& (2147483647 : Int32))))), .val (.long ((own_pc (x0 &&& (2147483647 : Int32)) (own_max (1 : Int32) (y0 &&& (2147483647 : Int32)))).toInt64)), .second, .val (.long ((own_max (1 : Int32) (y0 &&& (2147483647 : Int32))).toInt64)), .second, .unset, .unset] [(.long ((x0 &&& (2147483647 : Int32)).toInt64))])) target
      refine XS.lstore X_2.here hx rfl (hb hby at_47) rfl (l' := #[.val (.int x0), .val (.int y0), .val (.int (x0 &&& (2147483647 : Int32))), .val (.int (own_max (1 : Int32) (y0 &&& (2147483647 : Int32)))), .val (.int (own_pc (x0 &&& (2147483647 : Int32)) (own_max (1 : Int32) (y0 &&& (2147483647 : Int32))))), .val (.long ((own_pc (x0 &&& (2147483647 : Int32)) (own_max (1 : Int32) (y0 &&& (2147483647 : Int32)))).toInt64)), .second, .val (.long ((own_max (1 : Int32) (y0 &&& (2147483647 : Int32))).toInt64)), .second, .val (.long ((x0 &&& (2147483647 : Int32)).toInt64)), .second]) rfl ?_
      show Steps p.tables e below (T_2.setTop (mkF m 49 #[.val (.int x0), .val (.int y0), .val (.int (x0 &&& (2147483647 : Int32))), .val (.int (own_max (1 : Int32) (y0 &&& (2147483647 : Int32)))), .val (.int (own_pc (x0 &&& (2147483647 : Int32)) (own_max (1 : Int32) (y0 &&& (2147483647 : Int32))))), .val (.long ((own_pc (x0 &&& (2147483647 : Int32)) (own_max (1 : Int32) (y0 &&& (2147483647 : Int32)))).toInt64)), .second, .val (.long ((own_max (1 : Int32) (y0 &&& (2147483647 : Int32))).toInt64)), .second, .val (.long ((x0 &&& (2147483647 : Int32)).toInt64)), .second] [])) target
      refine XS.lload X_2.here hx rfl (hb hby at_49) rfl ?_
      show Steps p.tables e below (T_2.setTop (mkF m 51 #[.val (.int x0), .val (.int y0), .val (.int (x0 &&& (2147483647 : Int32))), .val (.int (own_max (1 : Int32) (y0 &&& (2147483647 : Int32)))), .val (.int (own_pc (x0 &&& (2147483647 : Int32)) (own_max (1 : Int32) (y0 &&& (2147483647 : Int32))))), .val (.long ((own_pc (x0 &&& (2147483647 : Int32)) (own_max (1 : Int32) (y0 &&& (2147483647 : Int32)))).toInt64)), .second, .val (.long ((own_max (1 : Int32) (y0 &&& (2147483647 : Int32))).toInt64)), .second, .val (.long ((x0 &&& (2147483647 : Int32)).toInt64)), .second] [(.long ((own_pc (x0 &&& (2147483647 : Int32)) (own_max (1 : Int32) (y0 &&& (2147483647 : Int32)))).toInt64))])) target
      refine XS.lconst X_2.here hx rfl (hb hby at_51) ?_
      show Steps p.tables e below (T_2.setTop (mkF m 52 #[.val (.int x0), .val (.int y0), .val (.int (x0 &&& (2147483647 : Int32))), .val (.int (own_max (1 : Int32) (y0 &&& (2147483647 : Int32)))), .val (.int (own_pc (x0 &&& (2147483647 : Int32)) (own_max (1 : Int32) (y0 &&& (2147483647 : Int32))))), .val (.long ((own_pc (x0 &&& (2147483647 : Int32)) (own_max (1 : Int32) (y0 &&& (2147483647 : Int32)))).toInt64)), .second, .val (.long ((own_max (1 : Int32) (y0 &&& (2147483647 : Int32))).toInt64)), .second, .val (.long ((x0 &&& (2147483647 : Int32)).toInt64)), .second] [(.long (1 : Int64)), (.long ((own_pc (x0 &&& (2147483647 : Int32)) (own_max (1 : Int32) (y0 &&& (2147483647 : Int32)))).toInt64))])) target
      refine XS.lcmp X_2.here hx rfl (hb hby at_52) rfl ?_
      show Steps p.tables e below (T_2.setTop (mkF m 53 #[.val (.int x0), .val (.int y0), .val (.int (x0 &&& (2147483647 : Int32))), .val (.int (own_max (1 : Int32) (y0 &&& (2147483647 : Int32)))), .val (.int (own_pc (x0 &&& (2147483647 : Int32)) (own_max (1 : Int32) (y0 &&& (2147483647 : Int32))))), .val (.long ((own_pc (x0 &&& (2147483647 : Int32)) (own_max (1 : Int32) (y0 &&& (2147483647 : Int32)))).toInt64)), .second, .val (.long ((own_max (1 : Int32) (y0 &&& (2147483647 : Int32))).toInt64)), .second, .val (.long ((x0 &&& (2147483647 : Int32)).toInt64)), .second] [(.int (lcmpW ((own_pc (x0 &&& (2147483647 : Int32)) (own_max (1 : Int32) (y0 &&& (2147483647 : Int32)))).toInt64) (1 : Int64)))])) target
      refine XS.ifNo X_2.here hx rfl (hb hby at_53) rfl ((if0 _ _).trans (flt (own_l4 ((own_m _ _ hc22).1 : ¬ (((own_pc (x0 &&& (2147483647 : Int32)) (own_max (1 : Int32) (y0 &&& (2147483647 : Int32)))).toInt64) < (1 : Int64))))).1) ?_
      show Steps p.tables e below (T_2.setTop (mkF m 56 #[.val (.int x0), .val (.int y0), .val (.int (x0 &&& (2147483647 : Int32))), .val (.int (own_max (1 : Int32) (y0 &&& (2147483647 : Int32)))), .val (.int (own_pc (x0 &&& (2147483647 : Int32)) (own_max (1 : Int32) (y0 &&& (2147483647 : Int32))))), .val (.long ((own_pc (x0 &&& (2147483647 : Int32)) (own_max (1 : Int32) (y0 &&& (2147483647 : Int32)))).toInt64)), .second, .val (.long ((own_max (1 : Int32) (y0 &&& (2147483647 : Int32))).toInt64)), .second, .val (.long ((x0 &&& (2147483647 : Int32)).toInt64)), .second] [])) target
      refine XS.lload X_2.here hx rfl (hb hby at_56) rfl ?_
      show Steps p.tables e below (T_2.setTop (mkF m 58 #[.val (.int x0), .val (.int y0), .val (.int (x0 &&& (2147483647 : Int32))), .val (.int (own_max (1 : Int32) (y0 &&& (2147483647 : Int32)))), .val (.int (own_pc (x0 &&& (2147483647 : Int32)) (own_max (1 : Int32) (y0 &&& (2147483647 : Int32))))), .val (.long ((own_pc (x0 &&& (2147483647 : Int32)) (own_max (1 : Int32) (y0 &&& (2147483647 : Int32)))).toInt64)), .second, .val (.long ((own_max (1 : Int32) (y0 &&& (2147483647 : Int32))).toInt64)), .second, .val (.long ((x0 &&& (2147483647 : Int32)).toInt64)), .second] [(.long ((own_pc (x0 &&& (2147483647 : Int32)) (own_max (1 : Int32) (y0 &&& (2147483647 : Int32)))).toInt64))])) target
      refine XS.lconst X_2.here hx rfl (hb hby at_58) ?_
      show Steps p.tables e below (T_2.setTop (mkF m 59 #[.val (.int x0), .val (.int y0), .val (.int (x0 &&& (2147483647 : Int32))), .val (.int (own_max (1 : Int32) (y0 &&& (2147483647 : Int32)))), .val (.int (own_pc (x0 &&& (2147483647 : Int32)) (own_max (1 : Int32) (y0 &&& (2147483647 : Int32))))), .val (.long ((own_pc (x0 &&& (2147483647 : Int32)) (own_max (1 : Int32) (y0 &&& (2147483647 : Int32)))).toInt64)), .second, .val (.long ((own_max (1 : Int32) (y0 &&& (2147483647 : Int32))).toInt64)), .second, .val (.long ((x0 &&& (2147483647 : Int32)).toInt64)), .second] [(.long (1 : Int64)), (.long ((own_pc (x0 &&& (2147483647 : Int32)) (own_max (1 : Int32) (y0 &&& (2147483647 : Int32)))).toInt64))])) target
      refine XS.lsub X_2.here hx rfl (hb hby at_59) rfl ?_
      show Steps p.tables e below (T_2.setTop (mkF m 60 #[.val (.int x0), .val (.int y0), .val (.int (x0 &&& (2147483647 : Int32))), .val (.int (own_max (1 : Int32) (y0 &&& (2147483647 : Int32)))), .val (.int (own_pc (x0 &&& (2147483647 : Int32)) (own_max (1 : Int32) (y0 &&& (2147483647 : Int32))))), .val (.long ((own_pc (x0 &&& (2147483647 : Int32)) (own_max (1 : Int32) (y0 &&& (2147483647 : Int32)))).toInt64)), .second, .val (.long ((own_max (1 : Int32) (y0 &&& (2147483647 : Int32))).toInt64)), .second, .val (.long ((x0 &&& (2147483647 : Int32)).toInt64)), .second] [(.long (((own_pc (x0 &&& (2147483647 : Int32)) (own_max (1 : Int32) (y0 &&& (2147483647 : Int32)))).toInt64) - (1 : Int64)))])) target
      refine XS.lload X_2.here hx rfl (hb hby at_60) rfl ?_
      show Steps p.tables e below (T_2.setTop (mkF m 62 #[.val (.int x0), .val (.int y0), .val (.int (x0 &&& (2147483647 : Int32))), .val (.int (own_max (1 : Int32) (y0 &&& (2147483647 : Int32)))), .val (.int (own_pc (x0 &&& (2147483647 : Int32)) (own_max (1 : Int32) (y0 &&& (2147483647 : Int32))))), .val (.long ((own_pc (x0 &&& (2147483647 : Int32)) (own_max (1 : Int32) (y0 &&& (2147483647 : Int32)))).toInt64)), .second, .val (.long ((own_max (1 : Int32) (y0 &&& (2147483647 : Int32))).toInt64)), .second, .val (.long ((x0 &&& (2147483647 : Int32)).toInt64)), .second] [(.long ((own_max (1 : Int32) (y0 &&& (2147483647 : Int32))).toInt64)), (.long (((own_pc (x0 &&& (2147483647 : Int32)) (own_max (1 : Int32) (y0 &&& (2147483647 : Int32)))).toInt64) - (1 : Int64)))])) target
      refine XS.lmul X_2.here hx rfl (hb hby at_62) rfl ?_
      show Steps p.tables e below (T_2.setTop (mkF m 63 #[.val (.int x0), .val (.int y0), .val (.int (x0 &&& (2147483647 : Int32))), .val (.int (own_max (1 : Int32) (y0 &&& (2147483647 : Int32)))), .val (.int (own_pc (x0 &&& (2147483647 : Int32)) (own_max (1 : Int32) (y0 &&& (2147483647 : Int32))))), .val (.long ((own_pc (x0 &&& (2147483647 : Int32)) (own_max (1 : Int32) (y0 &&& (2147483647 : Int32)))).toInt64)), .second, .val (.long ((own_max (1 : Int32) (y0 &&& (2147483647 : Int32))).toInt64)), .second, .val (.long ((x0 &&& (2147483647 : Int32)).toInt64)), .second] [(.long ((((own_pc (x0 &&& (2147483647 : Int32)) (own_max (1 : Int32) (y0 &&& (2147483647 : Int32)))).toInt64) - (1 : Int64)) * ((own_max (1 : Int32) (y0 &&& (2147483647 : Int32))).toInt64)))])) target
      refine XS.lload X_2.here hx rfl (hb hby at_63) rfl ?_
      show Steps p.tables e below (T_2.setTop (mkF m 65 #[.val (.int x0), .val (.int y0), .val (.int (x0 &&& (2147483647 : Int32))), .val (.int (own_max (1 : Int32) (y0 &&& (2147483647 : Int32)))), .val (.int (own_pc (x0 &&& (2147483647 : Int32)) (own_max (1 : Int32) (y0 &&& (2147483647 : Int32))))), .val (.long ((own_pc (x0 &&& (2147483647 : Int32)) (own_max (1 : Int32) (y0 &&& (2147483647 : Int32)))).toInt64)), .second, .val (.long ((own_max (1 : Int32) (y0 &&& (2147483647 : Int32))).toInt64)), .second, .val (.long ((x0 &&& (2147483647 : Int32)).toInt64)), .second] [(.long ((x0 &&& (2147483647 : Int32)).toInt64)), (.long ((((own_pc (x0 &&& (2147483647 : Int32)) (own_max (1 : Int32) (y0 &&& (2147483647 : Int32)))).toInt64) - (1 : Int64)) * ((own_max (1 : Int32) (y0 &&& (2147483647 : Int32))).toInt64)))])) target
      refine XS.lcmp X_2.here hx rfl (hb hby at_65) rfl ?_
      show Steps p.tables e below (T_2.setTop (mkF m 66 #[.val (.int x0), .val (.int y0), .val (.int (x0 &&& (2147483647 : Int32))), .val (.int (own_max (1 : Int32) (y0 &&& (2147483647 : Int32)))), .val (.int (own_pc (x0 &&& (2147483647 : Int32)) (own_max (1 : Int32) (y0 &&& (2147483647 : Int32))))), .val (.long ((own_pc (x0 &&& (2147483647 : Int32)) (own_max (1 : Int32) (y0 &&& (2147483647 : Int32)))).toInt64)), .second, .val (.long ((own_max (1 : Int32) (y0 &&& (2147483647 : Int32))).toInt64)), .second, .val (.long ((x0 &&& (2147483647 : Int32)).toInt64)), .second] [(.int (lcmpW ((((own_pc (x0 &&& (2147483647 : Int32)) (own_max (1 : Int32) (y0 &&& (2147483647 : Int32)))).toInt64) - (1 : Int64)) * ((own_max (1 : Int32) (y0 &&& (2147483647 : Int32))).toInt64)) ((x0 &&& (2147483647 : Int32)).toInt64)))])) target
      refine XS.ifNo X_2.here hx rfl (hb hby at_66) rfl ((if0 _ _).trans (tlt (own_l3 ((own_m _ _ hc22).2.1 : ((((own_pc (x0 &&& (2147483647 : Int32)) (own_max (1 : Int32) (y0 &&& (2147483647 : Int32)))).toInt64) - (1 : Int64)) * ((own_max (1 : Int32) (y0 &&& (2147483647 : Int32))).toInt64)) < ((x0 &&& (2147483647 : Int32)).toInt64)))).2.1) ?_
      show Steps p.tables e below (T_2.setTop (mkF m 69 #[.val (.int x0), .val (.int y0), .val (.int (x0 &&& (2147483647 : Int32))), .val (.int (own_max (1 : Int32) (y0 &&& (2147483647 : Int32)))), .val (.int (own_pc (x0 &&& (2147483647 : Int32)) (own_max (1 : Int32) (y0 &&& (2147483647 : Int32))))), .val (.long ((own_pc (x0 &&& (2147483647 : Int32)) (own_max (1 : Int32) (y0 &&& (2147483647 : Int32)))).toInt64)), .second, .val (.long ((own_max (1 : Int32) (y0 &&& (2147483647 : Int32))).toInt64)), .second, .val (.long ((x0 &&& (2147483647 : Int32)).toInt64)), .second] [])) target
      refine XS.lload X_2.here hx rfl (hb hby at_69) rfl ?_
      show Steps p.tables e below (T_2.setTop (mkF m 71 #[.val (.int x0), .val (.int y0), .val (.int (x0 &&& (2147483647 : Int32))), .val (.int (own_max (1 : Int32) (y0 &&& (2147483647 : Int32)))), .val (.int (own_pc (x0 &&& (2147483647 : Int32)) (own_max (1 : Int32) (y0 &&& (2147483647 : Int32))))), .val (.long ((own_pc (x0 &&& (2147483647 : Int32)) (own_max (1 : Int32) (y0 &&& (2147483647 : Int32)))).toInt64)), .second, .val (.long ((own_max (1 : Int32) (y0 &&& (2147483647 : Int32))).toInt64)), .second, .val (.long ((x0 &&& (2147483647 : Int32)).toInt64)), .second] [(.long ((x0 &&& (2147483647 : Int32)).toInt64))])) target
      refine XS.lload X_2.here hx rfl (hb hby at_71) rfl ?_
      show Steps p.tables e below (T_2.setTop (mkF m 73 #[.val (.int x0), .val (.int y0), .val (.int (x0 &&& (2147483647 : Int32))), .val (.int (own_max (1 : Int32) (y0 &&& (2147483647 : Int32)))), .val (.int (own_pc (x0 &&& (2147483647 : Int32)) (own_max (1 : Int32) (y0 &&& (2147483647 : Int32))))), .val (.long ((own_pc (x0 &&& (2147483647 : Int32)) (own_max (1 : Int32) (y0 &&& (2147483647 : Int32)))).toInt64)), .second, .val (.long ((own_max (1 : Int32) (y0 &&& (2147483647 : Int32))).toInt64)), .second, .val (.long ((x0 &&& (2147483647 : Int32)).toInt64)), .second] [(.long ((own_pc (x0 &&& (2147483647 : Int32)) (own_max (1 : Int32) (y0 &&& (2147483647 : Int32)))).toInt64)), (.long ((x0 &&& (2147483647 : Int32)).toInt64))])) target
      refine XS.lload X_2.here hx rfl (hb hby at_73) rfl ?_
      show Steps p.tables e below (T_2.setTop (mkF m 75 #[.val (.int x0), .val (.int y0), .val (.int (x0 &&& (2147483647 : Int32))), .val (.int (own_max (1 : Int32) (y0 &&& (2147483647 : Int32)))), .val (.int (own_pc (x0 &&& (2147483647 : Int32)) (own_max (1 : Int32) (y0 &&& (2147483647 : Int32))))), .val (.long ((own_pc (x0 &&& (2147483647 : Int32)) (own_max (1 : Int32) (y0 &&& (2147483647 : Int32)))).toInt64)), .second, .val (.long ((own_max (1 : Int32) (y0 &&& (2147483647 : Int32))).toInt64)), .second, .val (.long ((x0 &&& (2147483647 : Int32)).toInt64)), .second] [(.long ((own_max (1 : Int32) (y0 &&& (2147483647 : Int32))).toInt64)), (.long ((own_pc (x0 &&& (2147483647 : Int32)) (own_max (1 : Int32) (y0 &&& (2147483647 : Int32)))).toInt64)), (.long ((x0 &&& (2147483647 : Int32)).toInt64))])) target
      refine XS.lmul X_2.here hx rfl (hb hby at_75) rfl ?_
      show Steps p.tables e below (T_2.setTop (mkF m 76 #[.val (.int x0), .val (.int y0), .val (.int (x0 &&& (2147483647 : Int32))), .val (.int (own_max (1 : Int32) (y0 &&& (2147483647 : Int32)))), .val (.int (own_pc (x0 &&& (2147483647 : Int32)) (own_max (1 : Int32) (y0 &&& (2147483647 : Int32))))), .val (.long ((own_pc (x0 &&& (2147483647 : Int32)) (own_max (1 : Int32) (y0 &&& (2147483647 : Int32)))).toInt64)), .second, .val (.long ((own_max (1 : Int32) (y0 &&& (2147483647 : Int32))).toInt64)), .second, .val (.long ((x0 &&& (2147483647 : Int32)).toInt64)), .second] [(.long (((own_pc (x0 &&& (2147483647 : Int32)) (own_max (1 : Int32) (y0 &&& (2147483647 : Int32)))).toInt64) * ((own_max (1 : Int32) (y0 &&& (2147483647 : Int32))).toInt64))), (.long ((x0 &&& (2147483647 : Int32)).toInt64))])) target
      refine XS.lcmp X_2.here hx rfl (hb hby at_76) rfl ?_
      show Steps p.tables e below (T_2.setTop (mkF m 77 #[.val (.int x0), .val (.int y0), .val (.int (x0 &&& (2147483647 : Int32))), .val (.int (own_max (1 : Int32) (y0 &&& (2147483647 : Int32)))), .val (.int (own_pc (x0 &&& (2147483647 : Int32)) (own_max (1 : Int32) (y0 &&& (2147483647 : Int32))))), .val (.long ((own_pc (x0 &&& (2147483647 : Int32)) (own_max (1 : Int32) (y0 &&& (2147483647 : Int32)))).toInt64)), .second, .val (.long ((own_max (1 : Int32) (y0 &&& (2147483647 : Int32))).toInt64)), .second, .val (.long ((x0 &&& (2147483647 : Int32)).toInt64)), .second] [(.int (lcmpW ((x0 &&& (2147483647 : Int32)).toInt64) (((own_pc (x0 &&& (2147483647 : Int32)) (own_max (1 : Int32) (y0 &&& (2147483647 : Int32)))).toInt64) * ((own_max (1 : Int32) (y0 &&& (2147483647 : Int32))).toInt64))))])) target
      refine XS.ifNo X_2.here hx rfl (hb hby at_77) rfl ((if0 _ _).trans (flt (own_l6 ((own_m _ _ hc22).2.2 : ¬ ((((own_pc (x0 &&& (2147483647 : Int32)) (own_max (1 : Int32) (y0 &&& (2147483647 : Int32)))).toInt64) * ((own_max (1 : Int32) (y0 &&& (2147483647 : Int32))).toInt64)) < ((x0 &&& (2147483647 : Int32)).toInt64))))).2.2.1) ?_
      show Steps p.tables e below (T_2.setTop (mkF m 80 #[.val (.int x0), .val (.int y0), .val (.int (x0 &&& (2147483647 : Int32))), .val (.int (own_max (1 : Int32) (y0 &&& (2147483647 : Int32)))), .val (.int (own_pc (x0 &&& (2147483647 : Int32)) (own_max (1 : Int32) (y0 &&& (2147483647 : Int32))))), .val (.long ((own_pc (x0 &&& (2147483647 : Int32)) (own_max (1 : Int32) (y0 &&& (2147483647 : Int32)))).toInt64)), .second, .val (.long ((own_max (1 : Int32) (y0 &&& (2147483647 : Int32))).toInt64)), .second, .val (.long ((x0 &&& (2147483647 : Int32)).toInt64)), .second] [])) target
      refine XS.iconst X_2.here hx rfl (hb hby at_80) ?_
      show Steps p.tables e below (T_2.setTop (mkF m 81 #[.val (.int x0), .val (.int y0), .val (.int (x0 &&& (2147483647 : Int32))), .val (.int (own_max (1 : Int32) (y0 &&& (2147483647 : Int32)))), .val (.int (own_pc (x0 &&& (2147483647 : Int32)) (own_max (1 : Int32) (y0 &&& (2147483647 : Int32))))), .val (.long ((own_pc (x0 &&& (2147483647 : Int32)) (own_max (1 : Int32) (y0 &&& (2147483647 : Int32)))).toInt64)), .second, .val (.long ((own_max (1 : Int32) (y0 &&& (2147483647 : Int32))).toInt64)), .second, .val (.long ((x0 &&& (2147483647 : Int32)).toInt64)), .second] [(.int (1 : Int32))])) target
      refine XS.goto X_2.here hx rfl (pc0 := 81) (pc' := 85) rfl (hb hby at_81) (by decide) (by decide) ?_
      show Steps p.tables e below (T_2.setTop (mkF m 85 #[.val (.int x0), .val (.int y0), .val (.int (x0 &&& (2147483647 : Int32))), .val (.int (own_max (1 : Int32) (y0 &&& (2147483647 : Int32)))), .val (.int (own_pc (x0 &&& (2147483647 : Int32)) (own_max (1 : Int32) (y0 &&& (2147483647 : Int32))))), .val (.long ((own_pc (x0 &&& (2147483647 : Int32)) (own_max (1 : Int32) (y0 &&& (2147483647 : Int32)))).toInt64)), .second, .val (.long ((own_max (1 : Int32) (y0 &&& (2147483647 : Int32))).toInt64)), .second, .val (.long ((x0 &&& (2147483647 : Int32)).toInt64)), .second] [(.int (1 : Int32))])) target
      exact kt
    obtain ⟨fs, hr, hrun, hended, hW, hsame⟩ := X_2.leave (v := some (.int (1 : Int32))) (fun h => by rw [Bd.returns] at h; cases h)
    refine ⟨_, _, retN X_2 hx (t := .boolean) Bd.returns (by simp) (hb hby at_85) hr, hrun, hended, _, _, rfl, ?_, ⟨_, rfl⟩, hW, hsame.mono (by decide) (by decide)⟩
    show Q_law Z x0 y0 h0 n0 _ T_2.heap _
    rw [p_2_0]
    exact ⟨rfl, N_2⟩
set_option maxRecDepth 65536 in
set_option maxHeartbeats 40000000 in
theorem comes_1 {Post : Tables → Env → Array Value → State → Outcome → State → Prop} (hpost : ∀ tb e args s v u, (limb_1_1.after args s (.returned v) u = true ∧ limb_1_2.after args s (.returned v) u = true ∧ True) → FrameEnd s (.returned v) u (Jvm.fieldLocs frame_1_writes args s ++ Jvm.arrayLocs frame_1_arrays args s ++ Jvm.staticLocs frame_1_statics s) 0 0 → Post tb e args s (.returned v) u) :
    ArmFor flags0 classFile x code maxLocals ret World_1 tables_1 room_1 Calls_1 rest_1 Pre_1 Post := by
  intro l hfl _ _ p e ha hc hk s m args below hf hA hF happ hP
  obtain ⟨hcalls, hrest, hpre⟩ := hP
  obtain ⟨-, -, -, hnamed, -, -, -, hat⟩ := (Spec.applies_iff hf).mp happ
  obtain ⟨hg, hn⟩ := and_e (Cond.before_iff.mp (show (Jvm.Cond.and given_1 narrow_1).before args s = true from hpre))
  obtain ⟨gc0, gd0⟩ := and_e hg
  obtain ⟨gc1, gd1⟩ := and_e gd0
  obtain ⟨w0, w1, rfl⟩ : ∃ w0 w1 : Value, args = #[w0, w1] := by
    have hs : args.size = 2 := by simpa [Cond.value, given_1] using gc0
    obtain ⟨L⟩ := args
    match L, hs with
    | [w0, w1], _ => exact ⟨w0, w1, rfl⟩
  have hw := fun d (hd : d ∈ tables_1) => atoms_spec (ws := Jvm.Cond.code x code maxLocals ret :: tables_1) hat d (List.mem_cons_of_mem _ hd)
  obtain ⟨i0, ei0⟩ := is_v gc1
  obtain rfl : w0 = (.int i0) := Option.some.inj ei0
  obtain ⟨i1, ei1⟩ := is_v gd1
  obtain rfl : w1 = (.int i1) := Option.some.inj ei1
  obtain ⟨n, o, h1, h2, h3, _, L, rfl, ⟨rfl, N⟩, hq⟩ := rm_law l s _ hw tables_1 i0 i1 s.heap s.heap.size (Nat.le_refl _) p e ha hc hk s m _ below hf ((Spec.applies_iff_loose hf).mp happ).1 ⟨rfl, State.Warmed39.refl s, rfl⟩ trivial
  refine ⟨n, _, h1, h2, h3, hpost _ _ _ _ _ _ ⟨Cond.after_iff.mpr rfl, Cond.after_iff.mpr (eq_i res_at (Term.int_eval (1)) rfl), trivial⟩ ⟨hq.1, hq.2.1, (hq.2.2.sift fun y hy => Or.inr (N y hy)).mono (by decide) (by decide)⟩⟩
theorem main_1_1 : Claimed_1_1 := comes_1 fun _ _ _ _ _ _ h hF => ⟨h.1, hF⟩
theorem main_1_2 : Claimed_1_2 := comes_1 fun _ _ _ _ _ _ h hF => ⟨h.2.1, hF⟩
end Jvm.Pilot.@@N@@
namespace Jvm.Pilot.@@N@@
open Jvm Jvm.ClassFile Sem Op Lib Jvm.Free Jvm.Stand Jvm.Pilot.@@N@@.Jvm.D
/-! MADE BY PROGRAM (witnessworld.py) out of the Statement's table words and the real class files: 10 classes; the members and pool entries that the words name. The judged class is class 1, her method 1. -/
namespace start1
open Jvm.ClassFile
def u (s : String) : CpInfo := .utf8 (stringToUtf16 s)
/-- a pool by its gaps: so many unusable entries, then the entry; so many at the end -/
def gap : Nat → List CpInfo → List CpInfo
  | 0, r => r
  | n + 1, r => .unusable :: gap n r
def poolList (es : List (Nat × CpInfo)) (last : Nat) : List CpInfo := es.foldr (fun e r => gap e.1 (e.2 :: r)) (gap last [])
def pool (es : List (Nat × CpInfo)) (last : Nat) : Array CpInfo := ⟨poolList es last⟩
def fileOf (pool : Array CpInfo) (this : Nat) (attrs : Array Attribute := #[]) (ms : Array MethodInfo := #[]) (fl : Nat := 33) (sup : Nat := 0) (ifs : Array Nat := #[]) (fds : Array FieldInfo := #[]) : ClassFile where
  minorVersion := 0
  majorVersion := 65
  constantPool := pool
  accessFlags := fl
  thisClass := this
  superClass := sup
  interfaces := ifs
  fields := fds
  methods := ms
  attributes := attrs
def plain (name : String) (sup : Option ClassId) : Class where
  name := name
  kind := .ordinary
  loader := none
  accessFlags := 33
  super := sup
  interfaces := #[]
  cf := none
  fields := #[]
  methods := #[]
  instanceTypes := #[]
  staticTypes := #[]
  resolved := #[]
  callSites := []
  init := .initialized
  statics := none
  mirror := none

def pool0 : Array CpInfo := pool [(5, u "<init>"), (0, u "()V"), (1, .class_ 10), (1, u "java/lang/Object")] 113

def k0m0 : Method := { name := "<init>", desc := "()V", sig := { parameters := [], returnType := none }, accessFlags := 1, code := none }
/-- java/lang/Object -/
def k0 : Class := { plain "java/lang/Object" none with
  accessFlags := 33
  interfaces := #[]
  cf := some (fileOf pool0 8 #[] #[{ accessFlags := 1, nameIndex := 5, descriptorIndex := 6, attributes := #[] }] 33 0 #[] #[])
  fields := #[]
  methods := #[k0m0]
  instanceTypes := #[]
  staticTypes := #[]
  resolved := Array.replicate 124 none
  statics := none }

def pool1 : Array CpInfo := pool [(2, .class_ 4), (1, u "java/lang/Object"), (0, u "<init>"), (0, u "()V"), (0, .integer 2147483647), (0, .methodref 9 10), (0, .class_ 11), (0, .nameAndType 12 13), (0, u "java/lang/Math"), (0, u "max"), (0, u "(II)I"), (0, .methodref 15 16), (0, .class_ 17), (0, .nameAndType 18 13), (0, u "com/example/rahasia/rahasia/service/PairAveragingPrivatizer"), (0, u "partitionCount"), (0, .class_ 20), (0, u "com/example/rahasia/rahasia/service/PairAveragingPrivatizerPartitionCountPinLaw"), (2, u "law"), (0, u "(II)Z")] 3

def k1m0 : Method := { name := "<init>", desc := "()V", sig := { parameters := [], returnType := none }, accessFlags := 2, code := none }
def k1c1 : Code := { maxStack := 6, maxLocals := 11, code := code, exceptionTable := #[], attributes := #[] }
def k1m1 : Method := { name := "law", desc := "(II)Z", sig := { parameters := [.int, .int], returnType := some .boolean }, accessFlags := 9, code := some k1c1 }
/-- com/example/rahasia/rahasia/service/PairAveragingPrivatizerPartitionCountPinLaw -/
def k1 : Class := { plain "com/example/rahasia/rahasia/service/PairAveragingPrivatizerPartitionCountPinLaw" (some 0) with
  accessFlags := 49
  interfaces := #[]
  cf := some (fileOf pool1 19 #[] #[{ accessFlags := 2, nameIndex := 5, descriptorIndex := 6, attributes := #[] }, { accessFlags := 9, nameIndex := 23, descriptorIndex := 24, attributes := #[] }] 49 2 #[] #[])
  fields := #[]
  methods := #[k1m0, k1m1]
  instanceTypes := #[]
  staticTypes := #[]
  resolved := Array.replicate 28 none
  statics := none }

def pool2 : Array CpInfo := pool [(1, .class_ 2), (0, u "java/lang/Math"), (1, .class_ 6), (1, u "java/lang/Object"), (0, u "<init>"), (0, u "()V"), (89, .class_ 100), (1, u "java/lang/Math$RandomNumberGeneratorHolder"), (71, u "negativeZeroFloatBits"), (0, u "J"), (2, u "negativeZeroDoubleBits"), (21, u "max"), (46, u "$assertionsDisabled"), (0, u "Z"), (88, u "(II)I"), (2, u "twoToTheDoubleScaleDown"), (0, u "D"), (4, u "twoToTheDoubleScaleUp"), (9, u "E"), (3, u "PI"), (2, u "TAU"), (2, u "DEGREES_TO_RADIANS"), (0, u "RADIANS_TO_DEGREES")] 94

def k2m0 : Method := { name := "<init>", desc := "()V", sig := { parameters := [], returnType := none }, accessFlags := 2, code := none }
def k2c1 : Code := { maxStack := 2, maxLocals := 2, code := jdk_29_method_65_code, exceptionTable := #[], attributes := #[] }
def k2m1 : Method := { name := "max", desc := "(II)I", sig := { parameters := [.int, .int], returnType := some .int }, accessFlags := 9, code := some k2c1 }
/-- java/lang/Math -/
def k2 : Class := { plain "java/lang/Math" (some 0) with
  accessFlags := 49
  interfaces := #[]
  cf := some (fileOf pool2 1 #[.nestMembers #[98]] #[{ accessFlags := 2, nameIndex := 7, descriptorIndex := 8, attributes := #[] }, { accessFlags := 9, nameIndex := 198, descriptorIndex := 335, attributes := #[] }] 49 4 #[] #[{ accessFlags := 25, nameIndex := 354, descriptorIndex := 339, attributes := #[] }, { accessFlags := 25, nameIndex := 358, descriptorIndex := 339, attributes := #[] }, { accessFlags := 25, nameIndex := 361, descriptorIndex := 339, attributes := #[] }, { accessFlags := 26, nameIndex := 364, descriptorIndex := 339, attributes := #[] }, { accessFlags := 26, nameIndex := 365, descriptorIndex := 339, attributes := #[] }, { accessFlags := 26, nameIndex := 172, descriptorIndex := 173, attributes := #[] }, { accessFlags := 26, nameIndex := 176, descriptorIndex := 173, attributes := #[] }, { accessFlags := 8, nameIndex := 344, descriptorIndex := 339, attributes := #[] }, { accessFlags := 8, nameIndex := 338, descriptorIndex := 339, attributes := #[] }, { accessFlags := 4120, nameIndex := 245, descriptorIndex := 246, attributes := #[] }])
  fields := #[{ name := "E", type := .double, accessFlags := 25, slot := 0, constantValue := 0 }, { name := "PI", type := .double, accessFlags := 25, slot := 1, constantValue := 0 }, { name := "TAU", type := .double, accessFlags := 25, slot := 2, constantValue := 0 }, { name := "DEGREES_TO_RADIANS", type := .double, accessFlags := 26, slot := 3, constantValue := 0 }, { name := "RADIANS_TO_DEGREES", type := .double, accessFlags := 26, slot := 4, constantValue := 0 }, { name := "negativeZeroFloatBits", type := .long, accessFlags := 26, slot := 5, constantValue := 0 }, { name := "negativeZeroDoubleBits", type := .long, accessFlags := 26, slot := 6, constantValue := 0 }, { name := "twoToTheDoubleScaleUp", type := .double, accessFlags := 8, slot := 7, constantValue := 0 }, { name := "twoToTheDoubleScaleDown", type := .double, accessFlags := 8, slot := 8, constantValue := 0 }, { name := "$assertionsDisabled", type := .boolean, accessFlags := 4120, slot := 9, constantValue := 0 }]
  methods := #[k2m0, k2m1]
  instanceTypes := #[]
  staticTypes := #[.double, .double, .double, .double, .double, .long, .long, .double, .double, .boolean]
  resolved := Array.replicate 460 none
  statics := none }

def pool3 : Array CpInfo := pool [(2, .class_ 4), (1, u "java/lang/Object"), (0, u "<init>"), (0, u "()V"), (7, .class_ 16), (1, u "com/example/rahasia/rahasia/service/PairAveragingPrivatizer"), (0, u "partitionCount"), (0, u "(II)I"), (51, .methodref 14 71), (0, .nameAndType 72 73), (0, u "checkPartitionRows"), (0, u "(I)V"), (57, u "HALF"), (0, u "Ljava/math/BigDecimal;")] 78

def k3m0 : Method := { name := "<init>", desc := "()V", sig := { parameters := [], returnType := none }, accessFlags := 2, code := none }
def k3c1 : Code := { maxStack := 2, maxLocals := 2, code := prog_51_method_3_code, exceptionTable := #[], attributes := #[] }
def k3m1 : Method := { name := "partitionCount", desc := "(II)I", sig := { parameters := [.int, .int], returnType := some .int }, accessFlags := 9, code := some k3c1 }
def k3c2 : Code := { maxStack := 3, maxLocals := 1, code := prog_51_method_4_code, exceptionTable := #[], attributes := #[] }
def k3m2 : Method := { name := "checkPartitionRows", desc := "(I)V", sig := { parameters := [.int], returnType := none }, accessFlags := 8, code := some k3c2 }
/-- com/example/rahasia/rahasia/service/PairAveragingPrivatizer -/
def k3 : Class := { plain "com/example/rahasia/rahasia/service/PairAveragingPrivatizer" (some 0) with
  accessFlags := 33
  interfaces := #[]
  cf := some (fileOf pool3 14 #[] #[{ accessFlags := 2, nameIndex := 5, descriptorIndex := 6, attributes := #[] }, { accessFlags := 9, nameIndex := 17, descriptorIndex := 18, attributes := #[] }, { accessFlags := 8, nameIndex := 72, descriptorIndex := 73, attributes := #[] }] 33 2 #[] #[{ accessFlags := 26, nameIndex := 131, descriptorIndex := 132, attributes := #[] }])
  fields := #[{ name := "HALF", type := (.object "java/math/BigDecimal"), accessFlags := 26, slot := 0, constantValue := 0 }]
  methods := #[k3m0, k3m1, k3m2]
  instanceTypes := #[]
  staticTypes := #[(.object "java/math/BigDecimal")]
  resolved := Array.replicate 211 none
  statics := none }

def pool4 : Array CpInfo := pool [(1, u "java/lang/Cloneable"), (0, .class_ 1), (0, u "java/lang/Object"), (0, .class_ 3)] 3

/-- java/lang/Cloneable -/
def k4 : Class := { plain "java/lang/Cloneable" (some 0) with
  accessFlags := 1537
  interfaces := #[]
  cf := some (fileOf pool4 2 #[] #[] 1537 4 #[] #[])
  fields := #[]
  methods := #[]
  instanceTypes := #[]
  staticTypes := #[]
  resolved := Array.replicate 8 none
  statics := none }

def pool5 : Array CpInfo := pool [(1, u "java/io/Serializable"), (0, .class_ 1), (0, u "java/lang/Object"), (0, .class_ 3)] 3

/-- java/io/Serializable -/
def k5 : Class := { plain "java/io/Serializable" (some 0) with
  accessFlags := 1537
  interfaces := #[]
  cf := some (fileOf pool5 2 #[] #[] 1537 4 #[] #[])
  fields := #[]
  methods := #[]
  instanceTypes := #[]
  staticTypes := #[]
  resolved := Array.replicate 8 none
  statics := none }

/-- the primitive byte -/
def k6 : Class := { plain "byte" none with kind := .primitive 'B', accessFlags := 0x411 }
/-- [B -/
def k7 : Class := { plain "[B" (some 0) with kind := .array 6 .byte, interfaces := #[4, 5], accessFlags := 1041 }

/-- the primitive int -/
def k8 : Class := { plain "int" none with kind := .primitive 'I', accessFlags := 0x411 }
/-- [I -/
def k9 : Class := { plain "[I" (some 0) with kind := .array 8 .int, interfaces := #[4, 5], accessFlags := 1041 }

def heap : Heap := #[]
def classes : Array Class := #[k0, k1, k2, k3, k4, k5, k6, k7, k8, k9]
def interned : List (Array UInt16 × Addr) := []
def slotsUsed : Nat := 0
def theMethod : MethodId := ⟨1, 1⟩
def args0 : Array Value := #[.int 5, .int 1]
def aboutOver (below : List Frame) : State where
  vm := { classes := classes, interned := interned.toArray }
  heap := heap
  slotsUsed := slotsUsed
  threads := #[{ frames := .invoking theMethod args0 :: below }]
def below0 : List Frame := [.native { method := ⟨0, 0⟩, args := #[] }]
def about1 : State := aboutOver below0
def p0 : Program := .bare "" "" ""
def e0 : Env := launch0.env 0 0 0
theorem w_frames : about1.frames = Frame.invoking theMethod args0 :: below0 := rfl
set_option maxRecDepth 65536 in
theorem w_args : argsFit about1.vm theMethod args0 = true := by decide +kernel
set_option maxRecDepth 65536 in
theorem w_heap : heapFits about1 = true := by decide +kernel
set_option maxRecDepth 65536 in
theorem w_runnable : about1.curStatus? = some .runnable := by decide +kernel
set_option maxRecDepth 65536 in
theorem w_alone : about1.alone = true := by decide +kernel
set_option maxRecDepth 65536 in
theorem w_named : about1.methodNamed? x = some theMethod := by decide +kernel
set_option maxRecDepth 65536 in
theorem w_hears : about1.hears theMethod below0 = true := by decide +kernel
set_option maxRecDepth 65536 in
theorem w_ripe : about1.ripe theMethod args0 below0 = true := by decide +kernel
theorem w_running : about1.status = .running := rfl
set_option maxRecDepth 65536 in
theorem w_room : about1.hasRoom e0.platform room_1 = true :=
  launch0.hasRoom_least _ room_1 (by decide +kernel) (by decide +kernel) (by decide +kernel) (by decide +kernel) (by decide +kernel) (by decide +kernel)
theorem allAtoms_all (ts : List Jvm.Cond) (a : Array Jvm.Value) (st : Jvm.State) : (allAtoms ts).before a st = ts.all (fun c => c.before a st) := by
  induction ts with
  | nil => rfl
  | cons c t ih =>
    show (Jvm.Cond.and c (allAtoms t)).before a st = _
    rw [Jvm.Cond.before_and, ih, List.all_cons]
def words1 : List Jvm.Cond := Jvm.Cond.code x code maxLocals ret :: tables_1
/-- a 'code' word, met by the world's own term for the bytes: nothing is compared byte by byte -/
theorem code_word {y : MethodName} {bytes : ByteArray} {mx : Nat} {rt : Option FieldType} {a : Array Value} {s : State} {m : MethodId} {meth : Method} {c : Code} (h1 : s.methodNamed? y = some m) (h2 : s.vm.method? m = some meth) (h3 : meth.code = some c) (h4 : c.code = bytes)
    (h5 : (c.maxLocals == mx && c.exceptionTable.isEmpty && decide (c.maxStack ≤ mostOperands) && decide (meth.sig.returnType = rt) && !meth.locks && decide (parseMethodDescriptor y.desc = some meth.sig)) = true) : (Jvm.Cond.code y bytes mx rt).before a s = true := by
  simp only [Bool.and_eq_true, beq_iff_eq, Bool.not_eq_true', decide_eq_true_eq] at h5
  obtain ⟨⟨⟨⟨⟨g1, g2⟩, g3⟩, g4⟩, g5⟩, g6⟩ := h5
  simp [Cond.before, Cond.holds, Cond.value, h1, h2, h3, h4, g1, g2, g3, g4, g5, g6]
def isCode : Jvm.Cond → Bool
  | .code _ _ _ _ => true
  | _ => false
theorem all_split {L : List Jvm.Cond} {P : Jvm.Cond → Bool} (h1 : L.all (fun c => isCode c || P c) = true) (h2 : ∀ c ∈ L.filter isCode, P c = true) : L.all P = true := by
  refine List.all_eq_true.mpr fun c hc => ?_
  have h := List.all_eq_true.mp h1 c hc
  rcases Bool.eq_false_or_eq_true (isCode c) with hi | hi
  · exact h2 c (List.mem_filter.mpr ⟨hc, hi⟩)
  · simpa [hi] using h
set_option maxRecDepth 65536 in
theorem w_c0 : (Jvm.Cond.code x code maxLocals ret).before args0 about1 = true := code_word (m := ⟨1, 1⟩) (meth := k1m1) (c := k1c1) (by decide +kernel) rfl rfl rfl (by decide +kernel)
set_option maxRecDepth 65536 in
theorem w_c1 : (Jvm.Cond.code ({ cls := "java/lang/Math", name := "max", desc := "(II)I" } : Jvm.MethodName) jdk_29_method_65_code (2 : Nat) (Option.some Jvm.ClassFile.FieldType.int)).before args0 about1 = true := code_word (m := ⟨2, 1⟩) (meth := k2m1) (c := k2c1) (by decide +kernel) rfl rfl rfl (by decide +kernel)
set_option maxRecDepth 65536 in
theorem w_c2 : (Jvm.Cond.code ({ cls := "com/example/rahasia/rahasia/service/PairAveragingPrivatizer", name := "partitionCount", desc := "(II)I" } : Jvm.MethodName) prog_51_method_3_code (2 : Nat) (Option.some Jvm.ClassFile.FieldType.int)).before args0 about1 = true := code_word (m := ⟨3, 1⟩) (meth := k3m1) (c := k3c1) (by decide +kernel) rfl rfl rfl (by decide +kernel)
set_option maxRecDepth 65536 in
theorem w_c3 : (Jvm.Cond.code ({ cls := "com/example/rahasia/rahasia/service/PairAveragingPrivatizer", name := "checkPartitionRows", desc := "(I)V" } : Jvm.MethodName) prog_51_method_4_code (1 : Nat) (Option.none : Option Jvm.ClassFile.FieldType)).before args0 about1 = true := code_word (m := ⟨3, 2⟩) (meth := k3m2) (c := k3c2) (by decide +kernel) rfl rfl rfl (by decide +kernel)
def codes1 : List Jvm.Cond := [Jvm.Cond.code x code maxLocals ret, Jvm.Cond.code ({ cls := "java/lang/Math", name := "max", desc := "(II)I" } : Jvm.MethodName) jdk_29_method_65_code (2 : Nat) (Option.some Jvm.ClassFile.FieldType.int), Jvm.Cond.code ({ cls := "com/example/rahasia/rahasia/service/PairAveragingPrivatizer", name := "partitionCount", desc := "(II)I" } : Jvm.MethodName) prog_51_method_3_code (2 : Nat) (Option.some Jvm.ClassFile.FieldType.int), Jvm.Cond.code ({ cls := "com/example/rahasia/rahasia/service/PairAveragingPrivatizer", name := "checkPartitionRows", desc := "(I)V" } : Jvm.MethodName) prog_51_method_4_code (1 : Nat) (Option.none : Option Jvm.ClassFile.FieldType)]
set_option maxRecDepth 65536 in
theorem codes_eq : words1.filter isCode = codes1 := rfl
theorem w_codes : ∀ c ∈ words1.filter isCode, c.before args0 about1 = true := by
  rw [codes_eq]
  intro c hc
  simp only [codes1, List.mem_cons, List.not_mem_nil, or_false] at hc
  rcases hc with rfl | rfl | rfl | rfl
  · exact w_c0
  · exact w_c1
  · exact w_c2
  · exact w_c3
set_option maxRecDepth 65536 in
theorem w_t1 : words1.all (fun c => isCode c || c.before args0 about1) = true := by decide +kernel
theorem w_tables : (allAtoms (Jvm.Cond.code x code maxLocals ret :: tables_1)).before args0 about1 = true := by
  rw [allAtoms_all]
  show words1.all (fun c => c.before args0 about1) = true
  refine all_split ?_ w_codes
  rw [w_t1]
set_option maxRecDepth 65536 in
theorem w_case : (Jvm.Cond.and given_1 narrow_1).before args0 about1 = true := by decide +kernel
theorem w_applies : (headSpec (Jvm.Cond.code x code maxLocals ret :: tables_1) room_1).applies x e0.platform about1 = true :=
  (Spec.applies_iff w_frames).mpr ⟨w_running, w_runnable, w_alone, w_named, w_hears, w_ripe, w_room, w_tables⟩
theorem atStart : AtStart classFile x code maxLocals ret World_1 tables_1 room_1 Calls_1 rest_1 Pre_1 launch0 p0 e0 about1 theMethod args0 below0 :=
  ⟨lists_1, trivial, launch0.admits_env _ _ _, launch0.least_env, fairChoices_fair.cas, fairChoices_fair.clock, w_frames, w_args, w_heap, w_applies, trivial, trivial, w_case⟩
end start1
theorem witness_1 : WitnessClaimed_1 := ⟨start1.p0, start1.e0, start1.about1, start1.theMethod, start1.args0, start1.below0, start1.atStart⟩
end Jvm.Pilot.@@N@@
