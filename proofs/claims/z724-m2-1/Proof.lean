import JvmDerived
import JvmDerived.Pilot.@@N@@Statement
import JvmDerived.Pilot.@@N@@Code
set_option linter.unusedVariables false
set_option linter.unusedSimpArgs false
namespace Jvm.RoadKit
open Sem ClassFile Op Lib Jvm.Stand Jvm.Free Jvm.LawKit
section New
variable {p : Program} {l : Launch} {e : Env} {R : Room} {s : State} {m : MethodId} {args : Array Value} {below : List Frame} {meth : Method} {c : Code} {T : State} {locs : List Loc} {cells slots : Nat}
theorem retI (X : Stand p l e R s m args below meth c T locs cells slots) (hx : p.tables.exec = Jvm.exec) {pc : Nat} {Ls : Array Slot} {z : Int32} {rest : List Value} (hret : meth.sig.returnType = some .int) (hd : decode c.code pc = .ok (.ireturn, 1)) {fs : List Frame}
    (hl : ∀ (f : JFrame) (acts : List Action), f.method = m → f.locked = none → f.entered = [] → (doReturn e (T.setTop f) acts (some (.int z))).1 = T.setFrames fs) : Steps p.tables e below (T.setTop (mkF m pc Ls (.int z :: rest))) (T.setFrames fs) := by
  have hm' : T.vm.method? m = some meth := X.method'
  have hn : narrow .int (.int z) = .int z := rfl
  show Steps p.tables e below (T.setTop { method := m, pc := pc, locals := Ls, stack := _ :: rest, locked := none }) _
  jvm_step X.here [X.here.top, hx, hd, hm', hret, hn]
  first | (intro acts; rw [hl _ acts rfl rfl rfl]) | rw [hl _ _ rfl rfl rfl]
  exact Steps.refl _
end New
end Jvm.RoadKit
namespace Jvm.Pilot.@@N@@
open Jvm Jvm.ClassFile Sem Op Lib Jvm.Free Jvm.Stand Jvm.LawKit Jvm.RoadKit Bundle Jvm.Pilot.@@N@@.Jvm.D
def own_G (tb : Tables) (e : Env) (below : List Frame) (P : State → Outcome → Prop) (S : State) : Prop := ∃ t o, Steps tb e below S t ∧ P t o
theorem own_in {tb : Tables} {e : Env} {below : List Frame} {P : State → Outcome → Prop} {S : State} (h : own_G tb e below P S) : ∃ t o, Steps tb e below S t ∧ P t o := h
theorem own_go {tb : Tables} {e : Env} {below : List Frame} {P : State → Outcome → Prop} {S S' : State} (f : ∀ t, Steps tb e below S' t → Steps tb e below S t) (h : own_G tb e below P S') : own_G tb e below P S := by
  obtain ⟨t, o, st, hp⟩ := h
  exact ⟨t, o, f t st, hp⟩
theorem own_join {α : Type} {tb : Tables} {e : Env} {below : List Frame} {P : State → Outcome → Prop} {S : State} (C : α → Prop) (F : α → State) (J : ∀ a, C a → own_G tb e below P (F a)) (M : (∀ a, C a → own_G tb e below P (F a)) → own_G tb e below P S) : own_G tb e below P S := M J
theorem own_loop {α : Type} {tb : Tables} {e : Env} {below : List Frame} {P : State → Outcome → Prop} {S : State} (mu : α → Nat) (C : α → Prop) (F : α → State) (J : ∀ a, C a → (∀ b, C b → mu b < mu a → own_G tb e below P (F b)) → own_G tb e below P (F a)) (M : (∀ a, C a → own_G tb e below P (F a)) → own_G tb e below P S) : own_G tb e below P S := by
  apply M
  have q : ∀ n a, mu a < n → C a → own_G tb e below P (F a) := by
    intro n
    induction n with
    | zero => intro a h; exact absurd h (Nat.not_lt_zero _)
    | succ n ih => intro a h ha; exact J a ha fun b hb hlt => ih b (by omega) hb
  exact fun a ha => q _ a (Nat.lt_succ_self _) ha
theorem own_l1 {a b : Int64} (h : a = b) : lcmpW a b = 0 := by subst h; simp [lcmpW]
theorem own_l2 {a b : Int64} (h : ¬ a = b) : ¬ lcmpW a b = 0 := by
  unfold lcmpW; split
  · decide
  · first | (rw [if_neg h]; decide) | decide
theorem own_l3 {a b : Int64} (h : a < b) : lcmpW a b < 0 := by
  have h1 : ¬ a > b := Int64.not_lt.mpr (Int64.le_of_lt h)
  have h2 : ¬ a = b := fun q => by subst q; exact Int64.lt_irrefl h
  unfold lcmpW; rw [if_neg h1, if_neg h2]; decide
theorem own_l4 {a b : Int64} (h : ¬ a < b) : ¬ lcmpW a b < 0 := by
  unfold lcmpW; split
  · decide
  · split
    · decide
    · rename_i h1 h2
      rw [gt_iff_lt, Int64.lt_iff_toInt_lt] at h1; rw [Int64.lt_iff_toInt_lt] at h; rw [← Int64.toInt_inj] at h2; omega
theorem own_l5 {a b : Int64} (h : b < a) : 0 < lcmpW a b := by unfold lcmpW; rw [if_pos h]; decide
theorem own_l6 {a b : Int64} (h : ¬ b < a) : ¬ 0 < lcmpW a b := by
  unfold lcmpW; rw [if_neg h]; split <;> decide
def own_fx (a b : Int64) : Int32 := if a = b ∧ ¬ b = (9223372036854775807 : Int64) then 1 else 0
theorem own_fx1 {a b : Int64} (h1 : ¬ b < a) (h2 : ¬ a < b) (h3 : b < (9223372036854775807 : Int64)) : own_fx a b = (1 : Int32) := by
  rw [Int64.lt_iff_toInt_lt] at h1 h2 h3
  unfold own_fx
  rw [if_pos]
  rw [← Int64.toInt_inj, ← Int64.toInt_inj]
  omega
theorem own_fx0 {a b : Int64} (h : b < a ∨ a < b ∨ ¬ b < (9223372036854775807 : Int64)) : own_fx a b = (0 : Int32) := by
  rw [Int64.lt_iff_toInt_lt, Int64.lt_iff_toInt_lt, Int64.lt_iff_toInt_lt, show (9223372036854775807 : Int64).toInt = 9223372036854775807 from rfl] at h
  unfold own_fx
  rw [if_neg]
  rw [← Int64.toInt_inj, ← Int64.toInt_inj, show (9223372036854775807 : Int64).toInt = 9223372036854775807 from rfl]
  have := Int64.toInt_lt b
  omega
theorem pd__V : parseMethodDescriptor "()V" = some ⟨[], none⟩ := by decide +kernel
theorem pd__Z : parseMethodDescriptor "()Z" = some ⟨[], some .boolean⟩ := by decide +kernel
theorem pd_JJ_V : parseMethodDescriptor "(JJ)V" = some ⟨[.long, .long], none⟩ := by decide +kernel
-- java/lang/Record.<init>:()V
theorem d_rec_0 : decode jdk_30_method_1_code 0 = .ok (.aload_n 0, 1) := by decide +kernel
theorem d_rec_1 : decode jdk_30_method_1_code 1 = .ok (.invokespecial 1, 3) := by decide +kernel
theorem d_rec_4 : decode jdk_30_method_1_code 4 = .ok (.return_, 1) := by decide +kernel
theorem pn_rec : plainName "java/lang/Record" = true := by first | (simp [plainName, overriddenIn]; done) | decide +kernel
theorem ef_rec (m : MethodId) (a1 : Addr) : entryFrame m #[(.ref a1)] 1 = mkF m 0 #[.val (.ref a1)] [] := by first | (simp [entryFrame, mkF, argsToLocals, Value.category]; done) | rfl
def Q_rec (Z : State) (a1 : Addr) (h0 : Heap) (n0 : Nat) (v : Option Value) (h : Heap) (L : List Loc) : Prop := v = none ∧ Fr n0 L ∧ h = h0
set_option maxRecDepth 65536 in
set_option maxHeartbeats 40000000 in
theorem rm_rec (l : Launch) (Z : State) (a0 : Array Value) (hw : ∀ d ∈ tables_1, d.before a0 Z = true) (ws : List Jvm.Cond) (a1 : Addr) (h0 : Heap) (n0 : Nat) (Z0 : n0 ≤ h0.size) :
    MetFree l (⟨"java/lang/Record", "<init>", "()V"⟩ : MethodName) (head1 (Jvm.Cond.code (⟨"java/lang/Record", "<init>", "()V"⟩ : MethodName) jdk_30_method_1_code 1 none :: ws) ({ frames := 1, cells := 0, slots := 0, locals := 12 } : Room)) (fun a U => a = #[(.ref a1)] ∧ Z.Warmed39 U.vm ∧ U.heap = h0) (fun _ _ _ _ _ => True) (fun _ U o U' => ∃ v L, o = .returned v ∧ Q_rec Z a1 h0 n0 v U'.heap L ∧ FrameEnd U o U' L ({ frames := 1, cells := 0, slots := 0, locals := 12 } : Room).cells ({ frames := 1, cells := 0, slots := 0, locals := 12 } : Room).slots) := by
  refine MetFree.of_bodySF (plainFor_of_name pn_rec) hisR ?_
  intro p e s m args below meth c s₁ Bd hml0 hP hK
  obtain ⟨rfl, hZ, hh⟩ := hP
  have hx := Bd.exec
  have hby := Bd.bytes
  have hml : c.maxLocals = 1 := hml0
  have hown : s.vm.findClass "java/lang/Record" = some m.cls := findClass_of_methodNamed Bd.named
  have hnm := (name_of_methodNamed Bd.named Bd.method).1
  have X0 : Stand p l e ({ frames := 1, cells := 0, slots := 0, locals := 12 } : Room) s m #[(.ref a1)] below meth c s₁ [] 0 0 := Stand.of_body Bd
  have e0 : s₁.heap = h0 := by rw [← hh, Bd.state]; rfl
  have N0 := Fr.nil n0
  refine own_in ?_
  refine own_go (S' := s₁.setTop (mkF m 0 #[.val (.ref a1)] [])) (fun tgt_ stp_ => castTop (ef_rec m a1) stp_) ?_
  obtain ⟨T_1, X_1, e_1, st_1⟩ := initO X0 hx hZ hown (hw _ (List.mem_of_getElem? (i := 11) rfl)) (hw _ (List.mem_of_getElem? (i := 12) rfl)) (hw _ (List.mem_of_getElem? (i := 13) rfl)) e0 (g := (mkF m 1 #[.val (.ref a1)] [(.ref a1)])) rfl (by rw [hml]; rfl) rfl (hb hby d_rec_1) (by decide) (W := 0) (by show 2 * 0 + _ ≤ _; exact Nat.le_of_eq rfl) (by decide)
  refine own_go (S' := T_1.setTop (mkF m 4 #[.val (.ref a1)] [])) (fun target kt => ?_) ?_
  · show Steps p.tables e below (s₁.setTop (mkF m 0 #[.val (.ref a1)] [])) target
    refine XS.aloadN X0.here hx rfl (hb hby d_rec_0) rfl rfl ?_
    show Steps p.tables e below (s₁.setTop (mkF m 1 #[.val (.ref a1)] [(.ref a1)])) target
    refine st_1 _ ?_
    show Steps p.tables e below (T_1.setTop (mkF m 4 #[.val (.ref a1)] [])) target
    exact kt
  obtain ⟨fs, hr, hrun, hended, hW, hsame⟩ := X_1.leave (v := none) (fun _ => rfl)
  refine ⟨_, _, X_1.returnOut hx Bd.returns (hb hby d_rec_4) hr, hrun, hended, _, _, rfl, ?_, ⟨_, rfl⟩, hW, hsame.mono (by decide) (by decide)⟩
  show Q_rec Z a1 h0 n0 _ T_1.heap _
  rw [e_1]
  exact ⟨rfl, N0, rfl⟩
-- com/example/filigree/filigree/engine/MatchPlan$Span.<init>:(JJ)V
theorem d_si_0 : decode prog_31_method_1_code 0 = .ok (.aload_n 0, 1) := by decide +kernel
theorem d_si_1 : decode prog_31_method_1_code 1 = .ok (.invokespecial 1, 3) := by decide +kernel
theorem d_si_4 : decode prog_31_method_1_code 4 = .ok (.aload_n 0, 1) := by decide +kernel
theorem d_si_5 : decode prog_31_method_1_code 5 = .ok (.lload_n 1, 1) := by decide +kernel
theorem d_si_6 : decode prog_31_method_1_code 6 = .ok (.putfield 7, 3) := by decide +kernel
theorem d_si_9 : decode prog_31_method_1_code 9 = .ok (.aload_n 0, 1) := by decide +kernel
theorem d_si_10 : decode prog_31_method_1_code 10 = .ok (.lload_n 3, 1) := by decide +kernel
theorem d_si_11 : decode prog_31_method_1_code 11 = .ok (.putfield 13, 3) := by decide +kernel
theorem d_si_14 : decode prog_31_method_1_code 14 = .ok (.return_, 1) := by decide +kernel
theorem pn_si : plainName "com/example/filigree/filigree/engine/MatchPlan$Span" = true := by first | (simp [plainName, overriddenIn]; done) | decide +kernel
theorem ef_si (m : MethodId) (a1 : Addr) (q1 : Int64) (q2 : Int64) : entryFrame m #[(.ref a1), (.long q1), (.long q2)] 5 = mkF m 0 #[.val (.ref a1), .val (.long q1), .second, .val (.long q2), .second] [] := by first | (simp [entryFrame, mkF, argsToLocals, Value.category]; done) | rfl
def Q_si (Z : State) (a1 : Addr) (q1 : Int64) (q2 : Int64) (h0 : Heap) (n0 : Nat) (v : Option Value) (h : Heap) (L : List Loc) : Prop := v = none ∧ Fr n0 L ∧ Keep h0 h [a1] ∧ Exa Z h a1 "com/example/filigree/filigree/engine/MatchPlan$Span" ∧ Fld Z h a1 "com/example/filigree/filigree/engine/MatchPlan$Span" "fewest" "J" (.long q1) ∧ Fld Z h a1 "com/example/filigree/filigree/engine/MatchPlan$Span" "most" "J" (.long q2)
set_option maxRecDepth 65536 in
set_option maxHeartbeats 40000000 in
theorem rm_si (l : Launch) (Z : State) (a0 : Array Value) (hw : ∀ d ∈ tables_1, d.before a0 Z = true) (ws : List Jvm.Cond) (a1 : Addr) (q1 : Int64) (q2 : Int64) (h0 : Heap) (n0 : Nat) (Z0 : n0 ≤ h0.size) (E1 : Exa Z h0 a1 "com/example/filigree/filigree/engine/MatchPlan$Span") (F1_ : Fld Z h0 a1 "com/example/filigree/filigree/engine/MatchPlan$Span" "fewest" "J" (.long (0 : Int64))) (F2_ : Fld Z h0 a1 "com/example/filigree/filigree/engine/MatchPlan$Span" "most" "J" (.long (0 : Int64))) (g1 : n0 ≤ a1) :
    MetFree l (⟨"com/example/filigree/filigree/engine/MatchPlan$Span", "<init>", "(JJ)V"⟩ : MethodName) (head1 (Jvm.Cond.code (⟨"com/example/filigree/filigree/engine/MatchPlan$Span", "<init>", "(JJ)V"⟩ : MethodName) prog_31_method_1_code 5 none :: ws) ({ frames := 2, cells := 0, slots := 0, locals := 24 } : Room)) (fun a U => a = #[(.ref a1), (.long q1), (.long q2)] ∧ Z.Warmed39 U.vm ∧ U.heap = h0) (fun _ _ _ _ _ => True) (fun _ U o U' => ∃ v L, o = .returned v ∧ Q_si Z a1 q1 q2 h0 n0 v U'.heap L ∧ FrameEnd U o U' L ({ frames := 2, cells := 0, slots := 0, locals := 24 } : Room).cells ({ frames := 2, cells := 0, slots := 0, locals := 24 } : Room).slots) := by
  refine MetFree.of_bodySF (plainFor_of_name pn_si) hisR ?_
  intro p e s m args below meth c s₁ Bd hml0 hP hK
  obtain ⟨rfl, hZ, hh⟩ := hP
  have hx := Bd.exec
  have hby := Bd.bytes
  have hml : c.maxLocals = 5 := hml0
  have hown : s.vm.findClass "com/example/filigree/filigree/engine/MatchPlan$Span" = some m.cls := findClass_of_methodNamed Bd.named
  have hnm := (name_of_methodNamed Bd.named Bd.method).1
  have X0 : Stand p l e ({ frames := 2, cells := 0, slots := 0, locals := 24 } : Room) s m #[(.ref a1), (.long q1), (.long q2)] below meth c s₁ [] 0 0 := Stand.of_body Bd
  have e0 : s₁.heap = h0 := by rw [← hh, Bd.state]; rfl
  have N0 := Fr.nil n0
  refine own_in ?_
  refine own_go (S' := s₁.setTop (mkF m 0 #[.val (.ref a1), .val (.long q1), .second, .val (.long q2), .second] [])) (fun tgt_ stp_ => castTop (ef_si m a1 q1 q2) stp_) ?_
  have K0 : Keep h0 h0 [a1] := Keep.refl h0 _
  obtain ⟨_, _, ⟨T_1, L_1, k_1, n_1⟩, -, X_1, ⟨Lc_1, hQ_1, l_1, y_1, z_1⟩, st_1⟩ := X0.specialBack hx (y := (⟨"java/lang/Record", "<init>", "()V"⟩ : MethodName)) rfl hown (mvT hZ (hw _ (List.mem_of_getElem? (i := 6) rfl))) (mvT hZ (hw _ (List.mem_of_getElem? (i := 7) rfl))) (mvT hZ (hw _ (List.mem_of_getElem? (i := 10) rfl))) (by decide) (backOf (W := 0) (rm_rec l Z a0 hw [] a1  h0 n0 Z0 ) hZ (hw _ (List.mem_of_getElem? (i := 10) rfl)) (hw _ (List.mem_of_getElem? (i := 9) rfl)) (by decide) (by decide)) (g := (mkF m 1 #[.val (.ref a1), .val (.long q1), .second, .val (.long q2), .second] [(.ref a1)])) rfl (by rw [hml]; rfl) (Steps.refl _) (a := a1) (argsL := []) (rest := []) (lenOf pd__V rfl) rfl (by show 2 * 0 + _ ≤ _; exact Nat.le_of_eq rfl) (hb hby d_si_1) (fun _ _ => ⟨rfl, e0, (by decide : 0 + 0 ≤ _), (by decide : 0 + 0 ≤ _)⟩)
  dsimp only [Pt.U, Pt.locs, Pt.cells, Pt.slots] at X_1 l_1 y_1 z_1 st_1 hQ_1
  subst l_1 y_1 z_1
  obtain ⟨rfl, N_1q, p_1_0⟩ := hQ_1
  have N_1 := Fr.app N0 N_1q
  obtain ⟨T_2, h_2, X_2, e_2, W_2, st_2⟩ := putF X_1 hx hZ hown (host := "") (Or.inl (hw _ (List.mem_of_getElem? (i := 14) rfl))) Via.refl p_1_0 F1_ E1 (Or.inr ⟨(hw _ (List.mem_of_getElem? (i := 15) rfl)), rfl, hnm⟩) (hw _ (List.mem_of_getElem? (i := 1) rfl)) (ty := .long) (by decide) rfl rfl (g := (mkF m 6 #[.val (.ref a1), .val (.long q1), .second, .val (.long q2), .second] [(.long q1), (.ref a1)])) rfl rfl (hb hby d_si_6)
  have N_2 := Fr.snoc X_2 N_1 g1
  have F_2 := F1_.same W_2
  have Z_3 : n0 ≤ h_2.size := Nat.le_trans Z0 (Keep.of_wr W_2).1
  have K_4 : Keep h0 h_2 [a1] := K0.wr W_2 (Or.inl (List.mem_of_getElem? (i := 0) rfl))
  have f_5 := (E1.wr W_2)
  have f_6 := (F2_.other W_2 (Or.inr (slot_ne (Or.inr (hw _ (List.mem_of_getElem? (i := 17) rfl))) (Or.inr (hw _ (List.mem_of_getElem? (i := 15) rfl))) (by decide) (t := .long) (t' := .long) (by decide) (by decide))))
  obtain ⟨T_7, h_7, X_7, e_7, W_7, st_7⟩ := putF X_2 hx hZ hown (host := "") (Or.inl (hw _ (List.mem_of_getElem? (i := 16) rfl))) Via.refl e_2 f_6 f_5 (Or.inr ⟨(hw _ (List.mem_of_getElem? (i := 17) rfl)), rfl, hnm⟩) (hw _ (List.mem_of_getElem? (i := 1) rfl)) (ty := .long) (by decide) rfl rfl (g := (mkF m 11 #[.val (.ref a1), .val (.long q1), .second, .val (.long q2), .second] [(.long q2), (.ref a1)])) rfl rfl (hb hby d_si_11)
  have N_7 := Fr.snoc X_7 N_2 g1
  have F_7 := f_6.same W_7
  have Z_8 : n0 ≤ h_7.size := Nat.le_trans Z_3 (Keep.of_wr W_7).1
  have K_9 : Keep h0 h_7 [a1] := K_4.wr W_7 (Or.inl (List.mem_of_getElem? (i := 0) rfl))
  refine own_go (S' := T_7.setTop (mkF m 14 #[.val (.ref a1), .val (.long q1), .second, .val (.long q2), .second] [])) (fun target kt => ?_) ?_
  · show Steps p.tables e below (s₁.setTop (mkF m 0 #[.val (.ref a1), .val (.long q1), .second, .val (.long q2), .second] [])) target
    refine XS.aloadN X0.here hx rfl (hb hby d_si_0) rfl rfl ?_
    show Steps p.tables e below (s₁.setTop (mkF m 1 #[.val (.ref a1), .val (.long q1), .second, .val (.long q2), .second] [(.ref a1)])) target
    refine st_1.trans ?_
    show Steps p.tables e below (T_1.setTop (mkF m 4 #[.val (.ref a1), .val (.long q1), .second, .val (.long q2), .second] [])) target
    refine XS.aloadN X_1.here hx rfl (hb hby d_si_4) rfl rfl ?_
    show Steps p.tables e below (T_1.setTop (mkF m 5 #[.val (.ref a1), .val (.long q1), .second, .val (.long q2), .second] [(.ref a1)])) target
    refine XS.lloadN X_1.here hx rfl (hb hby d_si_5) rfl ?_
    show Steps p.tables e below (T_1.setTop (mkF m 6 #[.val (.ref a1), .val (.long q1), .second, .val (.long q2), .second] [(.long q1), (.ref a1)])) target
    refine st_2 _ ?_
    show Steps p.tables e below (T_2.setTop (mkF m 9 #[.val (.ref a1), .val (.long q1), .second, .val (.long q2), .second] [])) target
    refine XS.aloadN X_2.here hx rfl (hb hby d_si_9) rfl rfl ?_
    show Steps p.tables e below (T_2.setTop (mkF m 10 #[.val (.ref a1), .val (.long q1), .second, .val (.long q2), .second] [(.ref a1)])) target
    refine XS.lloadN X_2.here hx rfl (hb hby d_si_10) rfl ?_
    show Steps p.tables e below (T_2.setTop (mkF m 11 #[.val (.ref a1), .val (.long q1), .second, .val (.long q2), .second] [(.long q2), (.ref a1)])) target
    refine st_7 _ ?_
    show Steps p.tables e below (T_7.setTop (mkF m 14 #[.val (.ref a1), .val (.long q1), .second, .val (.long q2), .second] [])) target
    exact kt
  obtain ⟨fs, hr, hrun, hended, hW, hsame⟩ := X_7.leave (v := none) (fun _ => rfl)
  refine ⟨_, _, X_7.returnOut hx Bd.returns (hb hby d_si_14) hr, hrun, hended, _, _, rfl, ?_, ⟨_, rfl⟩, hW, hsame.mono (by decide) (by decide)⟩
  show Q_si Z a1 q1 q2 h0 n0 _ T_7.heap _
  rw [e_7]
  have f_10 := (f_5.wr W_7)
  have f_11 := (F_2.other W_7 (Or.inr (slot_ne (Or.inr (hw _ (List.mem_of_getElem? (i := 15) rfl))) (Or.inr (hw _ (List.mem_of_getElem? (i := 17) rfl))) (by decide) (t := .long) (t' := .long) (by decide) (by decide))))
  exact ⟨rfl, N_7, K_9, f_10, f_11, F_7⟩
-- com/example/filigree/filigree/engine/MatchPlan$Span.fixed:()Z
theorem d_fx_0 : decode prog_31_method_5_code 0 = .ok (.aload_n 0, 1) := by decide +kernel
theorem d_fx_1 : decode prog_31_method_5_code 1 = .ok (.getfield 7, 3) := by decide +kernel
theorem d_fx_4 : decode prog_31_method_5_code 4 = .ok (.aload_n 0, 1) := by decide +kernel
theorem d_fx_5 : decode prog_31_method_5_code 5 = .ok (.getfield 13, 3) := by decide +kernel
theorem d_fx_8 : decode prog_31_method_5_code 8 = .ok (.lcmp, 1) := by decide +kernel
theorem d_fx_9 : decode prog_31_method_5_code 9 = .ok (.ifCond .ne 18, 3) := by decide +kernel
theorem d_fx_12 : decode prog_31_method_5_code 12 = .ok (.aload_n 0, 1) := by decide +kernel
theorem d_fx_13 : decode prog_31_method_5_code 13 = .ok (.getfield 13, 3) := by decide +kernel
theorem d_fx_16 : decode prog_31_method_5_code 16 = .ok (.ldc2_w 36, 3) := by decide +kernel
theorem d_fx_19 : decode prog_31_method_5_code 19 = .ok (.lcmp, 1) := by decide +kernel
theorem d_fx_20 : decode prog_31_method_5_code 20 = .ok (.ifCond .eq 7, 3) := by decide +kernel
theorem d_fx_23 : decode prog_31_method_5_code 23 = .ok (.iconst 1, 1) := by decide +kernel
theorem d_fx_24 : decode prog_31_method_5_code 24 = .ok (.goto 4, 3) := by decide +kernel
theorem d_fx_27 : decode prog_31_method_5_code 27 = .ok (.iconst 0, 1) := by decide +kernel
theorem d_fx_28 : decode prog_31_method_5_code 28 = .ok (.ireturn, 1) := by decide +kernel
theorem pn_fx : plainName "com/example/filigree/filigree/engine/MatchPlan$Span" = true := by first | (simp [plainName, overriddenIn]; done) | decide +kernel
theorem ef_fx (m : MethodId) (a1 : Addr) : entryFrame m #[(.ref a1)] 1 = mkF m 0 #[.val (.ref a1)] [] := by first | (simp [entryFrame, mkF, argsToLocals, Value.category]; done) | rfl
def Q_fx (Z : State) (a1 : Addr) (q1 : Int64) (q2 : Int64) (h0 : Heap) (n0 : Nat) (v : Option Value) (h : Heap) (L : List Loc) : Prop := v = some (.int (own_fx q1 q2)) ∧ Fr n0 L ∧ h = h0
set_option maxRecDepth 65536 in
set_option maxHeartbeats 40000000 in
theorem rm_fx (l : Launch) (Z : State) (a0 : Array Value) (hw : ∀ d ∈ tables_1, d.before a0 Z = true) (ws : List Jvm.Cond) (a1 : Addr) (q1 : Int64) (q2 : Int64) (h0 : Heap) (n0 : Nat) (Z0 : n0 ≤ h0.size) (F1_ : Fld Z h0 a1 "com/example/filigree/filigree/engine/MatchPlan$Span" "fewest" "J" (.long q1)) (F2_ : Fld Z h0 a1 "com/example/filigree/filigree/engine/MatchPlan$Span" "most" "J" (.long q2)) :
    MetFree l (⟨"com/example/filigree/filigree/engine/MatchPlan$Span", "fixed", "()Z"⟩ : MethodName) (head1 (Jvm.Cond.code (⟨"com/example/filigree/filigree/engine/MatchPlan$Span", "fixed", "()Z"⟩ : MethodName) prog_31_method_5_code 1 (some .boolean) :: ws) ({ frames := 0, cells := 0, slots := 0, locals := 0 } : Room)) (fun a U => a = #[(.ref a1)] ∧ Z.Warmed39 U.vm ∧ U.heap = h0) (fun _ _ _ _ _ => True) (fun _ U o U' => ∃ v L, o = .returned v ∧ Q_fx Z a1 q1 q2 h0 n0 v U'.heap L ∧ FrameEnd U o U' L ({ frames := 0, cells := 0, slots := 0, locals := 0 } : Room).cells ({ frames := 0, cells := 0, slots := 0, locals := 0 } : Room).slots) := by
  refine MetFree.of_bodySF (plainFor_of_name pn_fx) hisR ?_
  intro p e s m args below meth c s₁ Bd hml0 hP hK
  obtain ⟨rfl, hZ, hh⟩ := hP
  have hx := Bd.exec
  have hby := Bd.bytes
  have hml : c.maxLocals = 1 := hml0
  have hown : s.vm.findClass "com/example/filigree/filigree/engine/MatchPlan$Span" = some m.cls := findClass_of_methodNamed Bd.named
  have hnm := (name_of_methodNamed Bd.named Bd.method).1
  have X0 : Stand p l e ({ frames := 0, cells := 0, slots := 0, locals := 0 } : Room) s m #[(.ref a1)] below meth c s₁ [] 0 0 := Stand.of_body Bd
  have e0 : s₁.heap = h0 := by rw [← hh, Bd.state]; rfl
  have N0 := Fr.nil n0
  refine own_in ?_
  refine own_go (S' := s₁.setTop (mkF m 0 #[.val (.ref a1)] [])) (fun tgt_ stp_ => castTop (ef_fx m a1) stp_) ?_
  obtain ⟨T_1, X_1, e_1, st_1⟩ := getF X0 hx hZ hown (host := "") (Or.inl (hw _ (List.mem_of_getElem? (i := 14) rfl))) Via.refl e0 F1_ (g := (mkF m 1 #[.val (.ref a1)] [(.ref a1)])) rfl rfl (hb hby d_fx_1)
  obtain ⟨T_2, X_2, e_2, st_2⟩ := getF X_1 hx hZ hown (host := "") (Or.inl (hw _ (List.mem_of_getElem? (i := 16) rfl))) Via.refl e_1 F2_ (g := (mkF m 5 #[.val (.ref a1)] [(.ref a1), (.long q1)])) rfl rfl (hb hby d_fx_5)
  refine own_go (S' := T_2.setTop (mkF m 9 #[.val (.ref a1)] [(.int (lcmpW q1 q2))])) (fun target kt => ?_) ?_
  · show Steps p.tables e below (s₁.setTop (mkF m 0 #[.val (.ref a1)] [])) target
    refine XS.aloadN X0.here hx rfl (hb hby d_fx_0) rfl rfl ?_
    show Steps p.tables e below (s₁.setTop (mkF m 1 #[.val (.ref a1)] [(.ref a1)])) target
    refine st_1 _ ?_
    show Steps p.tables e below (T_1.setTop (mkF m 4 #[.val (.ref a1)] [(.long q1)])) target
    refine XS.aloadN X_1.here hx rfl (hb hby d_fx_4) rfl rfl ?_
    show Steps p.tables e below (T_1.setTop (mkF m 5 #[.val (.ref a1)] [(.ref a1), (.long q1)])) target
    refine st_2 _ ?_
    show Steps p.tables e below (T_2.setTop (mkF m 8 #[.val (.ref a1)] [(.long q2), (.long q1)])) target
    refine XS.lcmp X_2.here hx rfl (hb hby d_fx_8) rfl ?_
    show Steps p.tables e below (T_2.setTop (mkF m 9 #[.val (.ref a1)] [(.int (lcmpW q1 q2))])) target
    exact kt
  by_cases hc9 : q1 = q2
  · -- pc 9: yes
    obtain ⟨T_3, X_3, e_3, st_3⟩ := getF X_2 hx hZ hown (host := "") (Or.inl (hw _ (List.mem_of_getElem? (i := 16) rfl))) Via.refl e_2 F2_ (g := (mkF m 13 #[.val (.ref a1)] [(.ref a1)])) rfl rfl (hb hby d_fx_13)
    refine own_go (S' := T_3.setTop (mkF m 20 #[.val (.ref a1)] [(.int (lcmpW q2 (9223372036854775807 : Int64)))])) (fun target kt => ?_) ?_
    · show Steps p.tables e below (T_2.setTop (mkF m 9 #[.val (.ref a1)] [(.int (lcmpW q1 q2))])) target
      refine XS.ifNo X_2.here hx rfl (hb hby d_fx_9) rfl ((if0 _ _).trans (teq (own_l1 hc9)).2) ?_
      show Steps p.tables e below (T_2.setTop (mkF m 12 #[.val (.ref a1)] [])) target
      refine XS.aloadN X_2.here hx rfl (hb hby d_fx_12) rfl rfl ?_
      show Steps p.tables e below (T_2.setTop (mkF m 13 #[.val (.ref a1)] [(.ref a1)])) target
      refine st_3 _ ?_
      show Steps p.tables e below (T_3.setTop (mkF m 16 #[.val (.ref a1)] [(.long q2)])) target
      refine X_3.ldc2Long hx hown (mvT hZ (hw _ (List.mem_of_getElem? (i := 24) rfl))) (g := (mkF m 16 #[.val (.ref a1)] [(.long q2)])) rfl (hb hby d_fx_16) _ ?_
      show Steps p.tables e below (T_3.setTop (mkF m 19 #[.val (.ref a1)] [(.long (9223372036854775807 : Int64)), (.long q2)])) target
      refine XS.lcmp X_3.here hx rfl (hb hby d_fx_19) rfl ?_
      show Steps p.tables e below (T_3.setTop (mkF m 20 #[.val (.ref a1)] [(.int (lcmpW q2 (9223372036854775807 : Int64)))])) target
      exact kt
    by_cases hc20 : q2 = (9223372036854775807 : Int64)
    · -- pc 20: yes
      refine own_go (S' := T_3.setTop (mkF m 28 #[.val (.ref a1)] [(.int (0 : Int32))])) (fun target kt => ?_) ?_
      · show Steps p.tables e below (T_3.setTop (mkF m 20 #[.val (.ref a1)] [(.int (lcmpW q2 (9223372036854775807 : Int64)))])) target
        refine XS.ifYes X_3.here hx rfl (pc0 := 20) (pc' := 27) rfl (hb hby d_fx_20) rfl ((if0 _ _).trans (teq (own_l1 hc20)).1) (by decide) (by decide) ?_
        show Steps p.tables e below (T_3.setTop (mkF m 27 #[.val (.ref a1)] [])) target
        refine XS.iconst X_3.here hx rfl (hb hby d_fx_27) ?_
        show Steps p.tables e below (T_3.setTop (mkF m 28 #[.val (.ref a1)] [(.int (0 : Int32))])) target
        exact kt
      obtain ⟨fs, hr, hrun, hended, hW, hsame⟩ := X_3.leave (v := some (.int (0 : Int32))) (fun h => by rw [Bd.returns] at h; cases h)
      refine ⟨_, _, retN X_3 hx (t := .boolean) Bd.returns (by simp) (hb hby d_fx_28) hr, hrun, hended, _, _, rfl, ?_, ⟨_, rfl⟩, hW, hsame.mono (by decide) (by decide)⟩
      show Q_fx Z a1 q1 q2 h0 n0 _ T_3.heap _
      rw [e_3]
      exact ⟨(congrArg (fun z => some (Value.int z)) (by simp [own_fx, hc9, hc20])), N0, rfl⟩
    · -- pc 20: no
      refine own_go (S' := T_3.setTop (mkF m 28 #[.val (.ref a1)] [(.int (1 : Int32))])) (fun target kt => ?_) ?_
      · show Steps p.tables e below (T_3.setTop (mkF m 20 #[.val (.ref a1)] [(.int (lcmpW q2 (9223372036854775807 : Int64)))])) target
        refine XS.ifNo X_3.here hx rfl (hb hby d_fx_20) rfl ((if0 _ _).trans (feq (own_l2 hc20)).1) ?_
        show Steps p.tables e below (T_3.setTop (mkF m 23 #[.val (.ref a1)] [])) target
        refine XS.iconst X_3.here hx rfl (hb hby d_fx_23) ?_
        show Steps p.tables e below (T_3.setTop (mkF m 24 #[.val (.ref a1)] [(.int (1 : Int32))])) target
        refine XS.goto X_3.here hx rfl (pc0 := 24) (pc' := 28) rfl (hb hby d_fx_24) (by decide) (by decide) ?_
        show Steps p.tables e below (T_3.setTop (mkF m 28 #[.val (.ref a1)] [(.int (1 : Int32))])) target
        exact kt
      obtain ⟨fs, hr, hrun, hended, hW, hsame⟩ := X_3.leave (v := some (.int (1 : Int32))) (fun h => by rw [Bd.returns] at h; cases h)
      refine ⟨_, _, retN X_3 hx (t := .boolean) Bd.returns (by simp) (hb hby d_fx_28) hr, hrun, hended, _, _, rfl, ?_, ⟨_, rfl⟩, hW, hsame.mono (by decide) (by decide)⟩
      show Q_fx Z a1 q1 q2 h0 n0 _ T_3.heap _
      rw [e_3]
      exact ⟨(congrArg (fun z => some (Value.int z)) (by simp [own_fx, hc9, hc20])), N0, rfl⟩
  · -- pc 9: no
    refine own_go (S' := T_2.setTop (mkF m 28 #[.val (.ref a1)] [(.int (0 : Int32))])) (fun target kt => ?_) ?_
    · show Steps p.tables e below (T_2.setTop (mkF m 9 #[.val (.ref a1)] [(.int (lcmpW q1 q2))])) target
      refine XS.ifYes X_2.here hx rfl (pc0 := 9) (pc' := 27) rfl (hb hby d_fx_9) rfl ((if0 _ _).trans (feq (own_l2 hc9)).2) (by decide) (by decide) ?_
      show Steps p.tables e below (T_2.setTop (mkF m 27 #[.val (.ref a1)] [])) target
      refine XS.iconst X_2.here hx rfl (hb hby d_fx_27) ?_
      show Steps p.tables e below (T_2.setTop (mkF m 28 #[.val (.ref a1)] [(.int (0 : Int32))])) target
      exact kt
    obtain ⟨fs, hr, hrun, hended, hW, hsame⟩ := X_2.leave (v := some (.int (0 : Int32))) (fun h => by rw [Bd.returns] at h; cases h)
    refine ⟨_, _, retN X_2 hx (t := .boolean) Bd.returns (by simp) (hb hby d_fx_28) hr, hrun, hended, _, _, rfl, ?_, ⟨_, rfl⟩, hW, hsame.mono (by decide) (by decide)⟩
    show Q_fx Z a1 q1 q2 h0 n0 _ T_2.heap _
    rw [e_2]
    exact ⟨(congrArg (fun z => some (Value.int z)) (by simp [own_fx, hc9])), N0, rfl⟩
-- com/example/filigree/filigree/engine/SpanFixedPinLaw.law:(JJI)Z
theorem pn_law : plainName "com/example/filigree/filigree/engine/SpanFixedPinLaw" = true := by first | (simp [plainName, overriddenIn]; done) | decide +kernel
theorem ef_law (m : MethodId) (x0 : Int64) (y0 : Int64) (kk : Int32) : entryFrame m #[(.long x0), (.long y0), (.int kk)] maxLocals = mkF m 0 #[.val (.long x0), .second, .val (.long y0), .second, .val (.int kk), .unset, .unset, .unset, .unset, .unset, .unset, .unset, .unset] [] := by first | (simp [entryFrame, mkF, argsToLocals, Value.category, maxLocals]; done) | rfl
def Q_law (Z : State) (x0 : Int64) (y0 : Int64) (kk : Int32) (h0 : Heap) (n0 : Nat) (v : Option Value) (h : Heap) (L : List Loc) : Prop := v = some (.int (1 : Int32)) ∧ Fr n0 L
set_option maxRecDepth 65536 in
set_option maxHeartbeats 40000000 in
theorem rm_law (l : Launch) (Z : State) (a0 : Array Value) (hw : ∀ d ∈ tables_1, d.before a0 Z = true) (ws : List Jvm.Cond) (x0 : Int64) (y0 : Int64) (kk : Int32) (h0 : Heap) (n0 : Nat) (Z0 : n0 ≤ h0.size) :
    MetFree l x (head1 (Jvm.Cond.code x code maxLocals ret :: ws) room_1) (fun a U => a = #[(.long x0), (.long y0), (.int kk)] ∧ Z.Warmed39 U.vm ∧ U.heap = h0) (fun _ _ _ _ _ => True) (fun _ U o U' => ∃ v L, o = .returned v ∧ Q_law Z x0 y0 kk h0 n0 v U'.heap L ∧ FrameEnd U o U' L room_1.cells room_1.slots) := by
  refine MetFree.of_bodySF (plainFor_of_name pn_law) hisR ?_
  intro p e s m args below meth c s₁ Bd hml0 hP hK
  obtain ⟨rfl, hZ, hh⟩ := hP
  have hx := Bd.exec
  have hby := Bd.bytes
  have hml : c.maxLocals = 13 := hml0
  have hown : s.vm.findClass "com/example/filigree/filigree/engine/SpanFixedPinLaw" = some m.cls := findClass_of_methodNamed Bd.named
  have hnm := (name_of_methodNamed Bd.named Bd.method).1
  have X0 : Stand p l e room_1 s m #[(.long x0), (.long y0), (.int kk)] below meth c s₁ [] 0 0 := Stand.of_body Bd
  have e0 : s₁.heap = h0 := by rw [← hh, Bd.state]; rfl
  have N0 := Fr.nil n0
  refine own_in ?_
  refine own_go (S' := s₁.setTop (mkF m 0 #[.val (.long x0), .second, .val (.long y0), .second, .val (.int kk), .unset, .unset, .unset, .unset, .unset, .unset, .unset, .unset] [])) (fun tgt_ stp_ => castTop (ef_law m x0 y0 kk) stp_) ?_
  refine own_go (S' := s₁.setTop (mkF m 6 #[.val (.long x0), .second, .val (.long y0), .second, .val (.int kk), .unset, .unset, .unset, .unset, .val (.int (kk &&& (3 : Int32))), .unset, .unset, .unset] [])) (fun target kt => ?_) ?_
  · show Steps p.tables e below (s₁.setTop (mkF m 0 #[.val (.long x0), .second, .val (.long y0), .second, .val (.int kk), .unset, .unset, .unset, .unset, .unset, .unset, .unset, .unset] [])) target
    refine XS.iload X0.here hx rfl (hb hby at_0) rfl ?_
    show Steps p.tables e below (s₁.setTop (mkF m 2 #[.val (.long x0), .second, .val (.long y0), .second, .val (.int kk), .unset, .unset, .unset, .unset, .unset, .unset, .unset, .unset] [(.int kk)])) target
    refine XS.iconst X0.here hx rfl (hb hby at_2) ?_
    show Steps p.tables e below (s₁.setTop (mkF m 3 #[.val (.long x0), .second, .val (.long y0), .second, .val (.int kk), .unset, .unset, .unset, .unset, .unset, .unset, .unset, .unset] [(.int (3 : Int32)), (.int kk)])) target
    refine XS.iand X0.here hx rfl (hb hby at_3) rfl ?_
    show Steps p.tables e below (s₁.setTop (mkF m 4 #[.val (.long x0), .second, .val (.long y0), .second, .val (.int kk), .unset, .unset, .unset, .unset, .unset, .unset, .unset, .unset] [(.int (kk &&& (3 : Int32)))])) target
    refine XS.istore X0.here hx rfl (hb hby at_4) rfl (l' := #[.val (.long x0), .second, .val (.long y0), .second, .val (.int kk), .unset, .unset, .unset, .unset, .val (.int (kk &&& (3 : Int32))), .unset, .unset, .unset]) rfl ?_
    show Steps p.tables e below (s₁.setTop (mkF m 6 #[.val (.long x0), .second, .val (.long y0), .second, .val (.int kk), .unset, .unset, .unset, .unset, .val (.int (kk &&& (3 : Int32))), .unset, .unset, .unset] [])) target
    exact kt
  refine own_join (α := Int64 × Int64) (fun _ => True) (fun a => s₁.setTop (mkF m 60 #[.val (.long x0), .second, .val (.long y0), .second, .val (.int kk), .val (.long a.1), .second, .val (.long a.2), .second, .val (.int (kk &&& (3 : Int32))), .unset, .unset, .unset] [])) ?_ ?_
  · rintro ⟨f5, f7⟩ -
    show own_G p.tables e below _ (s₁.setTop (mkF m 60 #[.val (.long x0), .second, .val (.long y0), .second, .val (.int kk), .val (.long f5), .second, .val (.long f7), .second, .val (.int (kk &&& (3 : Int32))), .unset, .unset, .unset] []))
    obtain ⟨T_1, h_1, X_1, e_1, E_1, A_1, D_1, -, st_1⟩ := newO X0 hx hZ hown (hw _ (List.mem_of_getElem? (i := 0) rfl)) (hw _ (List.mem_of_getElem? (i := 1) rfl)) (hw _ (List.mem_of_getElem? (i := 2) rfl)) e0 (g := (mkF m 60 #[.val (.long x0), .second, .val (.long y0), .second, .val (.int kk), .val (.long f5), .second, .val (.long f7), .second, .val (.int (kk &&& (3 : Int32))), .unset, .unset, .unset] [])) rfl (hb hby at_60) (by decide) (by decide)
    obtain ⟨b_1, g_1⟩ : ∃ z, z = h0.size := ⟨_, rfl⟩
    rw [← g_1] at A_1 D_1 st_1
    have gn_b_1 : n0 ≤ b_1 := Nat.le_trans Z0 (Nat.le_of_eq g_1.symm)
    have Z_2 : n0 ≤ h_1.size := Nat.le_trans Z0 E_1.1
    have F_1_fewest : Fld Z h_1 b_1 "com/example/filigree/filigree/engine/MatchPlan$Span" "fewest" "J" (.long (0 : Int64)) := D_1 (Or.inr (hw _ (List.mem_of_getElem? (i := 15) rfl))) (ty := .long) (by decide)
    have F_1_most : Fld Z h_1 b_1 "com/example/filigree/filigree/engine/MatchPlan$Span" "most" "J" (.long (0 : Int64)) := D_1 (Or.inr (hw _ (List.mem_of_getElem? (i := 17) rfl))) (ty := .long) (by decide)
    obtain ⟨_, _, ⟨T_4, L_4, k_4, n_4⟩, -, X_4, ⟨Lc_4, hQ_4, l_4, y_4, z_4⟩, st_4⟩ := X_1.specialBack hx (y := (⟨"com/example/filigree/filigree/engine/MatchPlan$Span", "<init>", "(JJ)V"⟩ : MethodName)) rfl hown (mvT hZ (hw _ (List.mem_of_getElem? (i := 3) rfl))) (mvT hZ (hw _ (List.mem_of_getElem? (i := 4) rfl))) (mvT hZ (hw _ (List.mem_of_getElem? (i := 5) rfl))) (by decide) (backOf (W := 1) (rm_si l Z a0 hw [] b_1 f5 f7  h_1 n0 Z_2 A_1 F_1_fewest F_1_most gn_b_1) hZ (hw _ (List.mem_of_getElem? (i := 5) rfl)) (hw _ (List.mem_of_getElem? (i := 2) rfl)) (by decide) (by decide)) (g := (mkF m 68 #[.val (.long x0), .second, .val (.long y0), .second, .val (.int kk), .val (.long f5), .second, .val (.long f7), .second, .val (.int (kk &&& (3 : Int32))), .unset, .unset, .unset] [(.long f7), (.long f5), (.ref b_1), (.ref b_1)])) rfl (by rw [hml]; rfl) (Steps.refl _) (a := b_1) (argsL := [(.long f5), (.long f7)]) (rest := [(.ref b_1)]) (lenOf pd_JJ_V rfl) rfl (by show 2 * 0 + _ ≤ _; exact Nat.le_of_eq rfl) (hb hby at_68) (fun _ _ => ⟨rfl, e_1, (by decide : 1 + 0 ≤ _), (by decide : 2 + 0 ≤ _)⟩)
    dsimp only [Pt.U, Pt.locs, Pt.cells, Pt.slots] at X_4 l_4 y_4 z_4 st_4 hQ_4
    subst l_4 y_4 z_4
    obtain ⟨rfl, N_4q, p_4_0, p_4_1, p_4_2, p_4_3⟩ := hQ_4
    have N_4 := Fr.app N0 N_4q
    have Z_5 : n0 ≤ T_4.heap.size := Nat.le_trans Z_2 p_4_0.1
    refine own_go (S' := T_4.setTop (mkF m 78 #[.val (.long x0), .second, .val (.long y0), .second, .val (.int kk), .val (.long f5), .second, .val (.long f7), .second, .val (.int (kk &&& (3 : Int32))), .val (.ref b_1), .unset, .unset] [(.int (lcmpW f5 f7))])) (fun target kt => ?_) ?_
    · show Steps p.tables e below (s₁.setTop (mkF m 60 #[.val (.long x0), .second, .val (.long y0), .second, .val (.int kk), .val (.long f5), .second, .val (.long f7), .second, .val (.int (kk &&& (3 : Int32))), .unset, .unset, .unset] [])) target
      refine st_1 _ ?_
      show Steps p.tables e below (T_1.setTop (mkF m 63 #[.val (.long x0), .second, .val (.long y0), .second, .val (.int kk), .val (.long f5), .second, .val (.long f7), .second, .val (.int (kk &&& (3 : Int32))), .unset, .unset, .unset] [(.ref b_1)])) target
      refine XS.dup X_1.here hx rfl (hb hby at_63) rfl rfl ?_
      show Steps p.tables e below (T_1.setTop (mkF m 64 #[.val (.long x0), .second, .val (.long y0), .second, .val (.int kk), .val (.long f5), .second, .val (.long f7), .second, .val (.int (kk &&& (3 : Int32))), .unset, .unset, .unset] [(.ref b_1), (.ref b_1)])) target
      refine XS.lload X_1.here hx rfl (hb hby at_64) rfl ?_
      show Steps p.tables e below (T_1.setTop (mkF m 66 #[.val (.long x0), .second, .val (.long y0), .second, .val (.int kk), .val (.long f5), .second, .val (.long f7), .second, .val (.int (kk &&& (3 : Int32))), .unset, .unset, .unset] [(.long f5), (.ref b_1), (.ref b_1)])) target
      refine XS.lload X_1.here hx rfl (hb hby at_66) rfl ?_
      show Steps p.tables e below (T_1.setTop (mkF m 68 #[.val (.long x0), .second, .val (.long y0), .second, .val (.int kk), .val (.long f5), .second, .val (.long f7), .second, .val (.int (kk &&& (3 : Int32))), .unset, .unset, .unset] [(.long f7), (.long f5), (.ref b_1), (.ref b_1)])) target
      refine st_4.trans ?_
      show Steps p.tables e below (T_4.setTop (mkF m 71 #[.val (.long x0), .second, .val (.long y0), .second, .val (.int kk), .val (.long f5), .second, .val (.long f7), .second, .val (.int (kk &&& (3 : Int32))), .unset, .unset, .unset] [(.ref b_1)])) target
      refine XS.astore X_4.here hx rfl (hb hby at_71) rfl rfl (l' := #[.val (.long x0), .second, .val (.long y0), .second, .val (.int kk), .val (.long f5), .second, .val (.long f7), .second, .val (.int (kk &&& (3 : Int32))), .val (.ref b_1), .unset, .unset]) rfl ?_
      show Steps p.tables e below (T_4.setTop (mkF m 73 #[.val (.long x0), .second, .val (.long y0), .second, .val (.int kk), .val (.long f5), .second, .val (.long f7), .second, .val (.int (kk &&& (3 : Int32))), .val (.ref b_1), .unset, .unset] [])) target
      refine XS.lload X_4.here hx rfl (hb hby at_73) rfl ?_
      show Steps p.tables e below (T_4.setTop (mkF m 75 #[.val (.long x0), .second, .val (.long y0), .second, .val (.int kk), .val (.long f5), .second, .val (.long f7), .second, .val (.int (kk &&& (3 : Int32))), .val (.ref b_1), .unset, .unset] [(.long f5)])) target
      refine XS.lload X_4.here hx rfl (hb hby at_75) rfl ?_
      show Steps p.tables e below (T_4.setTop (mkF m 77 #[.val (.long x0), .second, .val (.long y0), .second, .val (.int kk), .val (.long f5), .second, .val (.long f7), .second, .val (.int (kk &&& (3 : Int32))), .val (.ref b_1), .unset, .unset] [(.long f7), (.long f5)])) target
      refine XS.lcmp X_4.here hx rfl (hb hby at_77) rfl ?_
      show Steps p.tables e below (T_4.setTop (mkF m 78 #[.val (.long x0), .second, .val (.long y0), .second, .val (.int kk), .val (.long f5), .second, .val (.long f7), .second, .val (.int (kk &&& (3 : Int32))), .val (.ref b_1), .unset, .unset] [(.int (lcmpW f5 f7))])) target
      exact kt
    by_cases hc78 : f7 < f5
    · -- pc 78: yes
      refine own_go (S' := T_4.setTop (mkF m 102 #[.val (.long x0), .second, .val (.long y0), .second, .val (.int kk), .val (.long f5), .second, .val (.long f7), .second, .val (.int (kk &&& (3 : Int32))), .val (.ref b_1), .val (.int (0 : Int32)), .unset] [(.int (lcmpW f7 (9223372036854775807 : Int64)))])) (fun target kt => ?_) ?_
      · show Steps p.tables e below (T_4.setTop (mkF m 78 #[.val (.long x0), .second, .val (.long y0), .second, .val (.int kk), .val (.long f5), .second, .val (.long f7), .second, .val (.int (kk &&& (3 : Int32))), .val (.ref b_1), .unset, .unset] [(.int (lcmpW f5 f7))])) target
        refine XS.ifYes X_4.here hx rfl (pc0 := 78) (pc' := 93) rfl (hb hby at_78) rfl ((if0 _ _).trans (tlt (own_l5 hc78)).2.2.1) (by decide) (by decide) ?_
        show Steps p.tables e below (T_4.setTop (mkF m 93 #[.val (.long x0), .second, .val (.long y0), .second, .val (.int kk), .val (.long f5), .second, .val (.long f7), .second, .val (.int (kk &&& (3 : Int32))), .val (.ref b_1), .unset, .unset] [])) target
        refine XS.iconst X_4.here hx rfl (hb hby at_93) ?_
        show Steps p.tables e below (T_4.setTop (mkF m 94 #[.val (.long x0), .second, .val (.long y0), .second, .val (.int kk), .val (.long f5), .second, .val (.long f7), .second, .val (.int (kk &&& (3 : Int32))), .val (.ref b_1), .unset, .unset] [(.int (0 : Int32))])) target
        refine XS.istore X_4.here hx rfl (hb hby at_94) rfl (l' := #[.val (.long x0), .second, .val (.long y0), .second, .val (.int kk), .val (.long f5), .second, .val (.long f7), .second, .val (.int (kk &&& (3 : Int32))), .val (.ref b_1), .val (.int (0 : Int32)), .unset]) rfl ?_
        show Steps p.tables e below (T_4.setTop (mkF m 96 #[.val (.long x0), .second, .val (.long y0), .second, .val (.int kk), .val (.long f5), .second, .val (.long f7), .second, .val (.int (kk &&& (3 : Int32))), .val (.ref b_1), .val (.int (0 : Int32)), .unset] [])) target
        refine XS.lload X_4.here hx rfl (hb hby at_96) rfl ?_
        show Steps p.tables e below (T_4.setTop (mkF m 98 #[.val (.long x0), .second, .val (.long y0), .second, .val (.int kk), .val (.long f5), .second, .val (.long f7), .second, .val (.int (kk &&& (3 : Int32))), .val (.ref b_1), .val (.int (0 : Int32)), .unset] [(.long f7)])) target
        refine X_4.ldc2Long hx hown (mvT hZ (hw _ (List.mem_of_getElem? (i := 18) rfl))) (g := (mkF m 98 #[.val (.long x0), .second, .val (.long y0), .second, .val (.int kk), .val (.long f5), .second, .val (.long f7), .second, .val (.int (kk &&& (3 : Int32))), .val (.ref b_1), .val (.int (0 : Int32)), .unset] [(.long f7)])) rfl (hb hby at_98) _ ?_
        show Steps p.tables e below (T_4.setTop (mkF m 101 #[.val (.long x0), .second, .val (.long y0), .second, .val (.int kk), .val (.long f5), .second, .val (.long f7), .second, .val (.int (kk &&& (3 : Int32))), .val (.ref b_1), .val (.int (0 : Int32)), .unset] [(.long (9223372036854775807 : Int64)), (.long f7)])) target
        refine XS.lcmp X_4.here hx rfl (hb hby at_101) rfl ?_
        show Steps p.tables e below (T_4.setTop (mkF m 102 #[.val (.long x0), .second, .val (.long y0), .second, .val (.int kk), .val (.long f5), .second, .val (.long f7), .second, .val (.int (kk &&& (3 : Int32))), .val (.ref b_1), .val (.int (0 : Int32)), .unset] [(.int (lcmpW f7 (9223372036854775807 : Int64)))])) target
        exact kt
      by_cases hc102 : f7 < (9223372036854775807 : Int64)
      · -- pc 102: yes
        obtain ⟨cq_7, kq_7, q_7a, q_7b, q_7c⟩ := isOf hZ rfl p_4_1
        obtain ⟨_, _, ⟨T_7, L_7, k_7, n_7⟩, -, X_7, ⟨Lc_7, hQ_7, l_7, y_7, z_7⟩, st_7⟩ := X_4.virtualBack hx (y := (⟨"com/example/filigree/filigree/engine/MatchPlan$Span", "fixed", "()Z"⟩ : MethodName)) (z := (⟨"com/example/filigree/filigree/engine/MatchPlan$Span", "fixed", "()Z"⟩ : MethodName)) hown (mvT hZ (hw _ (List.mem_of_getElem? (i := 19) rfl))) (mvT hZ (hw _ (List.mem_of_getElem? (i := 20) rfl))) (notFace_of_selects (args := #[]) (mvT hZ (hw _ (List.mem_of_getElem? (i := 22) rfl)))) (mvT hZ (hw _ (List.mem_of_getElem? (i := 22) rfl))) (mvT hZ (hw _ (List.mem_of_getElem? (i := 21) rfl))) (by decide) (backOf (W := 0) (rm_fx l Z a0 hw [] b_1 f5 f7 T_4.heap n0 Z_5 p_4_2 p_4_3) hZ (hw _ (List.mem_of_getElem? (i := 23) rfl)) (hw _ (List.mem_of_getElem? (i := 2) rfl)) (by decide) (by decide)) q_7a q_7c (g := (mkF m 114 #[.val (.long x0), .second, .val (.long y0), .second, .val (.int kk), .val (.long f5), .second, .val (.long f7), .second, .val (.int (kk &&& (3 : Int32))), .val (.ref b_1), .val (.int (0 : Int32)), .val (.int (1 : Int32))] [(.ref b_1)])) rfl (by rw [hml]; rfl) (Steps.refl _) (argsL := []) (rest := []) (lenOf pd__Z rfl) rfl (by show 2 * 0 + _ ≤ _; exact Nat.le_of_eq rfl) (hb hby at_114) (fun _ _ => ⟨rfl, rfl, (by decide : 1 + 0 ≤ _), (by decide : 2 + 0 ≤ _)⟩)
        dsimp only [Pt.U, Pt.locs, Pt.cells, Pt.slots] at X_7 l_7 y_7 z_7 st_7 hQ_7
        subst l_7 y_7 z_7
        obtain ⟨rfl, N_7q, p_7_0⟩ := hQ_7
        have N_7 := Fr.app N_4 N_7q
        refine own_go (S' := T_7.setTop (mkF m 140 #[.val (.long x0), .second, .val (.long y0), .second, .val (.int kk), .val (.long f5), .second, .val (.long f7), .second, .val (.int (kk &&& (3 : Int32))), .val (.ref b_1), .val (.int (0 : Int32)), .val (.int (1 : Int32))] [(.int (1 : Int32))])) (fun target kt => ?_) ?_
        · show Steps p.tables e below (T_4.setTop (mkF m 102 #[.val (.long x0), .second, .val (.long y0), .second, .val (.int kk), .val (.long f5), .second, .val (.long f7), .second, .val (.int (kk &&& (3 : Int32))), .val (.ref b_1), .val (.int (0 : Int32)), .unset] [(.int (lcmpW f7 (9223372036854775807 : Int64)))])) target
          refine XS.ifNo X_4.here hx rfl (hb hby at_102) rfl ((if0 _ _).trans (tlt (own_l3 hc102)).2.1) ?_
          show Steps p.tables e below (T_4.setTop (mkF m 105 #[.val (.long x0), .second, .val (.long y0), .second, .val (.int kk), .val (.long f5), .second, .val (.long f7), .second, .val (.int (kk &&& (3 : Int32))), .val (.ref b_1), .val (.int (0 : Int32)), .unset] [])) target
          refine XS.iconst X_4.here hx rfl (hb hby at_105) ?_
          show Steps p.tables e below (T_4.setTop (mkF m 106 #[.val (.long x0), .second, .val (.long y0), .second, .val (.int kk), .val (.long f5), .second, .val (.long f7), .second, .val (.int (kk &&& (3 : Int32))), .val (.ref b_1), .val (.int (0 : Int32)), .unset] [(.int (1 : Int32))])) target
          refine XS.goto X_4.here hx rfl (pc0 := 106) (pc' := 110) rfl (hb hby at_106) (by decide) (by decide) ?_
          show Steps p.tables e below (T_4.setTop (mkF m 110 #[.val (.long x0), .second, .val (.long y0), .second, .val (.int kk), .val (.long f5), .second, .val (.long f7), .second, .val (.int (kk &&& (3 : Int32))), .val (.ref b_1), .val (.int (0 : Int32)), .unset] [(.int (1 : Int32))])) target
          refine XS.istore X_4.here hx rfl (hb hby at_110) rfl (l' := #[.val (.long x0), .second, .val (.long y0), .second, .val (.int kk), .val (.long f5), .second, .val (.long f7), .second, .val (.int (kk &&& (3 : Int32))), .val (.ref b_1), .val (.int (0 : Int32)), .val (.int (1 : Int32))]) rfl ?_
          show Steps p.tables e below (T_4.setTop (mkF m 112 #[.val (.long x0), .second, .val (.long y0), .second, .val (.int kk), .val (.long f5), .second, .val (.long f7), .second, .val (.int (kk &&& (3 : Int32))), .val (.ref b_1), .val (.int (0 : Int32)), .val (.int (1 : Int32))] [])) target
          refine XS.aload X_4.here hx rfl (hb hby at_112) rfl rfl ?_
          show Steps p.tables e below (T_4.setTop (mkF m 114 #[.val (.long x0), .second, .val (.long y0), .second, .val (.int kk), .val (.long f5), .second, .val (.long f7), .second, .val (.int (kk &&& (3 : Int32))), .val (.ref b_1), .val (.int (0 : Int32)), .val (.int (1 : Int32))] [(.ref b_1)])) target
          refine st_7.trans ?_
          show Steps p.tables e below (T_7.setTop (mkF m 117 #[.val (.long x0), .second, .val (.long y0), .second, .val (.int kk), .val (.long f5), .second, .val (.long f7), .second, .val (.int (kk &&& (3 : Int32))), .val (.ref b_1), .val (.int (0 : Int32)), .val (.int (1 : Int32))] [(.int (own_fx f5 f7))])) target
          refine XS.iload X_7.here hx rfl (hb hby at_117) rfl ?_
          show Steps p.tables e below (T_7.setTop (mkF m 119 #[.val (.long x0), .second, .val (.long y0), .second, .val (.int kk), .val (.long f5), .second, .val (.long f7), .second, .val (.int (kk &&& (3 : Int32))), .val (.ref b_1), .val (.int (0 : Int32)), .val (.int (1 : Int32))] [(.int (0 : Int32)), (.int (own_fx f5 f7))])) target
          refine XS.ifYes X_7.here hx rfl (pc0 := 119) (pc' := 131) rfl (hb hby at_119) rfl ((if0 _ _).trans (teq (by decide : (0 : Int32) = (0 : Int32))).1) (by decide) (by decide) ?_
          show Steps p.tables e below (T_7.setTop (mkF m 131 #[.val (.long x0), .second, .val (.long y0), .second, .val (.int kk), .val (.long f5), .second, .val (.long f7), .second, .val (.int (kk &&& (3 : Int32))), .val (.ref b_1), .val (.int (0 : Int32)), .val (.int (1 : Int32))] [(.int (own_fx f5 f7))])) target
          refine XS.iconst X_7.here hx rfl (hb hby at_131) ?_
          show Steps p.tables e below (T_7.setTop (mkF m 132 #[.val (.long x0), .second, .val (.long y0), .second, .val (.int kk), .val (.long f5), .second, .val (.long f7), .second, .val (.int (kk &&& (3 : Int32))), .val (.ref b_1), .val (.int (0 : Int32)), .val (.int (1 : Int32))] [(.int (0 : Int32)), (.int (own_fx f5 f7))])) target
          refine XS.icmpNo X_7.here hx rfl (hb hby at_132) rfl (teq (own_fx0 (Or.inl hc78) : (own_fx f5 f7) = (0 : Int32))).2 ?_
          show Steps p.tables e below (T_7.setTop (mkF m 135 #[.val (.long x0), .second, .val (.long y0), .second, .val (.int kk), .val (.long f5), .second, .val (.long f7), .second, .val (.int (kk &&& (3 : Int32))), .val (.ref b_1), .val (.int (0 : Int32)), .val (.int (1 : Int32))] [])) target
          refine XS.iconst X_7.here hx rfl (hb hby at_135) ?_
          show Steps p.tables e below (T_7.setTop (mkF m 136 #[.val (.long x0), .second, .val (.long y0), .second, .val (.int kk), .val (.long f5), .second, .val (.long f7), .second, .val (.int (kk &&& (3 : Int32))), .val (.ref b_1), .val (.int (0 : Int32)), .val (.int (1 : Int32))] [(.int (1 : Int32))])) target
          refine XS.goto X_7.here hx rfl (pc0 := 136) (pc' := 140) rfl (hb hby at_136) (by decide) (by decide) ?_
          show Steps p.tables e below (T_7.setTop (mkF m 140 #[.val (.long x0), .second, .val (.long y0), .second, .val (.int kk), .val (.long f5), .second, .val (.long f7), .second, .val (.int (kk &&& (3 : Int32))), .val (.ref b_1), .val (.int (0 : Int32)), .val (.int (1 : Int32))] [(.int (1 : Int32))])) target
          exact kt
        obtain ⟨fs, hr, hrun, hended, hW, hsame⟩ := X_7.leave (v := some (.int (1 : Int32))) (fun h => by rw [Bd.returns] at h; cases h)
        refine ⟨_, _, retN X_7 hx (t := .boolean) Bd.returns (by simp) (hb hby at_140) hr, hrun, hended, _, _, rfl, ?_, ⟨_, rfl⟩, hW, hsame.mono (by decide) (by decide)⟩
        show Q_law Z x0 y0 kk h0 n0 _ T_7.heap _
        rw [p_7_0]
        exact ⟨rfl, N_7⟩
      · -- pc 102: no
        obtain ⟨cq_8, kq_8, q_8a, q_8b, q_8c⟩ := isOf hZ rfl p_4_1
        obtain ⟨_, _, ⟨T_8, L_8, k_8, n_8⟩, -, X_8, ⟨Lc_8, hQ_8, l_8, y_8, z_8⟩, st_8⟩ := X_4.virtualBack hx (y := (⟨"com/example/filigree/filigree/engine/MatchPlan$Span", "fixed", "()Z"⟩ : MethodName)) (z := (⟨"com/example/filigree/filigree/engine/MatchPlan$Span", "fixed", "()Z"⟩ : MethodName)) hown (mvT hZ (hw _ (List.mem_of_getElem? (i := 19) rfl))) (mvT hZ (hw _ (List.mem_of_getElem? (i := 20) rfl))) (notFace_of_selects (args := #[]) (mvT hZ (hw _ (List.mem_of_getElem? (i := 22) rfl)))) (mvT hZ (hw _ (List.mem_of_getElem? (i := 22) rfl))) (mvT hZ (hw _ (List.mem_of_getElem? (i := 21) rfl))) (by decide) (backOf (W := 0) (rm_fx l Z a0 hw [] b_1 f5 f7 T_4.heap n0 Z_5 p_4_2 p_4_3) hZ (hw _ (List.mem_of_getElem? (i := 23) rfl)) (hw _ (List.mem_of_getElem? (i := 2) rfl)) (by decide) (by decide)) q_8a q_8c (g := (mkF m 114 #[.val (.long x0), .second, .val (.long y0), .second, .val (.int kk), .val (.long f5), .second, .val (.long f7), .second, .val (.int (kk &&& (3 : Int32))), .val (.ref b_1), .val (.int (0 : Int32)), .val (.int (0 : Int32))] [(.ref b_1)])) rfl (by rw [hml]; rfl) (Steps.refl _) (argsL := []) (rest := []) (lenOf pd__Z rfl) rfl (by show 2 * 0 + _ ≤ _; exact Nat.le_of_eq rfl) (hb hby at_114) (fun _ _ => ⟨rfl, rfl, (by decide : 1 + 0 ≤ _), (by decide : 2 + 0 ≤ _)⟩)
        dsimp only [Pt.U, Pt.locs, Pt.cells, Pt.slots] at X_8 l_8 y_8 z_8 st_8 hQ_8
        subst l_8 y_8 z_8
        obtain ⟨rfl, N_8q, p_8_0⟩ := hQ_8
        have N_8 := Fr.app N_4 N_8q
        refine own_go (S' := T_8.setTop (mkF m 140 #[.val (.long x0), .second, .val (.long y0), .second, .val (.int kk), .val (.long f5), .second, .val (.long f7), .second, .val (.int (kk &&& (3 : Int32))), .val (.ref b_1), .val (.int (0 : Int32)), .val (.int (0 : Int32))] [(.int (1 : Int32))])) (fun target kt => ?_) ?_
        · show Steps p.tables e below (T_4.setTop (mkF m 102 #[.val (.long x0), .second, .val (.long y0), .second, .val (.int kk), .val (.long f5), .second, .val (.long f7), .second, .val (.int (kk &&& (3 : Int32))), .val (.ref b_1), .val (.int (0 : Int32)), .unset] [(.int (lcmpW f7 (9223372036854775807 : Int64)))])) target
          refine XS.ifYes X_4.here hx rfl (pc0 := 102) (pc' := 109) rfl (hb hby at_102) rfl ((if0 _ _).trans (flt (own_l4 hc102)).2.1) (by decide) (by decide) ?_
          show Steps p.tables e below (T_4.setTop (mkF m 109 #[.val (.long x0), .second, .val (.long y0), .second, .val (.int kk), .val (.long f5), .second, .val (.long f7), .second, .val (.int (kk &&& (3 : Int32))), .val (.ref b_1), .val (.int (0 : Int32)), .unset] [])) target
          refine XS.iconst X_4.here hx rfl (hb hby at_109) ?_
          show Steps p.tables e below (T_4.setTop (mkF m 110 #[.val (.long x0), .second, .val (.long y0), .second, .val (.int kk), .val (.long f5), .second, .val (.long f7), .second, .val (.int (kk &&& (3 : Int32))), .val (.ref b_1), .val (.int (0 : Int32)), .unset] [(.int (0 : Int32))])) target
          refine XS.istore X_4.here hx rfl (hb hby at_110) rfl (l' := #[.val (.long x0), .second, .val (.long y0), .second, .val (.int kk), .val (.long f5), .second, .val (.long f7), .second, .val (.int (kk &&& (3 : Int32))), .val (.ref b_1), .val (.int (0 : Int32)), .val (.int (0 : Int32))]) rfl ?_
          show Steps p.tables e below (T_4.setTop (mkF m 112 #[.val (.long x0), .second, .val (.long y0), .second, .val (.int kk), .val (.long f5), .second, .val (.long f7), .second, .val (.int (kk &&& (3 : Int32))), .val (.ref b_1), .val (.int (0 : Int32)), .val (.int (0 : Int32))] [])) target
          refine XS.aload X_4.here hx rfl (hb hby at_112) rfl rfl ?_
          show Steps p.tables e below (T_4.setTop (mkF m 114 #[.val (.long x0), .second, .val (.long y0), .second, .val (.int kk), .val (.long f5), .second, .val (.long f7), .second, .val (.int (kk &&& (3 : Int32))), .val (.ref b_1), .val (.int (0 : Int32)), .val (.int (0 : Int32))] [(.ref b_1)])) target
          refine st_8.trans ?_
          show Steps p.tables e below (T_8.setTop (mkF m 117 #[.val (.long x0), .second, .val (.long y0), .second, .val (.int kk), .val (.long f5), .second, .val (.long f7), .second, .val (.int (kk &&& (3 : Int32))), .val (.ref b_1), .val (.int (0 : Int32)), .val (.int (0 : Int32))] [(.int (own_fx f5 f7))])) target
          refine XS.iload X_8.here hx rfl (hb hby at_117) rfl ?_
          show Steps p.tables e below (T_8.setTop (mkF m 119 #[.val (.long x0), .second, .val (.long y0), .second, .val (.int kk), .val (.long f5), .second, .val (.long f7), .second, .val (.int (kk &&& (3 : Int32))), .val (.ref b_1), .val (.int (0 : Int32)), .val (.int (0 : Int32))] [(.int (0 : Int32)), (.int (own_fx f5 f7))])) target
          refine XS.ifYes X_8.here hx rfl (pc0 := 119) (pc' := 131) rfl (hb hby at_119) rfl ((if0 _ _).trans (teq (by decide : (0 : Int32) = (0 : Int32))).1) (by decide) (by decide) ?_
          show Steps p.tables e below (T_8.setTop (mkF m 131 #[.val (.long x0), .second, .val (.long y0), .second, .val (.int kk), .val (.long f5), .second, .val (.long f7), .second, .val (.int (kk &&& (3 : Int32))), .val (.ref b_1), .val (.int (0 : Int32)), .val (.int (0 : Int32))] [(.int (own_fx f5 f7))])) target
          refine XS.iconst X_8.here hx rfl (hb hby at_131) ?_
          show Steps p.tables e below (T_8.setTop (mkF m 132 #[.val (.long x0), .second, .val (.long y0), .second, .val (.int kk), .val (.long f5), .second, .val (.long f7), .second, .val (.int (kk &&& (3 : Int32))), .val (.ref b_1), .val (.int (0 : Int32)), .val (.int (0 : Int32))] [(.int (0 : Int32)), (.int (own_fx f5 f7))])) target
          refine XS.icmpNo X_8.here hx rfl (hb hby at_132) rfl (teq (own_fx0 (Or.inl hc78) : (own_fx f5 f7) = (0 : Int32))).2 ?_
          show Steps p.tables e below (T_8.setTop (mkF m 135 #[.val (.long x0), .second, .val (.long y0), .second, .val (.int kk), .val (.long f5), .second, .val (.long f7), .second, .val (.int (kk &&& (3 : Int32))), .val (.ref b_1), .val (.int (0 : Int32)), .val (.int (0 : Int32))] [])) target
          refine XS.iconst X_8.here hx rfl (hb hby at_135) ?_
          show Steps p.tables e below (T_8.setTop (mkF m 136 #[.val (.long x0), .second, .val (.long y0), .second, .val (.int kk), .val (.long f5), .second, .val (.long f7), .second, .val (.int (kk &&& (3 : Int32))), .val (.ref b_1), .val (.int (0 : Int32)), .val (.int (0 : Int32))] [(.int (1 : Int32))])) target
          refine XS.goto X_8.here hx rfl (pc0 := 136) (pc' := 140) rfl (hb hby at_136) (by decide) (by decide) ?_
          show Steps p.tables e below (T_8.setTop (mkF m 140 #[.val (.long x0), .second, .val (.long y0), .second, .val (.int kk), .val (.long f5), .second, .val (.long f7), .second, .val (.int (kk &&& (3 : Int32))), .val (.ref b_1), .val (.int (0 : Int32)), .val (.int (0 : Int32))] [(.int (1 : Int32))])) target
          exact kt
        obtain ⟨fs, hr, hrun, hended, hW, hsame⟩ := X_8.leave (v := some (.int (1 : Int32))) (fun h => by rw [Bd.returns] at h; cases h)
        refine ⟨_, _, retN X_8 hx (t := .boolean) Bd.returns (by simp) (hb hby at_140) hr, hrun, hended, _, _, rfl, ?_, ⟨_, rfl⟩, hW, hsame.mono (by decide) (by decide)⟩
        show Q_law Z x0 y0 kk h0 n0 _ T_8.heap _
        rw [p_8_0]
        exact ⟨rfl, N_8⟩
    · -- pc 78: no
      refine own_go (S' := T_4.setTop (mkF m 86 #[.val (.long x0), .second, .val (.long y0), .second, .val (.int kk), .val (.long f5), .second, .val (.long f7), .second, .val (.int (kk &&& (3 : Int32))), .val (.ref b_1), .unset, .unset] [(.int (lcmpW f7 f5))])) (fun target kt => ?_) ?_
      · show Steps p.tables e below (T_4.setTop (mkF m 78 #[.val (.long x0), .second, .val (.long y0), .second, .val (.int kk), .val (.long f5), .second, .val (.long f7), .second, .val (.int (kk &&& (3 : Int32))), .val (.ref b_1), .unset, .unset] [(.int (lcmpW f5 f7))])) target
        refine XS.ifNo X_4.here hx rfl (hb hby at_78) rfl ((if0 _ _).trans (flt (own_l6 hc78)).2.2.1) ?_
        show Steps p.tables e below (T_4.setTop (mkF m 81 #[.val (.long x0), .second, .val (.long y0), .second, .val (.int kk), .val (.long f5), .second, .val (.long f7), .second, .val (.int (kk &&& (3 : Int32))), .val (.ref b_1), .unset, .unset] [])) target
        refine XS.lload X_4.here hx rfl (hb hby at_81) rfl ?_
        show Steps p.tables e below (T_4.setTop (mkF m 83 #[.val (.long x0), .second, .val (.long y0), .second, .val (.int kk), .val (.long f5), .second, .val (.long f7), .second, .val (.int (kk &&& (3 : Int32))), .val (.ref b_1), .unset, .unset] [(.long f7)])) target
        refine XS.lload X_4.here hx rfl (hb hby at_83) rfl ?_
        show Steps p.tables e below (T_4.setTop (mkF m 85 #[.val (.long x0), .second, .val (.long y0), .second, .val (.int kk), .val (.long f5), .second, .val (.long f7), .second, .val (.int (kk &&& (3 : Int32))), .val (.ref b_1), .unset, .unset] [(.long f5), (.long f7)])) target
        refine XS.lcmp X_4.here hx rfl (hb hby at_85) rfl ?_
        show Steps p.tables e below (T_4.setTop (mkF m 86 #[.val (.long x0), .second, .val (.long y0), .second, .val (.int kk), .val (.long f5), .second, .val (.long f7), .second, .val (.int (kk &&& (3 : Int32))), .val (.ref b_1), .unset, .unset] [(.int (lcmpW f7 f5))])) target
        exact kt
      by_cases hc86 : f5 < f7
      · -- pc 86: yes
        refine own_go (S' := T_4.setTop (mkF m 102 #[.val (.long x0), .second, .val (.long y0), .second, .val (.int kk), .val (.long f5), .second, .val (.long f7), .second, .val (.int (kk &&& (3 : Int32))), .val (.ref b_1), .val (.int (0 : Int32)), .unset] [(.int (lcmpW f7 (9223372036854775807 : Int64)))])) (fun target kt => ?_) ?_
        · show Steps p.tables e below (T_4.setTop (mkF m 86 #[.val (.long x0), .second, .val (.long y0), .second, .val (.int kk), .val (.long f5), .second, .val (.long f7), .second, .val (.int (kk &&& (3 : Int32))), .val (.ref b_1), .unset, .unset] [(.int (lcmpW f7 f5))])) target
          refine XS.ifYes X_4.here hx rfl (pc0 := 86) (pc' := 93) rfl (hb hby at_86) rfl ((if0 _ _).trans (tlt (own_l5 hc86)).2.2.1) (by decide) (by decide) ?_
          show Steps p.tables e below (T_4.setTop (mkF m 93 #[.val (.long x0), .second, .val (.long y0), .second, .val (.int kk), .val (.long f5), .second, .val (.long f7), .second, .val (.int (kk &&& (3 : Int32))), .val (.ref b_1), .unset, .unset] [])) target
          refine XS.iconst X_4.here hx rfl (hb hby at_93) ?_
          show Steps p.tables e below (T_4.setTop (mkF m 94 #[.val (.long x0), .second, .val (.long y0), .second, .val (.int kk), .val (.long f5), .second, .val (.long f7), .second, .val (.int (kk &&& (3 : Int32))), .val (.ref b_1), .unset, .unset] [(.int (0 : Int32))])) target
          refine XS.istore X_4.here hx rfl (hb hby at_94) rfl (l' := #[.val (.long x0), .second, .val (.long y0), .second, .val (.int kk), .val (.long f5), .second, .val (.long f7), .second, .val (.int (kk &&& (3 : Int32))), .val (.ref b_1), .val (.int (0 : Int32)), .unset]) rfl ?_
          show Steps p.tables e below (T_4.setTop (mkF m 96 #[.val (.long x0), .second, .val (.long y0), .second, .val (.int kk), .val (.long f5), .second, .val (.long f7), .second, .val (.int (kk &&& (3 : Int32))), .val (.ref b_1), .val (.int (0 : Int32)), .unset] [])) target
          refine XS.lload X_4.here hx rfl (hb hby at_96) rfl ?_
          show Steps p.tables e below (T_4.setTop (mkF m 98 #[.val (.long x0), .second, .val (.long y0), .second, .val (.int kk), .val (.long f5), .second, .val (.long f7), .second, .val (.int (kk &&& (3 : Int32))), .val (.ref b_1), .val (.int (0 : Int32)), .unset] [(.long f7)])) target
          refine X_4.ldc2Long hx hown (mvT hZ (hw _ (List.mem_of_getElem? (i := 18) rfl))) (g := (mkF m 98 #[.val (.long x0), .second, .val (.long y0), .second, .val (.int kk), .val (.long f5), .second, .val (.long f7), .second, .val (.int (kk &&& (3 : Int32))), .val (.ref b_1), .val (.int (0 : Int32)), .unset] [(.long f7)])) rfl (hb hby at_98) _ ?_
          show Steps p.tables e below (T_4.setTop (mkF m 101 #[.val (.long x0), .second, .val (.long y0), .second, .val (.int kk), .val (.long f5), .second, .val (.long f7), .second, .val (.int (kk &&& (3 : Int32))), .val (.ref b_1), .val (.int (0 : Int32)), .unset] [(.long (9223372036854775807 : Int64)), (.long f7)])) target
          refine XS.lcmp X_4.here hx rfl (hb hby at_101) rfl ?_
          show Steps p.tables e below (T_4.setTop (mkF m 102 #[.val (.long x0), .second, .val (.long y0), .second, .val (.int kk), .val (.long f5), .second, .val (.long f7), .second, .val (.int (kk &&& (3 : Int32))), .val (.ref b_1), .val (.int (0 : Int32)), .unset] [(.int (lcmpW f7 (9223372036854775807 : Int64)))])) target
          exact kt
        by_cases hc102 : f7 < (9223372036854775807 : Int64)
        · -- pc 102: yes
          obtain ⟨cq_9, kq_9, q_9a, q_9b, q_9c⟩ := isOf hZ rfl p_4_1
          obtain ⟨_, _, ⟨T_9, L_9, k_9, n_9⟩, -, X_9, ⟨Lc_9, hQ_9, l_9, y_9, z_9⟩, st_9⟩ := X_4.virtualBack hx (y := (⟨"com/example/filigree/filigree/engine/MatchPlan$Span", "fixed", "()Z"⟩ : MethodName)) (z := (⟨"com/example/filigree/filigree/engine/MatchPlan$Span", "fixed", "()Z"⟩ : MethodName)) hown (mvT hZ (hw _ (List.mem_of_getElem? (i := 19) rfl))) (mvT hZ (hw _ (List.mem_of_getElem? (i := 20) rfl))) (notFace_of_selects (args := #[]) (mvT hZ (hw _ (List.mem_of_getElem? (i := 22) rfl)))) (mvT hZ (hw _ (List.mem_of_getElem? (i := 22) rfl))) (mvT hZ (hw _ (List.mem_of_getElem? (i := 21) rfl))) (by decide) (backOf (W := 0) (rm_fx l Z a0 hw [] b_1 f5 f7 T_4.heap n0 Z_5 p_4_2 p_4_3) hZ (hw _ (List.mem_of_getElem? (i := 23) rfl)) (hw _ (List.mem_of_getElem? (i := 2) rfl)) (by decide) (by decide)) q_9a q_9c (g := (mkF m 114 #[.val (.long x0), .second, .val (.long y0), .second, .val (.int kk), .val (.long f5), .second, .val (.long f7), .second, .val (.int (kk &&& (3 : Int32))), .val (.ref b_1), .val (.int (0 : Int32)), .val (.int (1 : Int32))] [(.ref b_1)])) rfl (by rw [hml]; rfl) (Steps.refl _) (argsL := []) (rest := []) (lenOf pd__Z rfl) rfl (by show 2 * 0 + _ ≤ _; exact Nat.le_of_eq rfl) (hb hby at_114) (fun _ _ => ⟨rfl, rfl, (by decide : 1 + 0 ≤ _), (by decide : 2 + 0 ≤ _)⟩)
          dsimp only [Pt.U, Pt.locs, Pt.cells, Pt.slots] at X_9 l_9 y_9 z_9 st_9 hQ_9
          subst l_9 y_9 z_9
          obtain ⟨rfl, N_9q, p_9_0⟩ := hQ_9
          have N_9 := Fr.app N_4 N_9q
          refine own_go (S' := T_9.setTop (mkF m 140 #[.val (.long x0), .second, .val (.long y0), .second, .val (.int kk), .val (.long f5), .second, .val (.long f7), .second, .val (.int (kk &&& (3 : Int32))), .val (.ref b_1), .val (.int (0 : Int32)), .val (.int (1 : Int32))] [(.int (1 : Int32))])) (fun target kt => ?_) ?_
          · show Steps p.tables e below (T_4.setTop (mkF m 102 #[.val (.long x0), .second, .val (.long y0), .second, .val (.int kk), .val (.long f5), .second, .val (.long f7), .second, .val (.int (kk &&& (3 : Int32))), .val (.ref b_1), .val (.int (0 : Int32)), .unset] [(.int (lcmpW f7 (9223372036854775807 : Int64)))])) target
            refine XS.ifNo X_4.here hx rfl (hb hby at_102) rfl ((if0 _ _).trans (tlt (own_l3 hc102)).2.1) ?_
            show Steps p.tables e below (T_4.setTop (mkF m 105 #[.val (.long x0), .second, .val (.long y0), .second, .val (.int kk), .val (.long f5), .second, .val (.long f7), .second, .val (.int (kk &&& (3 : Int32))), .val (.ref b_1), .val (.int (0 : Int32)), .unset] [])) target
            refine XS.iconst X_4.here hx rfl (hb hby at_105) ?_
            show Steps p.tables e below (T_4.setTop (mkF m 106 #[.val (.long x0), .second, .val (.long y0), .second, .val (.int kk), .val (.long f5), .second, .val (.long f7), .second, .val (.int (kk &&& (3 : Int32))), .val (.ref b_1), .val (.int (0 : Int32)), .unset] [(.int (1 : Int32))])) target
            refine XS.goto X_4.here hx rfl (pc0 := 106) (pc' := 110) rfl (hb hby at_106) (by decide) (by decide) ?_
            show Steps p.tables e below (T_4.setTop (mkF m 110 #[.val (.long x0), .second, .val (.long y0), .second, .val (.int kk), .val (.long f5), .second, .val (.long f7), .second, .val (.int (kk &&& (3 : Int32))), .val (.ref b_1), .val (.int (0 : Int32)), .unset] [(.int (1 : Int32))])) target
            refine XS.istore X_4.here hx rfl (hb hby at_110) rfl (l' := #[.val (.long x0), .second, .val (.long y0), .second, .val (.int kk), .val (.long f5), .second, .val (.long f7), .second, .val (.int (kk &&& (3 : Int32))), .val (.ref b_1), .val (.int (0 : Int32)), .val (.int (1 : Int32))]) rfl ?_
            show Steps p.tables e below (T_4.setTop (mkF m 112 #[.val (.long x0), .second, .val (.long y0), .second, .val (.int kk), .val (.long f5), .second, .val (.long f7), .second, .val (.int (kk &&& (3 : Int32))), .val (.ref b_1), .val (.int (0 : Int32)), .val (.int (1 : Int32))] [])) target
            refine XS.aload X_4.here hx rfl (hb hby at_112) rfl rfl ?_
            show Steps p.tables e below (T_4.setTop (mkF m 114 #[.val (.long x0), .second, .val (.long y0), .second, .val (.int kk), .val (.long f5), .second, .val (.long f7), .second, .val (.int (kk &&& (3 : Int32))), .val (.ref b_1), .val (.int (0 : Int32)), .val (.int (1 : Int32))] [(.ref b_1)])) target
            refine st_9.trans ?_
            show Steps p.tables e below (T_9.setTop (mkF m 117 #[.val (.long x0), .second, .val (.long y0), .second, .val (.int kk), .val (.long f5), .second, .val (.long f7), .second, .val (.int (kk &&& (3 : Int32))), .val (.ref b_1), .val (.int (0 : Int32)), .val (.int (1 : Int32))] [(.int (own_fx f5 f7))])) target
            refine XS.iload X_9.here hx rfl (hb hby at_117) rfl ?_
            show Steps p.tables e below (T_9.setTop (mkF m 119 #[.val (.long x0), .second, .val (.long y0), .second, .val (.int kk), .val (.long f5), .second, .val (.long f7), .second, .val (.int (kk &&& (3 : Int32))), .val (.ref b_1), .val (.int (0 : Int32)), .val (.int (1 : Int32))] [(.int (0 : Int32)), (.int (own_fx f5 f7))])) target
            refine XS.ifYes X_9.here hx rfl (pc0 := 119) (pc' := 131) rfl (hb hby at_119) rfl ((if0 _ _).trans (teq (by decide : (0 : Int32) = (0 : Int32))).1) (by decide) (by decide) ?_
            show Steps p.tables e below (T_9.setTop (mkF m 131 #[.val (.long x0), .second, .val (.long y0), .second, .val (.int kk), .val (.long f5), .second, .val (.long f7), .second, .val (.int (kk &&& (3 : Int32))), .val (.ref b_1), .val (.int (0 : Int32)), .val (.int (1 : Int32))] [(.int (own_fx f5 f7))])) target
            refine XS.iconst X_9.here hx rfl (hb hby at_131) ?_
            show Steps p.tables e below (T_9.setTop (mkF m 132 #[.val (.long x0), .second, .val (.long y0), .second, .val (.int kk), .val (.long f5), .second, .val (.long f7), .second, .val (.int (kk &&& (3 : Int32))), .val (.ref b_1), .val (.int (0 : Int32)), .val (.int (1 : Int32))] [(.int (0 : Int32)), (.int (own_fx f5 f7))])) target
            refine XS.icmpNo X_9.here hx rfl (hb hby at_132) rfl (teq (own_fx0 (Or.inr (Or.inl hc86)) : (own_fx f5 f7) = (0 : Int32))).2 ?_
            show Steps p.tables e below (T_9.setTop (mkF m 135 #[.val (.long x0), .second, .val (.long y0), .second, .val (.int kk), .val (.long f5), .second, .val (.long f7), .second, .val (.int (kk &&& (3 : Int32))), .val (.ref b_1), .val (.int (0 : Int32)), .val (.int (1 : Int32))] [])) target
            refine XS.iconst X_9.here hx rfl (hb hby at_135) ?_
            show Steps p.tables e below (T_9.setTop (mkF m 136 #[.val (.long x0), .second, .val (.long y0), .second, .val (.int kk), .val (.long f5), .second, .val (.long f7), .second, .val (.int (kk &&& (3 : Int32))), .val (.ref b_1), .val (.int (0 : Int32)), .val (.int (1 : Int32))] [(.int (1 : Int32))])) target
            refine XS.goto X_9.here hx rfl (pc0 := 136) (pc' := 140) rfl (hb hby at_136) (by decide) (by decide) ?_
            show Steps p.tables e below (T_9.setTop (mkF m 140 #[.val (.long x0), .second, .val (.long y0), .second, .val (.int kk), .val (.long f5), .second, .val (.long f7), .second, .val (.int (kk &&& (3 : Int32))), .val (.ref b_1), .val (.int (0 : Int32)), .val (.int (1 : Int32))] [(.int (1 : Int32))])) target
            exact kt
          obtain ⟨fs, hr, hrun, hended, hW, hsame⟩ := X_9.leave (v := some (.int (1 : Int32))) (fun h => by rw [Bd.returns] at h; cases h)
          refine ⟨_, _, retN X_9 hx (t := .boolean) Bd.returns (by simp) (hb hby at_140) hr, hrun, hended, _, _, rfl, ?_, ⟨_, rfl⟩, hW, hsame.mono (by decide) (by decide)⟩
          show Q_law Z x0 y0 kk h0 n0 _ T_9.heap _
          rw [p_9_0]
          exact ⟨rfl, N_9⟩
        · -- pc 102: no
          obtain ⟨cq_10, kq_10, q_10a, q_10b, q_10c⟩ := isOf hZ rfl p_4_1
          obtain ⟨_, _, ⟨T_10, L_10, k_10, n_10⟩, -, X_10, ⟨Lc_10, hQ_10, l_10, y_10, z_10⟩, st_10⟩ := X_4.virtualBack hx (y := (⟨"com/example/filigree/filigree/engine/MatchPlan$Span", "fixed", "()Z"⟩ : MethodName)) (z := (⟨"com/example/filigree/filigree/engine/MatchPlan$Span", "fixed", "()Z"⟩ : MethodName)) hown (mvT hZ (hw _ (List.mem_of_getElem? (i := 19) rfl))) (mvT hZ (hw _ (List.mem_of_getElem? (i := 20) rfl))) (notFace_of_selects (args := #[]) (mvT hZ (hw _ (List.mem_of_getElem? (i := 22) rfl)))) (mvT hZ (hw _ (List.mem_of_getElem? (i := 22) rfl))) (mvT hZ (hw _ (List.mem_of_getElem? (i := 21) rfl))) (by decide) (backOf (W := 0) (rm_fx l Z a0 hw [] b_1 f5 f7 T_4.heap n0 Z_5 p_4_2 p_4_3) hZ (hw _ (List.mem_of_getElem? (i := 23) rfl)) (hw _ (List.mem_of_getElem? (i := 2) rfl)) (by decide) (by decide)) q_10a q_10c (g := (mkF m 114 #[.val (.long x0), .second, .val (.long y0), .second, .val (.int kk), .val (.long f5), .second, .val (.long f7), .second, .val (.int (kk &&& (3 : Int32))), .val (.ref b_1), .val (.int (0 : Int32)), .val (.int (0 : Int32))] [(.ref b_1)])) rfl (by rw [hml]; rfl) (Steps.refl _) (argsL := []) (rest := []) (lenOf pd__Z rfl) rfl (by show 2 * 0 + _ ≤ _; exact Nat.le_of_eq rfl) (hb hby at_114) (fun _ _ => ⟨rfl, rfl, (by decide : 1 + 0 ≤ _), (by decide : 2 + 0 ≤ _)⟩)
          dsimp only [Pt.U, Pt.locs, Pt.cells, Pt.slots] at X_10 l_10 y_10 z_10 st_10 hQ_10
          subst l_10 y_10 z_10
          obtain ⟨rfl, N_10q, p_10_0⟩ := hQ_10
          have N_10 := Fr.app N_4 N_10q
          refine own_go (S' := T_10.setTop (mkF m 140 #[.val (.long x0), .second, .val (.long y0), .second, .val (.int kk), .val (.long f5), .second, .val (.long f7), .second, .val (.int (kk &&& (3 : Int32))), .val (.ref b_1), .val (.int (0 : Int32)), .val (.int (0 : Int32))] [(.int (1 : Int32))])) (fun target kt => ?_) ?_
          · show Steps p.tables e below (T_4.setTop (mkF m 102 #[.val (.long x0), .second, .val (.long y0), .second, .val (.int kk), .val (.long f5), .second, .val (.long f7), .second, .val (.int (kk &&& (3 : Int32))), .val (.ref b_1), .val (.int (0 : Int32)), .unset] [(.int (lcmpW f7 (9223372036854775807 : Int64)))])) target
            refine XS.ifYes X_4.here hx rfl (pc0 := 102) (pc' := 109) rfl (hb hby at_102) rfl ((if0 _ _).trans (flt (own_l4 hc102)).2.1) (by decide) (by decide) ?_
            show Steps p.tables e below (T_4.setTop (mkF m 109 #[.val (.long x0), .second, .val (.long y0), .second, .val (.int kk), .val (.long f5), .second, .val (.long f7), .second, .val (.int (kk &&& (3 : Int32))), .val (.ref b_1), .val (.int (0 : Int32)), .unset] [])) target
            refine XS.iconst X_4.here hx rfl (hb hby at_109) ?_
            show Steps p.tables e below (T_4.setTop (mkF m 110 #[.val (.long x0), .second, .val (.long y0), .second, .val (.int kk), .val (.long f5), .second, .val (.long f7), .second, .val (.int (kk &&& (3 : Int32))), .val (.ref b_1), .val (.int (0 : Int32)), .unset] [(.int (0 : Int32))])) target
            refine XS.istore X_4.here hx rfl (hb hby at_110) rfl (l' := #[.val (.long x0), .second, .val (.long y0), .second, .val (.int kk), .val (.long f5), .second, .val (.long f7), .second, .val (.int (kk &&& (3 : Int32))), .val (.ref b_1), .val (.int (0 : Int32)), .val (.int (0 : Int32))]) rfl ?_
            show Steps p.tables e below (T_4.setTop (mkF m 112 #[.val (.long x0), .second, .val (.long y0), .second, .val (.int kk), .val (.long f5), .second, .val (.long f7), .second, .val (.int (kk &&& (3 : Int32))), .val (.ref b_1), .val (.int (0 : Int32)), .val (.int (0 : Int32))] [])) target
            refine XS.aload X_4.here hx rfl (hb hby at_112) rfl rfl ?_
            show Steps p.tables e below (T_4.setTop (mkF m 114 #[.val (.long x0), .second, .val (.long y0), .second, .val (.int kk), .val (.long f5), .second, .val (.long f7), .second, .val (.int (kk &&& (3 : Int32))), .val (.ref b_1), .val (.int (0 : Int32)), .val (.int (0 : Int32))] [(.ref b_1)])) target
            refine st_10.trans ?_
            show Steps p.tables e below (T_10.setTop (mkF m 117 #[.val (.long x0), .second, .val (.long y0), .second, .val (.int kk), .val (.long f5), .second, .val (.long f7), .second, .val (.int (kk &&& (3 : Int32))), .val (.ref b_1), .val (.int (0 : Int32)), .val (.int (0 : Int32))] [(.int (own_fx f5 f7))])) target
            refine XS.iload X_10.here hx rfl (hb hby at_117) rfl ?_
            show Steps p.tables e below (T_10.setTop (mkF m 119 #[.val (.long x0), .second, .val (.long y0), .second, .val (.int kk), .val (.long f5), .second, .val (.long f7), .second, .val (.int (kk &&& (3 : Int32))), .val (.ref b_1), .val (.int (0 : Int32)), .val (.int (0 : Int32))] [(.int (0 : Int32)), (.int (own_fx f5 f7))])) target
            refine XS.ifYes X_10.here hx rfl (pc0 := 119) (pc' := 131) rfl (hb hby at_119) rfl ((if0 _ _).trans (teq (by decide : (0 : Int32) = (0 : Int32))).1) (by decide) (by decide) ?_
            show Steps p.tables e below (T_10.setTop (mkF m 131 #[.val (.long x0), .second, .val (.long y0), .second, .val (.int kk), .val (.long f5), .second, .val (.long f7), .second, .val (.int (kk &&& (3 : Int32))), .val (.ref b_1), .val (.int (0 : Int32)), .val (.int (0 : Int32))] [(.int (own_fx f5 f7))])) target
            refine XS.iconst X_10.here hx rfl (hb hby at_131) ?_
            show Steps p.tables e below (T_10.setTop (mkF m 132 #[.val (.long x0), .second, .val (.long y0), .second, .val (.int kk), .val (.long f5), .second, .val (.long f7), .second, .val (.int (kk &&& (3 : Int32))), .val (.ref b_1), .val (.int (0 : Int32)), .val (.int (0 : Int32))] [(.int (0 : Int32)), (.int (own_fx f5 f7))])) target
            refine XS.icmpNo X_10.here hx rfl (hb hby at_132) rfl (teq (own_fx0 (Or.inr (Or.inl hc86)) : (own_fx f5 f7) = (0 : Int32))).2 ?_
            show Steps p.tables e below (T_10.setTop (mkF m 135 #[.val (.long x0), .second, .val (.long y0), .second, .val (.int kk), .val (.long f5), .second, .val (.long f7), .second, .val (.int (kk &&& (3 : Int32))), .val (.ref b_1), .val (.int (0 : Int32)), .val (.int (0 : Int32))] [])) target
            refine XS.iconst X_10.here hx rfl (hb hby at_135) ?_
            show Steps p.tables e below (T_10.setTop (mkF m 136 #[.val (.long x0), .second, .val (.long y0), .second, .val (.int kk), .val (.long f5), .second, .val (.long f7), .second, .val (.int (kk &&& (3 : Int32))), .val (.ref b_1), .val (.int (0 : Int32)), .val (.int (0 : Int32))] [(.int (1 : Int32))])) target
            refine XS.goto X_10.here hx rfl (pc0 := 136) (pc' := 140) rfl (hb hby at_136) (by decide) (by decide) ?_
            show Steps p.tables e below (T_10.setTop (mkF m 140 #[.val (.long x0), .second, .val (.long y0), .second, .val (.int kk), .val (.long f5), .second, .val (.long f7), .second, .val (.int (kk &&& (3 : Int32))), .val (.ref b_1), .val (.int (0 : Int32)), .val (.int (0 : Int32))] [(.int (1 : Int32))])) target
            exact kt
          obtain ⟨fs, hr, hrun, hended, hW, hsame⟩ := X_10.leave (v := some (.int (1 : Int32))) (fun h => by rw [Bd.returns] at h; cases h)
          refine ⟨_, _, retN X_10 hx (t := .boolean) Bd.returns (by simp) (hb hby at_140) hr, hrun, hended, _, _, rfl, ?_, ⟨_, rfl⟩, hW, hsame.mono (by decide) (by decide)⟩
          show Q_law Z x0 y0 kk h0 n0 _ T_10.heap _
          rw [p_10_0]
          exact ⟨rfl, N_10⟩
      · -- pc 86: no
        refine own_go (S' := T_4.setTop (mkF m 102 #[.val (.long x0), .second, .val (.long y0), .second, .val (.int kk), .val (.long f5), .second, .val (.long f7), .second, .val (.int (kk &&& (3 : Int32))), .val (.ref b_1), .val (.int (1 : Int32)), .unset] [(.int (lcmpW f7 (9223372036854775807 : Int64)))])) (fun target kt => ?_) ?_
        · show Steps p.tables e below (T_4.setTop (mkF m 86 #[.val (.long x0), .second, .val (.long y0), .second, .val (.int kk), .val (.long f5), .second, .val (.long f7), .second, .val (.int (kk &&& (3 : Int32))), .val (.ref b_1), .unset, .unset] [(.int (lcmpW f7 f5))])) target
          refine XS.ifNo X_4.here hx rfl (hb hby at_86) rfl ((if0 _ _).trans (flt (own_l6 hc86)).2.2.1) ?_
          show Steps p.tables e below (T_4.setTop (mkF m 89 #[.val (.long x0), .second, .val (.long y0), .second, .val (.int kk), .val (.long f5), .second, .val (.long f7), .second, .val (.int (kk &&& (3 : Int32))), .val (.ref b_1), .unset, .unset] [])) target
          refine XS.iconst X_4.here hx rfl (hb hby at_89) ?_
          show Steps p.tables e below (T_4.setTop (mkF m 90 #[.val (.long x0), .second, .val (.long y0), .second, .val (.int kk), .val (.long f5), .second, .val (.long f7), .second, .val (.int (kk &&& (3 : Int32))), .val (.ref b_1), .unset, .unset] [(.int (1 : Int32))])) target
          refine XS.goto X_4.here hx rfl (pc0 := 90) (pc' := 94) rfl (hb hby at_90) (by decide) (by decide) ?_
          show Steps p.tables e below (T_4.setTop (mkF m 94 #[.val (.long x0), .second, .val (.long y0), .second, .val (.int kk), .val (.long f5), .second, .val (.long f7), .second, .val (.int (kk &&& (3 : Int32))), .val (.ref b_1), .unset, .unset] [(.int (1 : Int32))])) target
          refine XS.istore X_4.here hx rfl (hb hby at_94) rfl (l' := #[.val (.long x0), .second, .val (.long y0), .second, .val (.int kk), .val (.long f5), .second, .val (.long f7), .second, .val (.int (kk &&& (3 : Int32))), .val (.ref b_1), .val (.int (1 : Int32)), .unset]) rfl ?_
          show Steps p.tables e below (T_4.setTop (mkF m 96 #[.val (.long x0), .second, .val (.long y0), .second, .val (.int kk), .val (.long f5), .second, .val (.long f7), .second, .val (.int (kk &&& (3 : Int32))), .val (.ref b_1), .val (.int (1 : Int32)), .unset] [])) target
          refine XS.lload X_4.here hx rfl (hb hby at_96) rfl ?_
          show Steps p.tables e below (T_4.setTop (mkF m 98 #[.val (.long x0), .second, .val (.long y0), .second, .val (.int kk), .val (.long f5), .second, .val (.long f7), .second, .val (.int (kk &&& (3 : Int32))), .val (.ref b_1), .val (.int (1 : Int32)), .unset] [(.long f7)])) target
          refine X_4.ldc2Long hx hown (mvT hZ (hw _ (List.mem_of_getElem? (i := 18) rfl))) (g := (mkF m 98 #[.val (.long x0), .second, .val (.long y0), .second, .val (.int kk), .val (.long f5), .second, .val (.long f7), .second, .val (.int (kk &&& (3 : Int32))), .val (.ref b_1), .val (.int (1 : Int32)), .unset] [(.long f7)])) rfl (hb hby at_98) _ ?_
          show Steps p.tables e below (T_4.setTop (mkF m 101 #[.val (.long x0), .second, .val (.long y0), .second, .val (.int kk), .val (.long f5), .second, .val (.long f7), .second, .val (.int (kk &&& (3 : Int32))), .val (.ref b_1), .val (.int (1 : Int32)), .unset] [(.long (9223372036854775807 : Int64)), (.long f7)])) target
          refine XS.lcmp X_4.here hx rfl (hb hby at_101) rfl ?_
          show Steps p.tables e below (T_4.setTop (mkF m 102 #[.val (.long x0), .second, .val (.long y0), .second, .val (.int kk), .val (.long f5), .second, .val (.long f7), .second, .val (.int (kk &&& (3 : Int32))), .val (.ref b_1), .val (.int (1 : Int32)), .unset] [(.int (lcmpW f7 (9223372036854775807 : Int64)))])) target
          exact kt
        by_cases hc102 : f7 < (9223372036854775807 : Int64)
        · -- pc 102: yes
          obtain ⟨cq_11, kq_11, q_11a, q_11b, q_11c⟩ := isOf hZ rfl p_4_1
          obtain ⟨_, _, ⟨T_11, L_11, k_11, n_11⟩, -, X_11, ⟨Lc_11, hQ_11, l_11, y_11, z_11⟩, st_11⟩ := X_4.virtualBack hx (y := (⟨"com/example/filigree/filigree/engine/MatchPlan$Span", "fixed", "()Z"⟩ : MethodName)) (z := (⟨"com/example/filigree/filigree/engine/MatchPlan$Span", "fixed", "()Z"⟩ : MethodName)) hown (mvT hZ (hw _ (List.mem_of_getElem? (i := 19) rfl))) (mvT hZ (hw _ (List.mem_of_getElem? (i := 20) rfl))) (notFace_of_selects (args := #[]) (mvT hZ (hw _ (List.mem_of_getElem? (i := 22) rfl)))) (mvT hZ (hw _ (List.mem_of_getElem? (i := 22) rfl))) (mvT hZ (hw _ (List.mem_of_getElem? (i := 21) rfl))) (by decide) (backOf (W := 0) (rm_fx l Z a0 hw [] b_1 f5 f7 T_4.heap n0 Z_5 p_4_2 p_4_3) hZ (hw _ (List.mem_of_getElem? (i := 23) rfl)) (hw _ (List.mem_of_getElem? (i := 2) rfl)) (by decide) (by decide)) q_11a q_11c (g := (mkF m 114 #[.val (.long x0), .second, .val (.long y0), .second, .val (.int kk), .val (.long f5), .second, .val (.long f7), .second, .val (.int (kk &&& (3 : Int32))), .val (.ref b_1), .val (.int (1 : Int32)), .val (.int (1 : Int32))] [(.ref b_1)])) rfl (by rw [hml]; rfl) (Steps.refl _) (argsL := []) (rest := []) (lenOf pd__Z rfl) rfl (by show 2 * 0 + _ ≤ _; exact Nat.le_of_eq rfl) (hb hby at_114) (fun _ _ => ⟨rfl, rfl, (by decide : 1 + 0 ≤ _), (by decide : 2 + 0 ≤ _)⟩)
          dsimp only [Pt.U, Pt.locs, Pt.cells, Pt.slots] at X_11 l_11 y_11 z_11 st_11 hQ_11
          subst l_11 y_11 z_11
          obtain ⟨rfl, N_11q, p_11_0⟩ := hQ_11
          have N_11 := Fr.app N_4 N_11q
          refine own_go (S' := T_11.setTop (mkF m 140 #[.val (.long x0), .second, .val (.long y0), .second, .val (.int kk), .val (.long f5), .second, .val (.long f7), .second, .val (.int (kk &&& (3 : Int32))), .val (.ref b_1), .val (.int (1 : Int32)), .val (.int (1 : Int32))] [(.int (1 : Int32))])) (fun target kt => ?_) ?_
          · show Steps p.tables e below (T_4.setTop (mkF m 102 #[.val (.long x0), .second, .val (.long y0), .second, .val (.int kk), .val (.long f5), .second, .val (.long f7), .second, .val (.int (kk &&& (3 : Int32))), .val (.ref b_1), .val (.int (1 : Int32)), .unset] [(.int (lcmpW f7 (9223372036854775807 : Int64)))])) target
            refine XS.ifNo X_4.here hx rfl (hb hby at_102) rfl ((if0 _ _).trans (tlt (own_l3 hc102)).2.1) ?_
            show Steps p.tables e below (T_4.setTop (mkF m 105 #[.val (.long x0), .second, .val (.long y0), .second, .val (.int kk), .val (.long f5), .second, .val (.long f7), .second, .val (.int (kk &&& (3 : Int32))), .val (.ref b_1), .val (.int (1 : Int32)), .unset] [])) target
            refine XS.iconst X_4.here hx rfl (hb hby at_105) ?_
            show Steps p.tables e below (T_4.setTop (mkF m 106 #[.val (.long x0), .second, .val (.long y0), .second, .val (.int kk), .val (.long f5), .second, .val (.long f7), .second, .val (.int (kk &&& (3 : Int32))), .val (.ref b_1), .val (.int (1 : Int32)), .unset] [(.int (1 : Int32))])) target
            refine XS.goto X_4.here hx rfl (pc0 := 106) (pc' := 110) rfl (hb hby at_106) (by decide) (by decide) ?_
            show Steps p.tables e below (T_4.setTop (mkF m 110 #[.val (.long x0), .second, .val (.long y0), .second, .val (.int kk), .val (.long f5), .second, .val (.long f7), .second, .val (.int (kk &&& (3 : Int32))), .val (.ref b_1), .val (.int (1 : Int32)), .unset] [(.int (1 : Int32))])) target
            refine XS.istore X_4.here hx rfl (hb hby at_110) rfl (l' := #[.val (.long x0), .second, .val (.long y0), .second, .val (.int kk), .val (.long f5), .second, .val (.long f7), .second, .val (.int (kk &&& (3 : Int32))), .val (.ref b_1), .val (.int (1 : Int32)), .val (.int (1 : Int32))]) rfl ?_
            show Steps p.tables e below (T_4.setTop (mkF m 112 #[.val (.long x0), .second, .val (.long y0), .second, .val (.int kk), .val (.long f5), .second, .val (.long f7), .second, .val (.int (kk &&& (3 : Int32))), .val (.ref b_1), .val (.int (1 : Int32)), .val (.int (1 : Int32))] [])) target
            refine XS.aload X_4.here hx rfl (hb hby at_112) rfl rfl ?_
            show Steps p.tables e below (T_4.setTop (mkF m 114 #[.val (.long x0), .second, .val (.long y0), .second, .val (.int kk), .val (.long f5), .second, .val (.long f7), .second, .val (.int (kk &&& (3 : Int32))), .val (.ref b_1), .val (.int (1 : Int32)), .val (.int (1 : Int32))] [(.ref b_1)])) target
            refine st_11.trans ?_
            show Steps p.tables e below (T_11.setTop (mkF m 117 #[.val (.long x0), .second, .val (.long y0), .second, .val (.int kk), .val (.long f5), .second, .val (.long f7), .second, .val (.int (kk &&& (3 : Int32))), .val (.ref b_1), .val (.int (1 : Int32)), .val (.int (1 : Int32))] [(.int (own_fx f5 f7))])) target
            refine XS.iload X_11.here hx rfl (hb hby at_117) rfl ?_
            show Steps p.tables e below (T_11.setTop (mkF m 119 #[.val (.long x0), .second, .val (.long y0), .second, .val (.int kk), .val (.long f5), .second, .val (.long f7), .second, .val (.int (kk &&& (3 : Int32))), .val (.ref b_1), .val (.int (1 : Int32)), .val (.int (1 : Int32))] [(.int (1 : Int32)), (.int (own_fx f5 f7))])) target
            refine XS.ifNo X_11.here hx rfl (hb hby at_119) rfl ((if0 _ _).trans (feq (by decide : ¬ ((1 : Int32) = (0 : Int32)))).1) ?_
            show Steps p.tables e below (T_11.setTop (mkF m 122 #[.val (.long x0), .second, .val (.long y0), .second, .val (.int kk), .val (.long f5), .second, .val (.long f7), .second, .val (.int (kk &&& (3 : Int32))), .val (.ref b_1), .val (.int (1 : Int32)), .val (.int (1 : Int32))] [(.int (own_fx f5 f7))])) target
            refine XS.iload X_11.here hx rfl (hb hby at_122) rfl ?_
            show Steps p.tables e below (T_11.setTop (mkF m 124 #[.val (.long x0), .second, .val (.long y0), .second, .val (.int kk), .val (.long f5), .second, .val (.long f7), .second, .val (.int (kk &&& (3 : Int32))), .val (.ref b_1), .val (.int (1 : Int32)), .val (.int (1 : Int32))] [(.int (1 : Int32)), (.int (own_fx f5 f7))])) target
            refine XS.ifNo X_11.here hx rfl (hb hby at_124) rfl ((if0 _ _).trans (feq (by decide : ¬ ((1 : Int32) = (0 : Int32)))).1) ?_
            show Steps p.tables e below (T_11.setTop (mkF m 127 #[.val (.long x0), .second, .val (.long y0), .second, .val (.int kk), .val (.long f5), .second, .val (.long f7), .second, .val (.int (kk &&& (3 : Int32))), .val (.ref b_1), .val (.int (1 : Int32)), .val (.int (1 : Int32))] [(.int (own_fx f5 f7))])) target
            refine XS.iconst X_11.here hx rfl (hb hby at_127) ?_
            show Steps p.tables e below (T_11.setTop (mkF m 128 #[.val (.long x0), .second, .val (.long y0), .second, .val (.int kk), .val (.long f5), .second, .val (.long f7), .second, .val (.int (kk &&& (3 : Int32))), .val (.ref b_1), .val (.int (1 : Int32)), .val (.int (1 : Int32))] [(.int (1 : Int32)), (.int (own_fx f5 f7))])) target
            refine XS.goto X_11.here hx rfl (pc0 := 128) (pc' := 132) rfl (hb hby at_128) (by decide) (by decide) ?_
            show Steps p.tables e below (T_11.setTop (mkF m 132 #[.val (.long x0), .second, .val (.long y0), .second, .val (.int kk), .val (.long f5), .second, .val (.long f7), .second, .val (.int (kk &&& (3 : Int32))), .val (.ref b_1), .val (.int (1 : Int32)), .val (.int (1 : Int32))] [(.int (1 : Int32)), (.int (own_fx f5 f7))])) target
            refine XS.icmpNo X_11.here hx rfl (hb hby at_132) rfl (teq (own_fx1 hc78 hc86 hc102 : (own_fx f5 f7) = (1 : Int32))).2 ?_
            show Steps p.tables e below (T_11.setTop (mkF m 135 #[.val (.long x0), .second, .val (.long y0), .second, .val (.int kk), .val (.long f5), .second, .val (.long f7), .second, .val (.int (kk &&& (3 : Int32))), .val (.ref b_1), .val (.int (1 : Int32)), .val (.int (1 : Int32))] [])) target
            refine XS.iconst X_11.here hx rfl (hb hby at_135) ?_
            show Steps p.tables e below (T_11.setTop (mkF m 136 #[.val (.long x0), .second, .val (.long y0), .second, .val (.int kk), .val (.long f5), .second, .val (.long f7), .second, .val (.int (kk &&& (3 : Int32))), .val (.ref b_1), .val (.int (1 : Int32)), .val (.int (1 : Int32))] [(.int (1 : Int32))])) target
            refine XS.goto X_11.here hx rfl (pc0 := 136) (pc' := 140) rfl (hb hby at_136) (by decide) (by decide) ?_
            show Steps p.tables e below (T_11.setTop (mkF m 140 #[.val (.long x0), .second, .val (.long y0), .second, .val (.int kk), .val (.long f5), .second, .val (.long f7), .second, .val (.int (kk &&& (3 : Int32))), .val (.ref b_1), .val (.int (1 : Int32)), .val (.int (1 : Int32))] [(.int (1 : Int32))])) target
            exact kt
          obtain ⟨fs, hr, hrun, hended, hW, hsame⟩ := X_11.leave (v := some (.int (1 : Int32))) (fun h => by rw [Bd.returns] at h; cases h)
          refine ⟨_, _, retN X_11 hx (t := .boolean) Bd.returns (by simp) (hb hby at_140) hr, hrun, hended, _, _, rfl, ?_, ⟨_, rfl⟩, hW, hsame.mono (by decide) (by decide)⟩
          show Q_law Z x0 y0 kk h0 n0 _ T_11.heap _
          rw [p_11_0]
          exact ⟨rfl, N_11⟩
        · -- pc 102: no
          obtain ⟨cq_12, kq_12, q_12a, q_12b, q_12c⟩ := isOf hZ rfl p_4_1
          obtain ⟨_, _, ⟨T_12, L_12, k_12, n_12⟩, -, X_12, ⟨Lc_12, hQ_12, l_12, y_12, z_12⟩, st_12⟩ := X_4.virtualBack hx (y := (⟨"com/example/filigree/filigree/engine/MatchPlan$Span", "fixed", "()Z"⟩ : MethodName)) (z := (⟨"com/example/filigree/filigree/engine/MatchPlan$Span", "fixed", "()Z"⟩ : MethodName)) hown (mvT hZ (hw _ (List.mem_of_getElem? (i := 19) rfl))) (mvT hZ (hw _ (List.mem_of_getElem? (i := 20) rfl))) (notFace_of_selects (args := #[]) (mvT hZ (hw _ (List.mem_of_getElem? (i := 22) rfl)))) (mvT hZ (hw _ (List.mem_of_getElem? (i := 22) rfl))) (mvT hZ (hw _ (List.mem_of_getElem? (i := 21) rfl))) (by decide) (backOf (W := 0) (rm_fx l Z a0 hw [] b_1 f5 f7 T_4.heap n0 Z_5 p_4_2 p_4_3) hZ (hw _ (List.mem_of_getElem? (i := 23) rfl)) (hw _ (List.mem_of_getElem? (i := 2) rfl)) (by decide) (by decide)) q_12a q_12c (g := (mkF m 114 #[.val (.long x0), .second, .val (.long y0), .second, .val (.int kk), .val (.long f5), .second, .val (.long f7), .second, .val (.int (kk &&& (3 : Int32))), .val (.ref b_1), .val (.int (1 : Int32)), .val (.int (0 : Int32))] [(.ref b_1)])) rfl (by rw [hml]; rfl) (Steps.refl _) (argsL := []) (rest := []) (lenOf pd__Z rfl) rfl (by show 2 * 0 + _ ≤ _; exact Nat.le_of_eq rfl) (hb hby at_114) (fun _ _ => ⟨rfl, rfl, (by decide : 1 + 0 ≤ _), (by decide : 2 + 0 ≤ _)⟩)
          dsimp only [Pt.U, Pt.locs, Pt.cells, Pt.slots] at X_12 l_12 y_12 z_12 st_12 hQ_12
          subst l_12 y_12 z_12
          obtain ⟨rfl, N_12q, p_12_0⟩ := hQ_12
          have N_12 := Fr.app N_4 N_12q
          refine own_go (S' := T_12.setTop (mkF m 140 #[.val (.long x0), .second, .val (.long y0), .second, .val (.int kk), .val (.long f5), .second, .val (.long f7), .second, .val (.int (kk &&& (3 : Int32))), .val (.ref b_1), .val (.int (1 : Int32)), .val (.int (0 : Int32))] [(.int (1 : Int32))])) (fun target kt => ?_) ?_
          · show Steps p.tables e below (T_4.setTop (mkF m 102 #[.val (.long x0), .second, .val (.long y0), .second, .val (.int kk), .val (.long f5), .second, .val (.long f7), .second, .val (.int (kk &&& (3 : Int32))), .val (.ref b_1), .val (.int (1 : Int32)), .unset] [(.int (lcmpW f7 (9223372036854775807 : Int64)))])) target
            refine XS.ifYes X_4.here hx rfl (pc0 := 102) (pc' := 109) rfl (hb hby at_102) rfl ((if0 _ _).trans (flt (own_l4 hc102)).2.1) (by decide) (by decide) ?_
            show Steps p.tables e below (T_4.setTop (mkF m 109 #[.val (.long x0), .second, .val (.long y0), .second, .val (.int kk), .val (.long f5), .second, .val (.long f7), .second, .val (.int (kk &&& (3 : Int32))), .val (.ref b_1), .val (.int (1 : Int32)), .unset] [])) target
            refine XS.iconst X_4.here hx rfl (hb hby at_109) ?_
            show Steps p.tables e below (T_4.setTop (mkF m 110 #[.val (.long x0), .second, .val (.long y0), .second, .val (.int kk), .val (.long f5), .second, .val (.long f7), .second, .val (.int (kk &&& (3 : Int32))), .val (.ref b_1), .val (.int (1 : Int32)), .unset] [(.int (0 : Int32))])) target
            refine XS.istore X_4.here hx rfl (hb hby at_110) rfl (l' := #[.val (.long x0), .second, .val (.long y0), .second, .val (.int kk), .val (.long f5), .second, .val (.long f7), .second, .val (.int (kk &&& (3 : Int32))), .val (.ref b_1), .val (.int (1 : Int32)), .val (.int (0 : Int32))]) rfl ?_
            show Steps p.tables e below (T_4.setTop (mkF m 112 #[.val (.long x0), .second, .val (.long y0), .second, .val (.int kk), .val (.long f5), .second, .val (.long f7), .second, .val (.int (kk &&& (3 : Int32))), .val (.ref b_1), .val (.int (1 : Int32)), .val (.int (0 : Int32))] [])) target
            refine XS.aload X_4.here hx rfl (hb hby at_112) rfl rfl ?_
            show Steps p.tables e below (T_4.setTop (mkF m 114 #[.val (.long x0), .second, .val (.long y0), .second, .val (.int kk), .val (.long f5), .second, .val (.long f7), .second, .val (.int (kk &&& (3 : Int32))), .val (.ref b_1), .val (.int (1 : Int32)), .val (.int (0 : Int32))] [(.ref b_1)])) target
            refine st_12.trans ?_
            show Steps p.tables e below (T_12.setTop (mkF m 117 #[.val (.long x0), .second, .val (.long y0), .second, .val (.int kk), .val (.long f5), .second, .val (.long f7), .second, .val (.int (kk &&& (3 : Int32))), .val (.ref b_1), .val (.int (1 : Int32)), .val (.int (0 : Int32))] [(.int (own_fx f5 f7))])) target
            refine XS.iload X_12.here hx rfl (hb hby at_117) rfl ?_
            show Steps p.tables e below (T_12.setTop (mkF m 119 #[.val (.long x0), .second, .val (.long y0), .second, .val (.int kk), .val (.long f5), .second, .val (.long f7), .second, .val (.int (kk &&& (3 : Int32))), .val (.ref b_1), .val (.int (1 : Int32)), .val (.int (0 : Int32))] [(.int (1 : Int32)), (.int (own_fx f5 f7))])) target
            refine XS.ifNo X_12.here hx rfl (hb hby at_119) rfl ((if0 _ _).trans (feq (by decide : ¬ ((1 : Int32) = (0 : Int32)))).1) ?_
            show Steps p.tables e below (T_12.setTop (mkF m 122 #[.val (.long x0), .second, .val (.long y0), .second, .val (.int kk), .val (.long f5), .second, .val (.long f7), .second, .val (.int (kk &&& (3 : Int32))), .val (.ref b_1), .val (.int (1 : Int32)), .val (.int (0 : Int32))] [(.int (own_fx f5 f7))])) target
            refine XS.iload X_12.here hx rfl (hb hby at_122) rfl ?_
            show Steps p.tables e below (T_12.setTop (mkF m 124 #[.val (.long x0), .second, .val (.long y0), .second, .val (.int kk), .val (.long f5), .second, .val (.long f7), .second, .val (.int (kk &&& (3 : Int32))), .val (.ref b_1), .val (.int (1 : Int32)), .val (.int (0 : Int32))] [(.int (0 : Int32)), (.int (own_fx f5 f7))])) target
            refine XS.ifYes X_12.here hx rfl (pc0 := 124) (pc' := 131) rfl (hb hby at_124) rfl ((if0 _ _).trans (teq (by decide : (0 : Int32) = (0 : Int32))).1) (by decide) (by decide) ?_
            show Steps p.tables e below (T_12.setTop (mkF m 131 #[.val (.long x0), .second, .val (.long y0), .second, .val (.int kk), .val (.long f5), .second, .val (.long f7), .second, .val (.int (kk &&& (3 : Int32))), .val (.ref b_1), .val (.int (1 : Int32)), .val (.int (0 : Int32))] [(.int (own_fx f5 f7))])) target
            refine XS.iconst X_12.here hx rfl (hb hby at_131) ?_
            show Steps p.tables e below (T_12.setTop (mkF m 132 #[.val (.long x0), .second, .val (.long y0), .second, .val (.int kk), .val (.long f5), .second, .val (.long f7), .second, .val (.int (kk &&& (3 : Int32))), .val (.ref b_1), .val (.int (1 : Int32)), .val (.int (0 : Int32))] [(.int (0 : Int32)), (.int (own_fx f5 f7))])) target
            refine XS.icmpNo X_12.here hx rfl (hb hby at_132) rfl (teq (own_fx0 (Or.inr (Or.inr hc102)) : (own_fx f5 f7) = (0 : Int32))).2 ?_
            show Steps p.tables e below (T_12.setTop (mkF m 135 #[.val (.long x0), .second, .val (.long y0), .second, .val (.int kk), .val (.long f5), .second, .val (.long f7), .second, .val (.int (kk &&& (3 : Int32))), .val (.ref b_1), .val (.int (1 : Int32)), .val (.int (0 : Int32))] [])) target
            refine XS.iconst X_12.here hx rfl (hb hby at_135) ?_
            show Steps p.tables e below (T_12.setTop (mkF m 136 #[.val (.long x0), .second, .val (.long y0), .second, .val (.int kk), .val (.long f5), .second, .val (.long f7), .second, .val (.int (kk &&& (3 : Int32))), .val (.ref b_1), .val (.int (1 : Int32)), .val (.int (0 : Int32))] [(.int (1 : Int32))])) target
            refine XS.goto X_12.here hx rfl (pc0 := 136) (pc' := 140) rfl (hb hby at_136) (by decide) (by decide) ?_
            show Steps p.tables e below (T_12.setTop (mkF m 140 #[.val (.long x0), .second, .val (.long y0), .second, .val (.int kk), .val (.long f5), .second, .val (.long f7), .second, .val (.int (kk &&& (3 : Int32))), .val (.ref b_1), .val (.int (1 : Int32)), .val (.int (0 : Int32))] [(.int (1 : Int32))])) target
            exact kt
          obtain ⟨fs, hr, hrun, hended, hW, hsame⟩ := X_12.leave (v := some (.int (1 : Int32))) (fun h => by rw [Bd.returns] at h; cases h)
          refine ⟨_, _, retN X_12 hx (t := .boolean) Bd.returns (by simp) (hb hby at_140) hr, hrun, hended, _, _, rfl, ?_, ⟨_, rfl⟩, hW, hsame.mono (by decide) (by decide)⟩
          show Q_law Z x0 y0 kk h0 n0 _ T_12.heap _
          rw [p_12_0]
          exact ⟨rfl, N_12⟩
  · intro J60
    refine own_go (S' := s₁.setTop (mkF m 8 #[.val (.long x0), .second, .val (.long y0), .second, .val (.int kk), .unset, .unset, .unset, .unset, .val (.int (kk &&& (3 : Int32))), .unset, .unset, .unset] [(.int (kk &&& (3 : Int32)))])) (fun target kt => ?_) ?_
    · show Steps p.tables e below (s₁.setTop (mkF m 6 #[.val (.long x0), .second, .val (.long y0), .second, .val (.int kk), .unset, .unset, .unset, .unset, .val (.int (kk &&& (3 : Int32))), .unset, .unset, .unset] [])) target
      refine XS.iload X0.here hx rfl (hb hby at_6) rfl ?_
      show Steps p.tables e below (s₁.setTop (mkF m 8 #[.val (.long x0), .second, .val (.long y0), .second, .val (.int kk), .unset, .unset, .unset, .unset, .val (.int (kk &&& (3 : Int32))), .unset, .unset, .unset] [(.int (kk &&& (3 : Int32)))])) target
      exact kt
    by_cases hc8 : (kk &&& (3 : Int32)) = (0 : Int32)
    · -- pc 8: yes
      refine own_go (S' := s₁.setTop (mkF m 60 #[.val (.long x0), .second, .val (.long y0), .second, .val (.int kk), .val (.long x0), .second, .val (.long x0), .second, .val (.int (kk &&& (3 : Int32))), .unset, .unset, .unset] [])) (fun target kt => ?_) ?_
      · show Steps p.tables e below (s₁.setTop (mkF m 8 #[.val (.long x0), .second, .val (.long y0), .second, .val (.int kk), .unset, .unset, .unset, .unset, .val (.int (kk &&& (3 : Int32))), .unset, .unset, .unset] [(.int (kk &&& (3 : Int32)))])) target
        refine XS.ifNo X0.here hx rfl (hb hby at_8) rfl ((if0 _ _).trans (teq hc8).2) ?_
        show Steps p.tables e below (s₁.setTop (mkF m 11 #[.val (.long x0), .second, .val (.long y0), .second, .val (.int kk), .unset, .unset, .unset, .unset, .val (.int (kk &&& (3 : Int32))), .unset, .unset, .unset] [])) target
        refine XS.lloadN X0.here hx rfl (hb hby at_11) rfl ?_
        show Steps p.tables e below (s₁.setTop (mkF m 12 #[.val (.long x0), .second, .val (.long y0), .second, .val (.int kk), .unset, .unset, .unset, .unset, .val (.int (kk &&& (3 : Int32))), .unset, .unset, .unset] [(.long x0)])) target
        refine XS.lstore X0.here hx rfl (hb hby at_12) rfl (l' := #[.val (.long x0), .second, .val (.long y0), .second, .val (.int kk), .val (.long x0), .second, .unset, .unset, .val (.int (kk &&& (3 : Int32))), .unset, .unset, .unset]) rfl ?_
        show Steps p.tables e below (s₁.setTop (mkF m 14 #[.val (.long x0), .second, .val (.long y0), .second, .val (.int kk), .val (.long x0), .second, .unset, .unset, .val (.int (kk &&& (3 : Int32))), .unset, .unset, .unset] [])) target
        refine XS.lloadN X0.here hx rfl (hb hby at_14) rfl ?_
        show Steps p.tables e below (s₁.setTop (mkF m 15 #[.val (.long x0), .second, .val (.long y0), .second, .val (.int kk), .val (.long x0), .second, .unset, .unset, .val (.int (kk &&& (3 : Int32))), .unset, .unset, .unset] [(.long x0)])) target
        refine XS.lstore X0.here hx rfl (hb hby at_15) rfl (l' := #[.val (.long x0), .second, .val (.long y0), .second, .val (.int kk), .val (.long x0), .second, .val (.long x0), .second, .val (.int (kk &&& (3 : Int32))), .unset, .unset, .unset]) rfl ?_
        show Steps p.tables e below (s₁.setTop (mkF m 17 #[.val (.long x0), .second, .val (.long y0), .second, .val (.int kk), .val (.long x0), .second, .val (.long x0), .second, .val (.int (kk &&& (3 : Int32))), .unset, .unset, .unset] [])) target
        refine XS.goto X0.here hx rfl (pc0 := 17) (pc' := 60) rfl (hb hby at_17) (by decide) (by decide) ?_
        show Steps p.tables e below (s₁.setTop (mkF m 60 #[.val (.long x0), .second, .val (.long y0), .second, .val (.int kk), .val (.long x0), .second, .val (.long x0), .second, .val (.int (kk &&& (3 : Int32))), .unset, .unset, .unset] [])) target
        exact kt
      exact J60 (x0, x0) trivial
    · -- pc 8: no
      refine own_go (S' := s₁.setTop (mkF m 23 #[.val (.long x0), .second, .val (.long y0), .second, .val (.int kk), .unset, .unset, .unset, .unset, .val (.int (kk &&& (3 : Int32))), .unset, .unset, .unset] [(.int (1 : Int32)), (.int (kk &&& (3 : Int32)))])) (fun target kt => ?_) ?_
      · show Steps p.tables e below (s₁.setTop (mkF m 8 #[.val (.long x0), .second, .val (.long y0), .second, .val (.int kk), .unset, .unset, .unset, .unset, .val (.int (kk &&& (3 : Int32))), .unset, .unset, .unset] [(.int (kk &&& (3 : Int32)))])) target
        refine XS.ifYes X0.here hx rfl (pc0 := 8) (pc' := 20) rfl (hb hby at_8) rfl ((if0 _ _).trans (feq hc8).2) (by decide) (by decide) ?_
        show Steps p.tables e below (s₁.setTop (mkF m 20 #[.val (.long x0), .second, .val (.long y0), .second, .val (.int kk), .unset, .unset, .unset, .unset, .val (.int (kk &&& (3 : Int32))), .unset, .unset, .unset] [])) target
        refine XS.iload X0.here hx rfl (hb hby at_20) rfl ?_
        show Steps p.tables e below (s₁.setTop (mkF m 22 #[.val (.long x0), .second, .val (.long y0), .second, .val (.int kk), .unset, .unset, .unset, .unset, .val (.int (kk &&& (3 : Int32))), .unset, .unset, .unset] [(.int (kk &&& (3 : Int32)))])) target
        refine XS.iconst X0.here hx rfl (hb hby at_22) ?_
        show Steps p.tables e below (s₁.setTop (mkF m 23 #[.val (.long x0), .second, .val (.long y0), .second, .val (.int kk), .unset, .unset, .unset, .unset, .val (.int (kk &&& (3 : Int32))), .unset, .unset, .unset] [(.int (1 : Int32)), (.int (kk &&& (3 : Int32)))])) target
        exact kt
      by_cases hc23 : (kk &&& (3 : Int32)) = (1 : Int32)
      · -- pc 23: yes
        refine own_go (S' := s₁.setTop (mkF m 60 #[.val (.long x0), .second, .val (.long y0), .second, .val (.int kk), .val (.long x0), .second, .val (.long y0), .second, .val (.int (kk &&& (3 : Int32))), .unset, .unset, .unset] [])) (fun target kt => ?_) ?_
        · show Steps p.tables e below (s₁.setTop (mkF m 23 #[.val (.long x0), .second, .val (.long y0), .second, .val (.int kk), .unset, .unset, .unset, .unset, .val (.int (kk &&& (3 : Int32))), .unset, .unset, .unset] [(.int (1 : Int32)), (.int (kk &&& (3 : Int32)))])) target
          refine XS.icmpNo X0.here hx rfl (hb hby at_23) rfl (teq hc23).2 ?_
          show Steps p.tables e below (s₁.setTop (mkF m 26 #[.val (.long x0), .second, .val (.long y0), .second, .val (.int kk), .unset, .unset, .unset, .unset, .val (.int (kk &&& (3 : Int32))), .unset, .unset, .unset] [])) target
          refine XS.lloadN X0.here hx rfl (hb hby at_26) rfl ?_
          show Steps p.tables e below (s₁.setTop (mkF m 27 #[.val (.long x0), .second, .val (.long y0), .second, .val (.int kk), .unset, .unset, .unset, .unset, .val (.int (kk &&& (3 : Int32))), .unset, .unset, .unset] [(.long x0)])) target
          refine XS.lstore X0.here hx rfl (hb hby at_27) rfl (l' := #[.val (.long x0), .second, .val (.long y0), .second, .val (.int kk), .val (.long x0), .second, .unset, .unset, .val (.int (kk &&& (3 : Int32))), .unset, .unset, .unset]) rfl ?_
          show Steps p.tables e below (s₁.setTop (mkF m 29 #[.val (.long x0), .second, .val (.long y0), .second, .val (.int kk), .val (.long x0), .second, .unset, .unset, .val (.int (kk &&& (3 : Int32))), .unset, .unset, .unset] [])) target
          refine XS.lloadN X0.here hx rfl (hb hby at_29) rfl ?_
          show Steps p.tables e below (s₁.setTop (mkF m 30 #[.val (.long x0), .second, .val (.long y0), .second, .val (.int kk), .val (.long x0), .second, .unset, .unset, .val (.int (kk &&& (3 : Int32))), .unset, .unset, .unset] [(.long y0)])) target
          refine XS.lstore X0.here hx rfl (hb hby at_30) rfl (l' := #[.val (.long x0), .second, .val (.long y0), .second, .val (.int kk), .val (.long x0), .second, .val (.long y0), .second, .val (.int (kk &&& (3 : Int32))), .unset, .unset, .unset]) rfl ?_
          show Steps p.tables e below (s₁.setTop (mkF m 32 #[.val (.long x0), .second, .val (.long y0), .second, .val (.int kk), .val (.long x0), .second, .val (.long y0), .second, .val (.int (kk &&& (3 : Int32))), .unset, .unset, .unset] [])) target
          refine XS.goto X0.here hx rfl (pc0 := 32) (pc' := 60) rfl (hb hby at_32) (by decide) (by decide) ?_
          show Steps p.tables e below (s₁.setTop (mkF m 60 #[.val (.long x0), .second, .val (.long y0), .second, .val (.int kk), .val (.long x0), .second, .val (.long y0), .second, .val (.int (kk &&& (3 : Int32))), .unset, .unset, .unset] [])) target
          exact kt
        exact J60 (x0, y0) trivial
      · -- pc 23: no
        refine own_go (S' := s₁.setTop (mkF m 38 #[.val (.long x0), .second, .val (.long y0), .second, .val (.int kk), .unset, .unset, .unset, .unset, .val (.int (kk &&& (3 : Int32))), .unset, .unset, .unset] [(.int (2 : Int32)), (.int (kk &&& (3 : Int32)))])) (fun target kt => ?_) ?_
        · show Steps p.tables e below (s₁.setTop (mkF m 23 #[.val (.long x0), .second, .val (.long y0), .second, .val (.int kk), .unset, .unset, .unset, .unset, .val (.int (kk &&& (3 : Int32))), .unset, .unset, .unset] [(.int (1 : Int32)), (.int (kk &&& (3 : Int32)))])) target
          refine XS.icmpYes X0.here hx rfl (pc0 := 23) (pc' := 35) rfl (hb hby at_23) rfl (feq hc23).2 (by decide) (by decide) ?_
          show Steps p.tables e below (s₁.setTop (mkF m 35 #[.val (.long x0), .second, .val (.long y0), .second, .val (.int kk), .unset, .unset, .unset, .unset, .val (.int (kk &&& (3 : Int32))), .unset, .unset, .unset] [])) target
          refine XS.iload X0.here hx rfl (hb hby at_35) rfl ?_
          show Steps p.tables e below (s₁.setTop (mkF m 37 #[.val (.long x0), .second, .val (.long y0), .second, .val (.int kk), .unset, .unset, .unset, .unset, .val (.int (kk &&& (3 : Int32))), .unset, .unset, .unset] [(.int (kk &&& (3 : Int32)))])) target
          refine XS.iconst X0.here hx rfl (hb hby at_37) ?_
          show Steps p.tables e below (s₁.setTop (mkF m 38 #[.val (.long x0), .second, .val (.long y0), .second, .val (.int kk), .unset, .unset, .unset, .unset, .val (.int (kk &&& (3 : Int32))), .unset, .unset, .unset] [(.int (2 : Int32)), (.int (kk &&& (3 : Int32)))])) target
          exact kt
        by_cases hc38 : (kk &&& (3 : Int32)) = (2 : Int32)
        · -- pc 38: yes
          refine own_go (S' := s₁.setTop (mkF m 60 #[.val (.long x0), .second, .val (.long y0), .second, .val (.int kk), .val (.long (9223372036854775807 : Int64)), .second, .val (.long y0), .second, .val (.int (kk &&& (3 : Int32))), .unset, .unset, .unset] [])) (fun target kt => ?_) ?_
          · show Steps p.tables e below (s₁.setTop (mkF m 38 #[.val (.long x0), .second, .val (.long y0), .second, .val (.int kk), .unset, .unset, .unset, .unset, .val (.int (kk &&& (3 : Int32))), .unset, .unset, .unset] [(.int (2 : Int32)), (.int (kk &&& (3 : Int32)))])) target
            refine XS.icmpNo X0.here hx rfl (hb hby at_38) rfl (teq hc38).2 ?_
            show Steps p.tables e below (s₁.setTop (mkF m 41 #[.val (.long x0), .second, .val (.long y0), .second, .val (.int kk), .unset, .unset, .unset, .unset, .val (.int (kk &&& (3 : Int32))), .unset, .unset, .unset] [])) target
            refine X0.ldc2Long hx hown (mvT hZ (hw _ (List.mem_of_getElem? (i := 18) rfl))) (g := (mkF m 41 #[.val (.long x0), .second, .val (.long y0), .second, .val (.int kk), .unset, .unset, .unset, .unset, .val (.int (kk &&& (3 : Int32))), .unset, .unset, .unset] [])) rfl (hb hby at_41) _ ?_
            show Steps p.tables e below (s₁.setTop (mkF m 44 #[.val (.long x0), .second, .val (.long y0), .second, .val (.int kk), .unset, .unset, .unset, .unset, .val (.int (kk &&& (3 : Int32))), .unset, .unset, .unset] [(.long (9223372036854775807 : Int64))])) target
            refine XS.lstore X0.here hx rfl (hb hby at_44) rfl (l' := #[.val (.long x0), .second, .val (.long y0), .second, .val (.int kk), .val (.long (9223372036854775807 : Int64)), .second, .unset, .unset, .val (.int (kk &&& (3 : Int32))), .unset, .unset, .unset]) rfl ?_
            show Steps p.tables e below (s₁.setTop (mkF m 46 #[.val (.long x0), .second, .val (.long y0), .second, .val (.int kk), .val (.long (9223372036854775807 : Int64)), .second, .unset, .unset, .val (.int (kk &&& (3 : Int32))), .unset, .unset, .unset] [])) target
            refine XS.lloadN X0.here hx rfl (hb hby at_46) rfl ?_
            show Steps p.tables e below (s₁.setTop (mkF m 47 #[.val (.long x0), .second, .val (.long y0), .second, .val (.int kk), .val (.long (9223372036854775807 : Int64)), .second, .unset, .unset, .val (.int (kk &&& (3 : Int32))), .unset, .unset, .unset] [(.long y0)])) target
            refine XS.lstore X0.here hx rfl (hb hby at_47) rfl (l' := #[.val (.long x0), .second, .val (.long y0), .second, .val (.int kk), .val (.long (9223372036854775807 : Int64)), .second, .val (.long y0), .second, .val (.int (kk &&& (3 : Int32))), .unset, .unset, .unset]) rfl ?_
            show Steps p.tables e below (s₁.setTop (mkF m 49 #[.val (.long x0), .second, .val (.long y0), .second, .val (.int kk), .val (.long (9223372036854775807 : Int64)), .second, .val (.long y0), .second, .val (.int (kk &&& (3 : Int32))), .unset, .unset, .unset] [])) target
            refine XS.goto X0.here hx rfl (pc0 := 49) (pc' := 60) rfl (hb hby at_49) (by decide) (by decide) ?_
            show Steps p.tables e below (s₁.setTop (mkF m 60 #[.val (.long x0), .second, .val (.long y0), .second, .val (.int kk), .val (.long (9223372036854775807 : Int64)), .second, .val (.long y0), .second, .val (.int (kk &&& (3 : Int32))), .unset, .unset, .unset] [])) target
            exact kt
          exact J60 ((9223372036854775807 : Int64), y0) trivial
        · -- pc 38: no
          refine own_go (S' := s₁.setTop (mkF m 60 #[.val (.long x0), .second, .val (.long y0), .second, .val (.int kk), .val (.long x0), .second, .val (.long (9223372036854775807 : Int64)), .second, .val (.int (kk &&& (3 : Int32))), .unset, .unset, .unset] [])) (fun target kt => ?_) ?_
          · show Steps p.tables e below (s₁.setTop (mkF m 38 #[.val (.long x0), .second, .val (.long y0), .second, .val (.int kk), .unset, .unset, .unset, .unset, .val (.int (kk &&& (3 : Int32))), .unset, .unset, .unset] [(.int (2 : Int32)), (.int (kk &&& (3 : Int32)))])) target
            refine XS.icmpYes X0.here hx rfl (pc0 := 38) (pc' := 52) rfl (hb hby at_38) rfl (feq hc38).2 (by decide) (by decide) ?_
            show Steps p.tables e below (s₁.setTop (mkF m 52 #[.val (.long x0), .second, .val (.long y0), .second, .val (.int kk), .unset, .unset, .unset, .unset, .val (.int (kk &&& (3 : Int32))), .unset, .unset, .unset] [])) target
            refine XS.lloadN X0.here hx rfl (hb hby at_52) rfl ?_
            show Steps p.tables e below (s₁.setTop (mkF m 53 #[.val (.long x0), .second, .val (.long y0), .second, .val (.int kk), .unset, .unset, .unset, .unset, .val (.int (kk &&& (3 : Int32))), .unset, .unset, .unset] [(.long x0)])) target
            refine XS.lstore X0.here hx rfl (hb hby at_53) rfl (l' := #[.val (.long x0), .second, .val (.long y0), .second, .val (.int kk), .val (.long x0), .second, .unset, .unset, .val (.int (kk &&& (3 : Int32))), .unset, .unset, .unset]) rfl ?_
            show Steps p.tables e below (s₁.setTop (mkF m 55 #[.val (.long x0), .second, .val (.long y0), .second, .val (.int kk), .val (.long x0), .second, .unset, .unset, .val (.int (kk &&& (3 : Int32))), .unset, .unset, .unset] [])) target
            refine X0.ldc2Long hx hown (mvT hZ (hw _ (List.mem_of_getElem? (i := 18) rfl))) (g := (mkF m 55 #[.val (.long x0), .second, .val (.long y0), .second, .val (.int kk), .val (.long x0), .second, .unset, .unset, .val (.int (kk &&& (3 : Int32))), .unset, .unset, .unset] [])) rfl (hb hby at_55) _ ?_
            show Steps p.tables e below (s₁.setTop (mkF m 58 #[.val (.long x0), .second, .val (.long y0), .second, .val (.int kk), .val (.long x0), .second, .unset, .unset, .val (.int (kk &&& (3 : Int32))), .unset, .unset, .unset] [(.long (9223372036854775807 : Int64))])) target
            refine XS.lstore X0.here hx rfl (hb hby at_58) rfl (l' := #[.val (.long x0), .second, .val (.long y0), .second, .val (.int kk), .val (.long x0), .second, .val (.long (9223372036854775807 : Int64)), .second, .val (.int (kk &&& (3 : Int32))), .unset, .unset, .unset]) rfl ?_
            show Steps p.tables e below (s₁.setTop (mkF m 60 #[.val (.long x0), .second, .val (.long y0), .second, .val (.int kk), .val (.long x0), .second, .val (.long (9223372036854775807 : Int64)), .second, .val (.int (kk &&& (3 : Int32))), .unset, .unset, .unset] [])) target
            exact kt
          exact J60 (x0, (9223372036854775807 : Int64)) trivial
set_option maxRecDepth 65536 in
set_option maxHeartbeats 40000000 in
theorem comes_1 {Post : Tables → Env → Array Value → State → Outcome → State → Prop} (hpost : ∀ tb e args s v u, (limb_1_1.after args s (.returned v) u = true ∧ limb_1_2.after args s (.returned v) u = true ∧ True) → FrameEnd s (.returned v) u (Jvm.fieldLocs frame_1_writes args s ++ Jvm.arrayLocs frame_1_arrays args s ++ Jvm.staticLocs frame_1_statics s) 16 128 → Post tb e args s (.returned v) u) :
    ArmFor flags0 classFile x code maxLocals ret World_1 tables_1 room_1 Calls_1 rest_1 Pre_1 Post := by
  intro l hfl _ _ p e ha hc hk s m args below hf hA hF happ hP
  obtain ⟨hcalls, hrest, hpre⟩ := hP
  obtain ⟨-, -, -, hnamed, -, -, -, hat⟩ := (Spec.applies_iff hf).mp happ
  obtain ⟨hg, hn⟩ := and_e (Cond.before_iff.mp (show (Jvm.Cond.and given_1 narrow_1).before args s = true from hpre))
  obtain ⟨gc0, gd0⟩ := and_e hg
  obtain ⟨gc1, gd1⟩ := and_e gd0
  obtain ⟨gc2, gd2⟩ := and_e gd1
  obtain ⟨w0, w1, w2, rfl⟩ : ∃ w0 w1 w2 : Value, args = #[w0, w1, w2] := by
    have hs : args.size = 3 := by simpa [Cond.value, given_1] using gc0
    obtain ⟨L⟩ := args
    match L, hs with
    | [w0, w1, w2], _ => exact ⟨w0, w1, w2, rfl⟩
  have hw := fun d (hd : d ∈ tables_1) => atoms_spec (ws := Jvm.Cond.code x code maxLocals ret :: tables_1) hat d (List.mem_cons_of_mem _ hd)
  obtain ⟨i0, ei0⟩ := isL_v gc1
  obtain rfl : w0 = (.long i0) := Option.some.inj ei0
  obtain ⟨i1, ei1⟩ := isL_v gc2
  obtain rfl : w1 = (.long i1) := Option.some.inj ei1
  obtain ⟨i2, ei2⟩ := is_v gd2
  obtain rfl : w2 = (.int i2) := Option.some.inj ei2
  obtain ⟨n, o, h1, h2, h3, _, L, rfl, ⟨rfl, N⟩, hq⟩ := rm_law l s _ hw tables_1 i0 i1 i2 s.heap s.heap.size (Nat.le_refl _) p e ha hc hk s m _ below hf ((Spec.applies_iff_loose hf).mp happ).1 ⟨rfl, State.Warmed39.refl s, rfl⟩ trivial
  refine ⟨n, _, h1, h2, h3, hpost _ _ _ _ _ _ ⟨Cond.after_iff.mpr rfl, Cond.after_iff.mpr (eq_i res_at (Term.int_eval (1)) rfl), trivial⟩ ⟨hq.1, hq.2.1, (hq.2.2.sift fun y hy => Or.inr (N y hy)).mono (by decide) (by decide)⟩⟩
theorem main_1_1 : Claimed_1_1 := comes_1 fun _ _ _ _ _ _ h hF => ⟨h.1, hF⟩
theorem main_1_2 : Claimed_1_2 := comes_1 fun _ _ _ _ _ _ h hF => ⟨h.2.1, hF⟩
end Jvm.Pilot.@@N@@
namespace Jvm.Pilot.@@N@@
open Jvm Jvm.ClassFile Sem Op Lib Jvm.Free Jvm.Stand Jvm.Pilot.@@N@@.Jvm.D
/-! MADE BY PROGRAM (witnessworld.py) out of the Statement's table words and the real class files: 10 classes; the members and pool entries that the words name. The judged class is class 1, her method 1. -/
namespace start1
open Jvm.ClassFile
def u (s : String) : CpInfo := .utf8 (stringToUtf16 s)
/-- a pool by its gaps: so many unusable entries, then the entry; so many at the end -/
def gap : Nat → List CpInfo → List CpInfo
  | 0, r => r
  | n + 1, r => .unusable :: gap n r
def poolList (es : List (Nat × CpInfo)) (last : Nat) : List CpInfo := es.foldr (fun e r => gap e.1 (e.2 :: r)) (gap last [])
def pool (es : List (Nat × CpInfo)) (last : Nat) : Array CpInfo := ⟨poolList es last⟩
def fileOf (pool : Array CpInfo) (this : Nat) (attrs : Array Attribute := #[]) (ms : Array MethodInfo := #[]) (fl : Nat := 33) (sup : Nat := 0) (ifs : Array Nat := #[]) (fds : Array FieldInfo := #[]) : ClassFile where
  minorVersion := 0
  majorVersion := 65
  constantPool := pool
  accessFlags := fl
  thisClass := this
  superClass := sup
  interfaces := ifs
  fields := fds
  methods := ms
  attributes := attrs
def plain (name : String) (sup : Option ClassId) : Class where
  name := name
  kind := .ordinary
  loader := none
  accessFlags := 33
  super := sup
  interfaces := #[]
  cf := none
  fields := #[]
  methods := #[]
  instanceTypes := #[]
  staticTypes := #[]
  resolved := #[]
  callSites := []
  init := .initialized
  statics := none
  mirror := none

def pool0 : Array CpInfo := pool [(5, u "<init>"), (0, u "()V"), (1, .class_ 10), (1, u "java/lang/Object")] 113

def k0c0 : Code := { maxStack := 0, maxLocals := 1, code := object_method_1_code, exceptionTable := #[], attributes := #[] }
def k0m0 : Method := { name := "<init>", desc := "()V", sig := { parameters := [], returnType := none }, accessFlags := 1, code := some k0c0 }
/-- java/lang/Object -/
def k0 : Class := { plain "java/lang/Object" none with
  accessFlags := 33
  interfaces := #[]
  cf := some (fileOf pool0 8 #[] #[{ accessFlags := 1, nameIndex := 5, descriptorIndex := 6, attributes := #[] }] 33 0 #[] #[])
  fields := #[]
  methods := #[k0m0]
  instanceTypes := #[]
  staticTypes := #[]
  resolved := Array.replicate 124 none
  statics := none }

def pool1 : Array CpInfo := pool [(2, .class_ 4), (1, u "java/lang/Object"), (0, u "<init>"), (0, u "()V"), (2, .long 9223372036854775807), (1, .class_ 12), (0, u "com/example/filigree/filigree/engine/MatchPlan$Span"), (0, .methodref 11 14), (0, .nameAndType 5 15), (0, u "(JJ)V"), (0, .methodref 11 17), (0, .nameAndType 18 19), (0, u "fixed"), (0, u "()Z"), (0, .class_ 21), (0, u "com/example/filigree/filigree/engine/SpanFixedPinLaw"), (2, u "law"), (0, u "(JJI)Z")] 7

def k1m0 : Method := { name := "<init>", desc := "()V", sig := { parameters := [], returnType := none }, accessFlags := 1, code := none }
def k1c1 : Code := { maxStack := 6, maxLocals := 13, code := code, exceptionTable := #[], attributes := #[] }
def k1m1 : Method := { name := "law", desc := "(JJI)Z", sig := { parameters := [.long, .long, .int], returnType := some .boolean }, accessFlags := 9, code := some k1c1 }
/-- com/example/filigree/filigree/engine/SpanFixedPinLaw -/
def k1 : Class := { plain "com/example/filigree/filigree/engine/SpanFixedPinLaw" (some 0) with
  accessFlags := 49
  interfaces := #[]
  cf := some (fileOf pool1 20 #[] #[{ accessFlags := 1, nameIndex := 5, descriptorIndex := 6, attributes := #[] }, { accessFlags := 9, nameIndex := 24, descriptorIndex := 25, attributes := #[] }] 49 2 #[] #[])
  fields := #[]
  methods := #[k1m0, k1m1]
  instanceTypes := #[]
  staticTypes := #[]
  resolved := Array.replicate 33 none
  statics := none }

def pool2 : Array CpInfo := pool [(1, .methodref 2 3), (0, .class_ 4), (0, .nameAndType 5 6), (0, u "java/lang/Object"), (0, u "<init>"), (0, u "()V"), (0, .class_ 8), (0, u "java/lang/Record")] 13

def k2c0 : Code := { maxStack := 1, maxLocals := 1, code := jdk_30_method_1_code, exceptionTable := #[], attributes := #[] }
def k2m0 : Method := { name := "<init>", desc := "()V", sig := { parameters := [], returnType := none }, accessFlags := 4, code := some k2c0 }
/-- java/lang/Record -/
def k2 : Class := { plain "java/lang/Record" (some 0) with
  accessFlags := 1057
  interfaces := #[]
  cf := some (fileOf pool2 7 #[] #[{ accessFlags := 4, nameIndex := 5, descriptorIndex := 6, attributes := #[] }] 1057 2 #[] #[])
  fields := #[]
  methods := #[k2m0]
  instanceTypes := #[]
  staticTypes := #[]
  resolved := Array.replicate 22 none
  statics := none }

def pool3 : Array CpInfo := pool [(1, .methodref 2 3), (0, .class_ 4), (0, .nameAndType 5 6), (0, u "java/lang/Record"), (0, u "<init>"), (0, u "()V"), (0, .fieldref 8 9), (0, .class_ 10), (0, .nameAndType 11 12), (0, u "com/example/filigree/filigree/engine/MatchPlan$Span"), (0, u "fewest"), (0, u "J"), (0, .fieldref 8 14), (0, .nameAndType 15 12), (0, u "most"), (6, u "(JJ)V"), (13, .long 9223372036854775807), (15, u "NONE"), (0, u "Lcom/example/filigree/filigree/engine/MatchPlan$Span;"), (2, u "ONE"), (8, u "fixed"), (0, u "()Z"), (11, .class_ 79), (0, u "com/example/filigree/filigree/engine/MatchPlan")] 20

def k3c0 : Code := { maxStack := 3, maxLocals := 5, code := prog_31_method_1_code, exceptionTable := #[], attributes := #[] }
def k3m0 : Method := { name := "<init>", desc := "(JJ)V", sig := { parameters := [.long, .long], returnType := none }, accessFlags := 0, code := some k3c0 }
def k3c1 : Code := { maxStack := 4, maxLocals := 1, code := prog_31_method_5_code, exceptionTable := #[], attributes := #[] }
def k3m1 : Method := { name := "fixed", desc := "()Z", sig := { parameters := [], returnType := some .boolean }, accessFlags := 0, code := some k3c1 }
/-- com/example/filigree/filigree/engine/MatchPlan$Span -/
def k3 : Class := { plain "com/example/filigree/filigree/engine/MatchPlan$Span" (some 2) with
  accessFlags := 48
  interfaces := #[]
  cf := some (fileOf pool3 8 #[.nestHost 78] #[{ accessFlags := 0, nameIndex := 5, descriptorIndex := 22, attributes := #[] }, { accessFlags := 0, nameIndex := 65, descriptorIndex := 66, attributes := #[] }] 48 2 #[] #[{ accessFlags := 18, nameIndex := 11, descriptorIndex := 12, attributes := #[] }, { accessFlags := 18, nameIndex := 15, descriptorIndex := 12, attributes := #[] }, { accessFlags := 24, nameIndex := 52, descriptorIndex := 53, attributes := #[] }, { accessFlags := 24, nameIndex := 56, descriptorIndex := 53, attributes := #[] }])
  fields := #[{ name := "fewest", type := .long, accessFlags := 18, slot := 0, constantValue := 0 }, { name := "most", type := .long, accessFlags := 18, slot := 1, constantValue := 0 }, { name := "NONE", type := (.object "com/example/filigree/filigree/engine/MatchPlan$Span"), accessFlags := 24, slot := 0, constantValue := 0 }, { name := "ONE", type := (.object "com/example/filigree/filigree/engine/MatchPlan$Span"), accessFlags := 24, slot := 1, constantValue := 0 }]
  methods := #[k3m0, k3m1]
  instanceTypes := #[.long, .long]
  staticTypes := #[(.object "com/example/filigree/filigree/engine/MatchPlan$Span"), (.object "com/example/filigree/filigree/engine/MatchPlan$Span")]
  resolved := Array.replicate 100 none
  statics := none }

def pool4 : Array CpInfo := pool [(1, u "java/lang/Cloneable"), (0, .class_ 1), (0, u "java/lang/Object"), (0, .class_ 3)] 3

/-- java/lang/Cloneable -/
def k4 : Class := { plain "java/lang/Cloneable" (some 0) with
  accessFlags := 1537
  interfaces := #[]
  cf := some (fileOf pool4 2 #[] #[] 1537 4 #[] #[])
  fields := #[]
  methods := #[]
  instanceTypes := #[]
  staticTypes := #[]
  resolved := Array.replicate 8 none
  statics := none }

def pool5 : Array CpInfo := pool [(1, u "java/io/Serializable"), (0, .class_ 1), (0, u "java/lang/Object"), (0, .class_ 3)] 3

/-- java/io/Serializable -/
def k5 : Class := { plain "java/io/Serializable" (some 0) with
  accessFlags := 1537
  interfaces := #[]
  cf := some (fileOf pool5 2 #[] #[] 1537 4 #[] #[])
  fields := #[]
  methods := #[]
  instanceTypes := #[]
  staticTypes := #[]
  resolved := Array.replicate 8 none
  statics := none }

/-- the primitive byte -/
def k6 : Class := { plain "byte" none with kind := .primitive 'B', accessFlags := 0x411 }
/-- [B -/
def k7 : Class := { plain "[B" (some 0) with kind := .array 6 .byte, interfaces := #[4, 5], accessFlags := 1041 }

/-- the primitive int -/
def k8 : Class := { plain "int" none with kind := .primitive 'I', accessFlags := 0x411 }
/-- [I -/
def k9 : Class := { plain "[I" (some 0) with kind := .array 8 .int, interfaces := #[4, 5], accessFlags := 1041 }

def heap : Heap := #[]
def classes : Array Class := #[k0, k1, k2, k3, k4, k5, k6, k7, k8, k9]
def interned : List (Array UInt16 × Addr) := []
def slotsUsed : Nat := 0
def theMethod : MethodId := ⟨1, 1⟩
def args0 : Array Value := #[.long 5, .long 7, .int 1]
def aboutOver (below : List Frame) : State where
  vm := { classes := classes, interned := interned.toArray }
  heap := heap
  slotsUsed := slotsUsed
  threads := #[{ frames := .invoking theMethod args0 :: below }]
def below0 : List Frame := [.native { method := ⟨0, 0⟩, args := #[] }]
def about1 : State := aboutOver below0
def p0 : Program := .bare "" "" ""
def e0 : Env := launch0.env 0 0 0
theorem w_frames : about1.frames = Frame.invoking theMethod args0 :: below0 := rfl
set_option maxRecDepth 65536 in
theorem w_args : argsFit about1.vm theMethod args0 = true := by decide +kernel
set_option maxRecDepth 65536 in
theorem w_heap : heapFits about1 = true := by decide +kernel
set_option maxRecDepth 65536 in
theorem w_runnable : about1.curStatus? = some .runnable := by decide +kernel
set_option maxRecDepth 65536 in
theorem w_alone : about1.alone = true := by decide +kernel
set_option maxRecDepth 65536 in
theorem w_named : about1.methodNamed? x = some theMethod := by decide +kernel
set_option maxRecDepth 65536 in
theorem w_hears : about1.hears theMethod below0 = true := by decide +kernel
set_option maxRecDepth 65536 in
theorem w_ripe : about1.ripe theMethod args0 below0 = true := by decide +kernel
theorem w_running : about1.status = .running := rfl
set_option maxRecDepth 65536 in
theorem w_room : about1.hasRoom e0.platform room_1 = true :=
  launch0.hasRoom_least _ room_1 (by decide +kernel) (by decide +kernel) (by decide +kernel) (by decide +kernel) (by decide +kernel) (by decide +kernel)
theorem allAtoms_all (ts : List Jvm.Cond) (a : Array Jvm.Value) (st : Jvm.State) : (allAtoms ts).before a st = ts.all (fun c => c.before a st) := by
  induction ts with
  | nil => rfl
  | cons c t ih =>
    show (Jvm.Cond.and c (allAtoms t)).before a st = _
    rw [Jvm.Cond.before_and, ih, List.all_cons]
def words1 : List Jvm.Cond := Jvm.Cond.code x code maxLocals ret :: tables_1
/-- a 'code' word, met by the world's own term for the bytes: nothing is compared byte by byte -/
theorem code_word {y : MethodName} {bytes : ByteArray} {mx : Nat} {rt : Option FieldType} {a : Array Value} {s : State} {m : MethodId} {meth : Method} {c : Code} (h1 : s.methodNamed? y = some m) (h2 : s.vm.method? m = some meth) (h3 : meth.code = some c) (h4 : c.code = bytes)
    (h5 : (c.maxLocals == mx && c.exceptionTable.isEmpty && decide (c.maxStack ≤ mostOperands) && decide (meth.sig.returnType = rt) && !meth.locks && decide (parseMethodDescriptor y.desc = some meth.sig)) = true) : (Jvm.Cond.code y bytes mx rt).before a s = true := by
  simp only [Bool.and_eq_true, beq_iff_eq, Bool.not_eq_true', decide_eq_true_eq] at h5
  obtain ⟨⟨⟨⟨⟨g1, g2⟩, g3⟩, g4⟩, g5⟩, g6⟩ := h5
  simp [Cond.before, Cond.holds, Cond.value, h1, h2, h3, h4, g1, g2, g3, g4, g5, g6]
def isCode : Jvm.Cond → Bool
  | .code _ _ _ _ => true
  | _ => false
theorem all_split {L : List Jvm.Cond} {P : Jvm.Cond → Bool} (h1 : L.all (fun c => isCode c || P c) = true) (h2 : ∀ c ∈ L.filter isCode, P c = true) : L.all P = true := by
  refine List.all_eq_true.mpr fun c hc => ?_
  have h := List.all_eq_true.mp h1 c hc
  rcases Bool.eq_false_or_eq_true (isCode c) with hi | hi
  · exact h2 c (List.mem_filter.mpr ⟨hc, hi⟩)
  · simpa [hi] using h
set_option maxRecDepth 65536 in
theorem w_c0 : (Jvm.Cond.code x code maxLocals ret).before args0 about1 = true := code_word (m := ⟨1, 1⟩) (meth := k1m1) (c := k1c1) (by decide +kernel) rfl rfl rfl (by decide +kernel)
set_option maxRecDepth 65536 in
theorem w_c1 : (Jvm.Cond.code ({ cls := "com/example/filigree/filigree/engine/MatchPlan$Span", name := "<init>", desc := "(JJ)V" } : Jvm.MethodName) prog_31_method_1_code (5 : Nat) (Option.none : Option Jvm.ClassFile.FieldType)).before args0 about1 = true := code_word (m := ⟨3, 0⟩) (meth := k3m0) (c := k3c0) (by decide +kernel) rfl rfl rfl (by decide +kernel)
set_option maxRecDepth 65536 in
theorem w_c2 : (Jvm.Cond.code ({ cls := "java/lang/Record", name := "<init>", desc := "()V" } : Jvm.MethodName) jdk_30_method_1_code (1 : Nat) (Option.none : Option Jvm.ClassFile.FieldType)).before args0 about1 = true := code_word (m := ⟨2, 0⟩) (meth := k2m0) (c := k2c0) (by decide +kernel) rfl rfl rfl (by decide +kernel)
set_option maxRecDepth 65536 in
theorem w_c3 : (Jvm.Cond.code ({ cls := "java/lang/Object", name := "<init>", desc := "()V" } : Jvm.MethodName) object_method_1_code (1 : Nat) (Option.none : Option Jvm.ClassFile.FieldType)).before args0 about1 = true := code_word (m := ⟨0, 0⟩) (meth := k0m0) (c := k0c0) (by decide +kernel) rfl rfl rfl (by decide +kernel)
set_option maxRecDepth 65536 in
theorem w_c4 : (Jvm.Cond.code ({ cls := "com/example/filigree/filigree/engine/MatchPlan$Span", name := "fixed", desc := "()Z" } : Jvm.MethodName) prog_31_method_5_code (1 : Nat) (Option.some Jvm.ClassFile.FieldType.boolean)).before args0 about1 = true := code_word (m := ⟨3, 1⟩) (meth := k3m1) (c := k3c1) (by decide +kernel) rfl rfl rfl (by decide +kernel)
def codes1 : List Jvm.Cond := [Jvm.Cond.code x code maxLocals ret, Jvm.Cond.code ({ cls := "com/example/filigree/filigree/engine/MatchPlan$Span", name := "<init>", desc := "(JJ)V" } : Jvm.MethodName) prog_31_method_1_code (5 : Nat) (Option.none : Option Jvm.ClassFile.FieldType), Jvm.Cond.code ({ cls := "java/lang/Record", name := "<init>", desc := "()V" } : Jvm.MethodName) jdk_30_method_1_code (1 : Nat) (Option.none : Option Jvm.ClassFile.FieldType), Jvm.Cond.code ({ cls := "java/lang/Object", name := "<init>", desc := "()V" } : Jvm.MethodName) object_method_1_code (1 : Nat) (Option.none : Option Jvm.ClassFile.FieldType), Jvm.Cond.code ({ cls := "com/example/filigree/filigree/engine/MatchPlan$Span", name := "fixed", desc := "()Z" } : Jvm.MethodName) prog_31_method_5_code (1 : Nat) (Option.some Jvm.ClassFile.FieldType.boolean)]
set_option maxRecDepth 65536 in
theorem codes_eq : words1.filter isCode = codes1 := rfl
theorem w_codes : ∀ c ∈ words1.filter isCode, c.before args0 about1 = true := by
  rw [codes_eq]
  intro c hc
  simp only [codes1, List.mem_cons, List.not_mem_nil, or_false] at hc
  rcases hc with rfl | rfl | rfl | rfl | rfl
  · exact w_c0
  · exact w_c1
  · exact w_c2
  · exact w_c3
  · exact w_c4
set_option maxRecDepth 65536 in
theorem w_t1 : (words1.take 24).all (fun c => isCode c || c.before args0 about1) = true := by decide +kernel
set_option maxRecDepth 65536 in
theorem w_t2 : (words1.drop 24).all (fun c => isCode c || c.before args0 about1) = true := by decide +kernel
theorem w_tables : (allAtoms (Jvm.Cond.code x code maxLocals ret :: tables_1)).before args0 about1 = true := by
  rw [allAtoms_all]
  show words1.all (fun c => c.before args0 about1) = true
  refine all_split ?_ w_codes
  rw [← List.take_append_drop 24 words1, List.all_append, w_t1, w_t2]
  rfl
set_option maxRecDepth 65536 in
theorem w_case : (Jvm.Cond.and given_1 narrow_1).before args0 about1 = true := by decide +kernel
theorem w_applies : (headSpec (Jvm.Cond.code x code maxLocals ret :: tables_1) room_1).applies x e0.platform about1 = true :=
  (Spec.applies_iff w_frames).mpr ⟨w_running, w_runnable, w_alone, w_named, w_hears, w_ripe, w_room, w_tables⟩
theorem atStart : AtStart classFile x code maxLocals ret World_1 tables_1 room_1 Calls_1 rest_1 Pre_1 launch0 p0 e0 about1 theMethod args0 below0 :=
  ⟨lists_1, trivial, launch0.admits_env _ _ _, launch0.least_env, fairChoices_fair.cas, fairChoices_fair.clock, w_frames, w_args, w_heap, w_applies, trivial, trivial, w_case⟩
end start1
theorem witness_1 : WitnessClaimed_1 := ⟨start1.p0, start1.e0, start1.about1, start1.theMethod, start1.args0, start1.below0, start1.atStart⟩
end Jvm.Pilot.@@N@@
