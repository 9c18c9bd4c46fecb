import JvmDerived
import JvmDerived.Pilot.@@N@@Statement
import JvmDerived.Pilot.@@N@@Code
set_option linter.unusedVariables false
set_option linter.unusedSimpArgs false
namespace Jvm.RoadKit
open Sem ClassFile Op Lib Jvm.Stand Jvm.Free Jvm.LawKit
section New
variable {p : Program} {l : Launch} {e : Env} {R : Room} {s : State} {m : MethodId} {args : Array Value} {below : List Frame} {meth : Method} {c : Code} {T : State} {locs : List Loc} {cells slots : Nat}
theorem retI (X : Stand p l e R s m args below meth c T locs cells slots) (hx : p.tables.exec = Jvm.exec) {pc : Nat} {Ls : Array Slot} {z : Int32} {rest : List Value} (hret : meth.sig.returnType = some .int) (hd : decode c.code pc = .ok (.ireturn, 1)) {fs : List Frame}
    (hl : ∀ (f : JFrame) (acts : List Action), f.method = m → f.locked = none → f.entered = [] → (doReturn e (T.setTop f) acts (some (.int z))).1 = T.setFrames fs) : Steps p.tables e below (T.setTop (mkF m pc Ls (.int z :: rest))) (T.setFrames fs) := by
  have hm' : T.vm.method? m = some meth := X.method'
  have hn : narrow .int (.int z) = .int z := rfl
  show Steps p.tables e below (T.setTop { method := m, pc := pc, locals := Ls, stack := _ :: rest, locked := none }) _
  jvm_step X.here [X.here.top, hx, hd, hm', hret, hn]
  first | (intro acts; rw [hl _ acts rfl rfl rfl]) | rw [hl _ _ rfl rfl rfl]
  exact Steps.refl _
end New
end Jvm.RoadKit
namespace Jvm.Pilot.@@N@@
open Jvm Jvm.ClassFile Sem Op Lib Jvm.Free Jvm.Stand Jvm.LawKit Jvm.RoadKit Bundle Jvm.Pilot.@@N@@.Jvm.D
def own_G (tb : Tables) (e : Env) (below : List Frame) (P : State → Outcome → Prop) (S : State) : Prop := ∃ t o, Steps tb e below S t ∧ P t o
theorem own_in {tb : Tables} {e : Env} {below : List Frame} {P : State → Outcome → Prop} {S : State} (h : own_G tb e below P S) : ∃ t o, Steps tb e below S t ∧ P t o := h
theorem own_go {tb : Tables} {e : Env} {below : List Frame} {P : State → Outcome → Prop} {S S' : State} (f : ∀ t, Steps tb e below S' t → Steps tb e below S t) (h : own_G tb e below P S') : own_G tb e below P S := by
  obtain ⟨t, o, st, hp⟩ := h
  exact ⟨t, o, f t st, hp⟩
theorem own_join {α : Type} {tb : Tables} {e : Env} {below : List Frame} {P : State → Outcome → Prop} {S : State} (C : α → Prop) (F : α → State) (J : ∀ a, C a → own_G tb e below P (F a)) (M : (∀ a, C a → own_G tb e below P (F a)) → own_G tb e below P S) : own_G tb e below P S := M J
theorem own_loop {α : Type} {tb : Tables} {e : Env} {below : List Frame} {P : State → Outcome → Prop} {S : State} (mu : α → Nat) (C : α → Prop) (F : α → State) (J : ∀ a, C a → (∀ b, C b → mu b < mu a → own_G tb e below P (F b)) → own_G tb e below P (F a)) (M : (∀ a, C a → own_G tb e below P (F a)) → own_G tb e below P S) : own_G tb e below P S := by
  apply M
  have q : ∀ n a, mu a < n → C a → own_G tb e below P (F a) := by
    intro n
    induction n with
    | zero => intro a h; exact absurd h (Nat.not_lt_zero _)
    | succ n ih => intro a h ha; exact J a ha fun b hb hlt => ih b (by omega) hb
  exact fun a ha => q _ a (Nat.lt_succ_self _) ha
theorem own_l1 {a b : Int64} (h : a = b) : lcmpW a b = 0 := by subst h; simp [lcmpW]
theorem own_l2 {a b : Int64} (h : ¬ a = b) : ¬ lcmpW a b = 0 := by
  unfold lcmpW; split
  · decide
  · first | (rw [if_neg h]; decide) | decide
theorem own_l3 {a b : Int64} (h : a < b) : lcmpW a b < 0 := by
  have h1 : ¬ a > b := Int64.not_lt.mpr (Int64.le_of_lt h)
  have h2 : ¬ a = b := fun q => by subst q; exact Int64.lt_irrefl h
  unfold lcmpW; rw [if_neg h1, if_neg h2]; decide
theorem own_l4 {a b : Int64} (h : ¬ a < b) : ¬ lcmpW a b < 0 := by
  unfold lcmpW; split
  · decide
  · split
    · decide
    · rename_i h1 h2
      rw [gt_iff_lt, Int64.lt_iff_toInt_lt] at h1; rw [Int64.lt_iff_toInt_lt] at h; rw [← Int64.toInt_inj] at h2; omega
theorem own_l5 {a b : Int64} (h : b < a) : 0 < lcmpW a b := by unfold lcmpW; rw [if_pos h]; decide
theorem own_l6 {a b : Int64} (h : ¬ b < a) : ¬ 0 < lcmpW a b := by
  unfold lcmpW; rw [if_neg h]; split <;> decide

theorem pd__I : parseMethodDescriptor "()I" = some ⟨[], some .int⟩ := by decide +kernel
theorem pd__V : parseMethodDescriptor "()V" = some ⟨[], none⟩ := by decide +kernel
theorem pd_IIII_V : parseMethodDescriptor "(IIII)V" = some ⟨[.int, .int, .int, .int], none⟩ := by decide +kernel
-- java/lang/Record.<init>:()V
theorem d_rec_0 : decode jdk_30_method_1_code 0 = .ok (.aload_n 0, 1) := by decide +kernel
theorem d_rec_1 : decode jdk_30_method_1_code 1 = .ok (.invokespecial 1, 3) := by decide +kernel
theorem d_rec_4 : decode jdk_30_method_1_code 4 = .ok (.return_, 1) := by decide +kernel
theorem pn_rec : plainName "java/lang/Record" = true := by first | (simp [plainName, overriddenIn]; done) | decide +kernel
theorem ef_rec (m : MethodId) (a1 : Addr) : entryFrame m #[(.ref a1)] 1 = mkF m 0 #[.val (.ref a1)] [] := by first | (simp [entryFrame, mkF, argsToLocals, Value.category]; done) | rfl
def Q_rec (Z : State) (a1 : Addr) (h0 : Heap) (n0 : Nat) (v : Option Value) (h : Heap) (L : List Loc) : Prop := v = none ∧ Fr n0 L ∧ h = h0
set_option maxRecDepth 65536 in
set_option maxHeartbeats 40000000 in
theorem rm_rec (l : Launch) (Z : State) (a0 : Array Value) (hw : ∀ d ∈ tables_1, d.before a0 Z = true) (ws : List Jvm.Cond) (a1 : Addr) (h0 : Heap) (n0 : Nat) (Z0 : n0 ≤ h0.size) :
    MetFree l (⟨"java/lang/Record", "<init>", "()V"⟩ : MethodName) (head1 (Jvm.Cond.code (⟨"java/lang/Record", "<init>", "()V"⟩ : MethodName) jdk_30_method_1_code 1 none :: ws) ({ frames := 1, cells := 0, slots := 0, locals := 12 } : Room)) (fun a U => a = #[(.ref a1)] ∧ Z.Warmed39 U.vm ∧ U.heap = h0) (fun _ _ _ _ _ => True) (fun _ U o U' => ∃ v L, o = .returned v ∧ Q_rec Z a1 h0 n0 v U'.heap L ∧ FrameEnd U o U' L ({ frames := 1, cells := 0, slots := 0, locals := 12 } : Room).cells ({ frames := 1, cells := 0, slots := 0, locals := 12 } : Room).slots) := by
  refine MetFree.of_bodySF (plainFor_of_name pn_rec) hisR ?_
  intro p e s m args below meth c s₁ Bd hml0 hP hK
  obtain ⟨rfl, hZ, hh⟩ := hP
  have hx := Bd.exec
  have hby := Bd.bytes
  have hml : c.maxLocals = 1 := hml0
  have hown : s.vm.findClass "java/lang/Record" = some m.cls := findClass_of_methodNamed Bd.named
  have hnm := (name_of_methodNamed Bd.named Bd.method).1
  have X0 : Stand p l e ({ frames := 1, cells := 0, slots := 0, locals := 12 } : Room) s m #[(.ref a1)] below meth c s₁ [] 0 0 := Stand.of_body Bd
  have e0 : s₁.heap = h0 := by rw [← hh, Bd.state]; rfl
  have N0 := Fr.nil n0
  refine own_in ?_
  refine own_go (S' := s₁.setTop (mkF m 0 #[.val (.ref a1)] [])) (fun tgt_ stp_ => castTop (ef_rec m a1) stp_) ?_
  obtain ⟨T_1, X_1, e_1, st_1⟩ := initO X0 hx hZ hown (hw _ (List.mem_of_getElem? (i := 11) rfl)) (hw _ (List.mem_of_getElem? (i := 12) rfl)) (hw _ (List.mem_of_getElem? (i := 13) rfl)) e0 (g := (mkF m 1 #[.val (.ref a1)] [(.ref a1)])) rfl (by rw [hml]; rfl) rfl (hb hby d_rec_1) (by decide) (W := 0) (by show 2 * 0 + _ ≤ _; exact Nat.le_of_eq rfl) (by decide)
  refine own_go (S' := T_1.setTop (mkF m 4 #[.val (.ref a1)] [])) (fun target kt => ?_) ?_
  · show Steps p.tables e below (s₁.setTop (mkF m 0 #[.val (.ref a1)] [])) target
    refine XS.aloadN X0.here hx rfl (hb hby d_rec_0) rfl rfl ?_
    show Steps p.tables e below (s₁.setTop (mkF m 1 #[.val (.ref a1)] [(.ref a1)])) target
    refine st_1 _ ?_
    show Steps p.tables e below (T_1.setTop (mkF m 4 #[.val (.ref a1)] [])) target
    exact kt
  obtain ⟨fs, hr, hrun, hended, hW, hsame⟩ := X_1.leave (v := none) (fun _ => rfl)
  refine ⟨_, _, X_1.returnOut hx Bd.returns (hb hby d_rec_4) hr, hrun, hended, _, _, rfl, ?_, ⟨_, rfl⟩, hW, hsame.mono (by decide) (by decide)⟩
  show Q_rec Z a1 h0 n0 _ T_1.heap _
  rw [e_1]
  exact ⟨rfl, N0, rfl⟩
-- com/example/cardwarden/cardwarden/sim/Summary.<init>:(IIII)V
theorem d_si_0 : decode prog_52_method_1_code 0 = .ok (.aload_n 0, 1) := by decide +kernel
theorem d_si_1 : decode prog_52_method_1_code 1 = .ok (.invokespecial 1, 3) := by decide +kernel
theorem d_si_4 : decode prog_52_method_1_code 4 = .ok (.aload_n 0, 1) := by decide +kernel
theorem d_si_5 : decode prog_52_method_1_code 5 = .ok (.iload_n 1, 1) := by decide +kernel
theorem d_si_6 : decode prog_52_method_1_code 6 = .ok (.putfield 7, 3) := by decide +kernel
theorem d_si_9 : decode prog_52_method_1_code 9 = .ok (.aload_n 0, 1) := by decide +kernel
theorem d_si_10 : decode prog_52_method_1_code 10 = .ok (.iload_n 2, 1) := by decide +kernel
theorem d_si_11 : decode prog_52_method_1_code 11 = .ok (.putfield 13, 3) := by decide +kernel
theorem d_si_14 : decode prog_52_method_1_code 14 = .ok (.aload_n 0, 1) := by decide +kernel
theorem d_si_15 : decode prog_52_method_1_code 15 = .ok (.iload_n 3, 1) := by decide +kernel
theorem d_si_16 : decode prog_52_method_1_code 16 = .ok (.putfield 16, 3) := by decide +kernel
theorem d_si_19 : decode prog_52_method_1_code 19 = .ok (.aload_n 0, 1) := by decide +kernel
theorem d_si_20 : decode prog_52_method_1_code 20 = .ok (.iload 4, 2) := by decide +kernel
theorem d_si_22 : decode prog_52_method_1_code 22 = .ok (.putfield 19, 3) := by decide +kernel
theorem d_si_25 : decode prog_52_method_1_code 25 = .ok (.return_, 1) := by decide +kernel
theorem pn_si : plainName "com/example/cardwarden/cardwarden/sim/Summary" = true := by first | (simp [plainName, overriddenIn]; done) | decide +kernel
theorem ef_si (m : MethodId) (a1 : Addr) (t1 : Int32) (t2 : Int32) (t3 : Int32) (t4 : Int32) : entryFrame m #[(.ref a1), (.int t1), (.int t2), (.int t3), (.int t4)] 5 = mkF m 0 #[.val (.ref a1), .val (.int t1), .val (.int t2), .val (.int t3), .val (.int t4)] [] := by first | (simp [entryFrame, mkF, argsToLocals, Value.category]; done) | rfl
def Q_si (Z : State) (a1 : Addr) (t1 : Int32) (t2 : Int32) (t3 : Int32) (t4 : Int32) (h0 : Heap) (n0 : Nat) (v : Option Value) (h : Heap) (L : List Loc) : Prop := v = none ∧ Fr n0 L ∧ Keep h0 h [a1] ∧ Exa Z h a1 "com/example/cardwarden/cardwarden/sim/Summary" ∧ Fld Z h a1 "com/example/cardwarden/cardwarden/sim/Summary" "transactions" "I" (.int t1) ∧ Fld Z h a1 "com/example/cardwarden/cardwarden/sim/Summary" "scenario1" "I" (.int t2) ∧ Fld Z h a1 "com/example/cardwarden/cardwarden/sim/Summary" "scenario2" "I" (.int t3) ∧ Fld Z h a1 "com/example/cardwarden/cardwarden/sim/Summary" "scenario3" "I" (.int t4)
set_option maxRecDepth 65536 in
set_option maxHeartbeats 40000000 in
theorem rm_si (l : Launch) (Z : State) (a0 : Array Value) (hw : ∀ d ∈ tables_1, d.before a0 Z = true) (ws : List Jvm.Cond) (a1 : Addr) (t1 : Int32) (t2 : Int32) (t3 : Int32) (t4 : Int32) (h0 : Heap) (n0 : Nat) (Z0 : n0 ≤ h0.size) (E1 : Exa Z h0 a1 "com/example/cardwarden/cardwarden/sim/Summary") (F0_ : Fld Z h0 a1 "com/example/cardwarden/cardwarden/sim/Summary" "transactions" "I" (.int (0 : Int32))) (F1_ : Fld Z h0 a1 "com/example/cardwarden/cardwarden/sim/Summary" "scenario1" "I" (.int (0 : Int32))) (F2_ : Fld Z h0 a1 "com/example/cardwarden/cardwarden/sim/Summary" "scenario2" "I" (.int (0 : Int32))) (F3_ : Fld Z h0 a1 "com/example/cardwarden/cardwarden/sim/Summary" "scenario3" "I" (.int (0 : Int32))) (g1 : n0 ≤ a1) :
    MetFree l (⟨"com/example/cardwarden/cardwarden/sim/Summary", "<init>", "(IIII)V"⟩ : MethodName) (head1 (Jvm.Cond.code (⟨"com/example/cardwarden/cardwarden/sim/Summary", "<init>", "(IIII)V"⟩ : MethodName) prog_52_method_1_code 5 none :: ws) ({ frames := 2, cells := 0, slots := 0, locals := 24 } : Room)) (fun a U => a = #[(.ref a1), (.int t1), (.int t2), (.int t3), (.int t4)] ∧ Z.Warmed39 U.vm ∧ U.heap = h0) (fun _ _ _ _ _ => True) (fun _ U o U' => ∃ v L, o = .returned v ∧ Q_si Z a1 t1 t2 t3 t4 h0 n0 v U'.heap L ∧ FrameEnd U o U' L ({ frames := 2, cells := 0, slots := 0, locals := 24 } : Room).cells ({ frames := 2, cells := 0, slots := 0, locals := 24 } : Room).slots) := by
  refine MetFree.of_bodySF (plainFor_of_name pn_si) hisR ?_
  intro p e s m args below meth c s₁ Bd hml0 hP hK
  obtain ⟨rfl, hZ, hh⟩ := hP
  have hx := Bd.exec
  have hby := Bd.bytes
  have hml : c.maxLocals = 5 := hml0
  have hown : s.vm.findClass "com/example/cardwarden/cardwarden/sim/Summary" = some m.cls := findClass_of_methodNamed Bd.named
  have hnm := (name_of_methodNamed Bd.named Bd.method).1
  have X0 : Stand p l e ({ frames := 2, cells := 0, slots := 0, locals := 24 } : Room) s m #[(.ref a1), (.int t1), (.int t2), (.int t3), (.int t4)] below meth c s₁ [] 0 0 := Stand.of_body Bd
  have e0 : s₁.heap = h0 := by rw [← hh, Bd.state]; rfl
  have N0 := Fr.nil n0
  refine own_in ?_
  refine own_go (S' := s₁.setTop (mkF m 0 #[.val (.ref a1), .val (.int t1), .val (.int t2), .val (.int t3), .val (.int t4)] [])) (fun tgt_ stp_ => castTop (ef_si m a1 t1 t2 t3 t4) stp_) ?_
  have K0 : Keep h0 h0 [a1] := Keep.refl h0 _
  obtain ⟨_, _, ⟨T_1, L_1, k_1, n_1⟩, -, X_1, ⟨Lc_1, hQ_1, l_1, y_1, z_1⟩, st_1⟩ := X0.specialBack hx (y := (⟨"java/lang/Record", "<init>", "()V"⟩ : MethodName)) rfl hown (mvT hZ (hw _ (List.mem_of_getElem? (i := 6) rfl))) (mvT hZ (hw _ (List.mem_of_getElem? (i := 7) rfl))) (mvT hZ (hw _ (List.mem_of_getElem? (i := 10) rfl))) (by decide) (backOf (W := 0) (rm_rec l Z a0 hw [] a1  h0 n0 Z0 ) hZ (hw _ (List.mem_of_getElem? (i := 10) rfl)) (hw _ (List.mem_of_getElem? (i := 9) rfl)) (by decide) (by decide)) (g := (mkF m 1 #[.val (.ref a1), .val (.int t1), .val (.int t2), .val (.int t3), .val (.int t4)] [(.ref a1)])) rfl (by rw [hml]; rfl) (Steps.refl _) (a := a1) (argsL := []) (rest := []) (lenOf pd__V rfl) rfl (by show 2 * 0 + _ ≤ _; exact Nat.le_of_eq rfl) (hb hby d_si_1) (fun _ _ => ⟨rfl, e0, (by decide : 0 + 0 ≤ _), (by decide : 0 + 0 ≤ _)⟩)
  dsimp only [Pt.U, Pt.locs, Pt.cells, Pt.slots] at X_1 l_1 y_1 z_1 st_1 hQ_1
  subst l_1 y_1 z_1
  obtain ⟨rfl, N_1q, p_1_0⟩ := hQ_1
  have N_1 := Fr.app N0 N_1q
  obtain ⟨T_2, h_2, X_2, e_2, W_2, st_2⟩ := putF X_1 hx hZ hown (host := "") (Or.inl (hw _ (List.mem_of_getElem? (i := 14) rfl))) Via.refl p_1_0 F0_ E1 (Or.inr ⟨(hw _ (List.mem_of_getElem? (i := 15) rfl)), rfl, hnm⟩) (hw _ (List.mem_of_getElem? (i := 1) rfl)) (ty := .int) (by decide) rfl rfl (g := (mkF m 6 #[.val (.ref a1), .val (.int t1), .val (.int t2), .val (.int t3), .val (.int t4)] [(.int t1), (.ref a1)])) rfl rfl (hb hby d_si_6)
  have N_2 := Fr.snoc X_2 N_1 g1
  have F_2 := F0_.same W_2
  have Z_3 : n0 ≤ h_2.size := Nat.le_trans Z0 (Keep.of_wr W_2).1
  have K_4 : Keep h0 h_2 [a1] := K0.wr W_2 (Or.inl (List.mem_of_getElem? (i := 0) rfl))
  have f_5 := (E1.wr W_2)
  have f_6 := (F1_.other W_2 (Or.inr (slot_ne (Or.inr (hw _ (List.mem_of_getElem? (i := 17) rfl))) (Or.inr (hw _ (List.mem_of_getElem? (i := 15) rfl))) (by decide) (t := .int) (t' := .int) (by decide) (by decide))))
  obtain ⟨T_7, h_7, X_7, e_7, W_7, st_7⟩ := putF X_2 hx hZ hown (host := "") (Or.inl (hw _ (List.mem_of_getElem? (i := 16) rfl))) Via.refl e_2 f_6 f_5 (Or.inr ⟨(hw _ (List.mem_of_getElem? (i := 17) rfl)), rfl, hnm⟩) (hw _ (List.mem_of_getElem? (i := 1) rfl)) (ty := .int) (by decide) rfl rfl (g := (mkF m 11 #[.val (.ref a1), .val (.int t1), .val (.int t2), .val (.int t3), .val (.int t4)] [(.int t2), (.ref a1)])) rfl rfl (hb hby d_si_11)
  have N_7 := Fr.snoc X_7 N_2 g1
  have F_7 := f_6.same W_7
  have Z_8 : n0 ≤ h_7.size := Nat.le_trans Z_3 (Keep.of_wr W_7).1
  have K_9 : Keep h0 h_7 [a1] := K_4.wr W_7 (Or.inl (List.mem_of_getElem? (i := 0) rfl))
  have f_10 := (f_5.wr W_7)
  have f_11 := ((F2_.other W_2 (Or.inr (slot_ne (Or.inr (hw _ (List.mem_of_getElem? (i := 19) rfl))) (Or.inr (hw _ (List.mem_of_getElem? (i := 15) rfl))) (by decide) (t := .int) (t' := .int) (by decide) (by decide)))).other W_7 (Or.inr (slot_ne (Or.inr (hw _ (List.mem_of_getElem? (i := 19) rfl))) (Or.inr (hw _ (List.mem_of_getElem? (i := 17) rfl))) (by decide) (t := .int) (t' := .int) (by decide) (by decide))))
  obtain ⟨T_12, h_12, X_12, e_12, W_12, st_12⟩ := putF X_7 hx hZ hown (host := "") (Or.inl (hw _ (List.mem_of_getElem? (i := 18) rfl))) Via.refl e_7 f_11 f_10 (Or.inr ⟨(hw _ (List.mem_of_getElem? (i := 19) rfl)), rfl, hnm⟩) (hw _ (List.mem_of_getElem? (i := 1) rfl)) (ty := .int) (by decide) rfl rfl (g := (mkF m 16 #[.val (.ref a1), .val (.int t1), .val (.int t2), .val (.int t3), .val (.int t4)] [(.int t3), (.ref a1)])) rfl rfl (hb hby d_si_16)
  have N_12 := Fr.snoc X_12 N_7 g1
  have F_12 := f_11.same W_12
  have Z_13 : n0 ≤ h_12.size := Nat.le_trans Z_8 (Keep.of_wr W_12).1
  have K_14 : Keep h0 h_12 [a1] := K_9.wr W_12 (Or.inl (List.mem_of_getElem? (i := 0) rfl))
  have f_15 := (f_10.wr W_12)
  have f_16 := (((F3_.other W_2 (Or.inr (slot_ne (Or.inr (hw _ (List.mem_of_getElem? (i := 21) rfl))) (Or.inr (hw _ (List.mem_of_getElem? (i := 15) rfl))) (by decide) (t := .int) (t' := .int) (by decide) (by decide)))).other W_7 (Or.inr (slot_ne (Or.inr (hw _ (List.mem_of_getElem? (i := 21) rfl))) (Or.inr (hw _ (List.mem_of_getElem? (i := 17) rfl))) (by decide) (t := .int) (t' := .int) (by decide) (by decide)))).other W_12 (Or.inr (slot_ne (Or.inr (hw _ (List.mem_of_getElem? (i := 21) rfl))) (Or.inr (hw _ (List.mem_of_getElem? (i := 19) rfl))) (by decide) (t := .int) (t' := .int) (by decide) (by decide))))
  obtain ⟨T_17, h_17, X_17, e_17, W_17, st_17⟩ := putF X_12 hx hZ hown (host := "") (Or.inl (hw _ (List.mem_of_getElem? (i := 20) rfl))) Via.refl e_12 f_16 f_15 (Or.inr ⟨(hw _ (List.mem_of_getElem? (i := 21) rfl)), rfl, hnm⟩) (hw _ (List.mem_of_getElem? (i := 1) rfl)) (ty := .int) (by decide) rfl rfl (g := (mkF m 22 #[.val (.ref a1), .val (.int t1), .val (.int t2), .val (.int t3), .val (.int t4)] [(.int t4), (.ref a1)])) rfl rfl (hb hby d_si_22)
  have N_17 := Fr.snoc X_17 N_12 g1
  have F_17 := f_16.same W_17
  have Z_18 : n0 ≤ h_17.size := Nat.le_trans Z_13 (Keep.of_wr W_17).1
  have K_19 : Keep h0 h_17 [a1] := K_14.wr W_17 (Or.inl (List.mem_of_getElem? (i := 0) rfl))
  refine own_go (S' := T_17.setTop (mkF m 25 #[.val (.ref a1), .val (.int t1), .val (.int t2), .val (.int t3), .val (.int t4)] [])) (fun target kt => ?_) ?_
  · show Steps p.tables e below (s₁.setTop (mkF m 0 #[.val (.ref a1), .val (.int t1), .val (.int t2), .val (.int t3), .val (.int t4)] [])) target
    refine XS.aloadN X0.here hx rfl (hb hby d_si_0) rfl rfl ?_
    show Steps p.tables e below (s₁.setTop (mkF m 1 #[.val (.ref a1), .val (.int t1), .val (.int t2), .val (.int t3), .val (.int t4)] [(.ref a1)])) target
    refine st_1.trans ?_
    show Steps p.tables e below (T_1.setTop (mkF m 4 #[.val (.ref a1), .val (.int t1), .val (.int t2), .val (.int t3), .val (.int t4)] [])) target
    refine XS.aloadN X_1.here hx rfl (hb hby d_si_4) rfl rfl ?_
    show Steps p.tables e below (T_1.setTop (mkF m 5 #[.val (.ref a1), .val (.int t1), .val (.int t2), .val (.int t3), .val (.int t4)] [(.ref a1)])) target
    refine XS.iloadN X_1.here hx rfl (hb hby d_si_5) rfl ?_
    show Steps p.tables e below (T_1.setTop (mkF m 6 #[.val (.ref a1), .val (.int t1), .val (.int t2), .val (.int t3), .val (.int t4)] [(.int t1), (.ref a1)])) target
    refine st_2 _ ?_
    show Steps p.tables e below (T_2.setTop (mkF m 9 #[.val (.ref a1), .val (.int t1), .val (.int t2), .val (.int t3), .val (.int t4)] [])) target
    refine XS.aloadN X_2.here hx rfl (hb hby d_si_9) rfl rfl ?_
    show Steps p.tables e below (T_2.setTop (mkF m 10 #[.val (.ref a1), .val (.int t1), .val (.int t2), .val (.int t3), .val (.int t4)] [(.ref a1)])) target
    refine XS.iloadN X_2.here hx rfl (hb hby d_si_10) rfl ?_
    show Steps p.tables e below (T_2.setTop (mkF m 11 #[.val (.ref a1), .val (.int t1), .val (.int t2), .val (.int t3), .val (.int t4)] [(.int t2), (.ref a1)])) target
    refine st_7 _ ?_
    show Steps p.tables e below (T_7.setTop (mkF m 14 #[.val (.ref a1), .val (.int t1), .val (.int t2), .val (.int t3), .val (.int t4)] [])) target
    refine XS.aloadN X_7.here hx rfl (hb hby d_si_14) rfl rfl ?_
    show Steps p.tables e below (T_7.setTop (mkF m 15 #[.val (.ref a1), .val (.int t1), .val (.int t2), .val (.int t3), .val (.int t4)] [(.ref a1)])) target
    refine XS.iloadN X_7.here hx rfl (hb hby d_si_15) rfl ?_
    show Steps p.tables e below (T_7.setTop (mkF m 16 #[.val (.ref a1), .val (.int t1), .val (.int t2), .val (.int t3), .val (.int t4)] [(.int t3), (.ref a1)])) target
    refine st_12 _ ?_
    show Steps p.tables e below (T_12.setTop (mkF m 19 #[.val (.ref a1), .val (.int t1), .val (.int t2), .val (.int t3), .val (.int t4)] [])) target
    refine XS.aloadN X_12.here hx rfl (hb hby d_si_19) rfl rfl ?_
    show Steps p.tables e below (T_12.setTop (mkF m 20 #[.val (.ref a1), .val (.int t1), .val (.int t2), .val (.int t3), .val (.int t4)] [(.ref a1)])) target
    refine XS.iload X_12.here hx rfl (hb hby d_si_20) rfl ?_
    show Steps p.tables e below (T_12.setTop (mkF m 22 #[.val (.ref a1), .val (.int t1), .val (.int t2), .val (.int t3), .val (.int t4)] [(.int t4), (.ref a1)])) target
    refine st_17 _ ?_
    show Steps p.tables e below (T_17.setTop (mkF m 25 #[.val (.ref a1), .val (.int t1), .val (.int t2), .val (.int t3), .val (.int t4)] [])) target
    exact kt
  obtain ⟨fs, hr, hrun, hended, hW, hsame⟩ := X_17.leave (v := none) (fun _ => rfl)
  refine ⟨_, _, X_17.returnOut hx Bd.returns (hb hby d_si_25) hr, hrun, hended, _, _, rfl, ?_, ⟨_, rfl⟩, hW, hsame.mono (by decide) (by decide)⟩
  show Q_si Z a1 t1 t2 t3 t4 h0 n0 _ T_17.heap _
  rw [e_17]
  have f_20 := (f_15.wr W_17)
  have f_21 := (((F_2.other W_7 (Or.inr (slot_ne (Or.inr (hw _ (List.mem_of_getElem? (i := 15) rfl))) (Or.inr (hw _ (List.mem_of_getElem? (i := 17) rfl))) (by decide) (t := .int) (t' := .int) (by decide) (by decide)))).other W_12 (Or.inr (slot_ne (Or.inr (hw _ (List.mem_of_getElem? (i := 15) rfl))) (Or.inr (hw _ (List.mem_of_getElem? (i := 19) rfl))) (by decide) (t := .int) (t' := .int) (by decide) (by decide)))).other W_17 (Or.inr (slot_ne (Or.inr (hw _ (List.mem_of_getElem? (i := 15) rfl))) (Or.inr (hw _ (List.mem_of_getElem? (i := 21) rfl))) (by decide) (t := .int) (t' := .int) (by decide) (by decide))))
  have f_22 := ((F_7.other W_12 (Or.inr (slot_ne (Or.inr (hw _ (List.mem_of_getElem? (i := 17) rfl))) (Or.inr (hw _ (List.mem_of_getElem? (i := 19) rfl))) (by decide) (t := .int) (t' := .int) (by decide) (by decide)))).other W_17 (Or.inr (slot_ne (Or.inr (hw _ (List.mem_of_getElem? (i := 17) rfl))) (Or.inr (hw _ (List.mem_of_getElem? (i := 21) rfl))) (by decide) (t := .int) (t' := .int) (by decide) (by decide))))
  have f_23 := (F_12.other W_17 (Or.inr (slot_ne (Or.inr (hw _ (List.mem_of_getElem? (i := 19) rfl))) (Or.inr (hw _ (List.mem_of_getElem? (i := 21) rfl))) (by decide) (t := .int) (t' := .int) (by decide) (by decide))))
  exact ⟨rfl, N_17, K_19, f_20, f_21, f_22, f_23, F_17⟩
-- com/example/cardwarden/cardwarden/sim/Summary.frauds:()I
theorem d_fr_0 : decode prog_52_method_2_code 0 = .ok (.aload_n 0, 1) := by decide +kernel
theorem d_fr_1 : decode prog_52_method_2_code 1 = .ok (.getfield 13, 3) := by decide +kernel
theorem d_fr_4 : decode prog_52_method_2_code 4 = .ok (.aload_n 0, 1) := by decide +kernel
theorem d_fr_5 : decode prog_52_method_2_code 5 = .ok (.getfield 16, 3) := by decide +kernel
theorem d_fr_8 : decode prog_52_method_2_code 8 = .ok (.iadd, 1) := by decide +kernel
theorem d_fr_9 : decode prog_52_method_2_code 9 = .ok (.aload_n 0, 1) := by decide +kernel
theorem d_fr_10 : decode prog_52_method_2_code 10 = .ok (.getfield 19, 3) := by decide +kernel
theorem d_fr_13 : decode prog_52_method_2_code 13 = .ok (.iadd, 1) := by decide +kernel
theorem d_fr_14 : decode prog_52_method_2_code 14 = .ok (.ireturn, 1) := by decide +kernel
theorem pn_fr : plainName "com/example/cardwarden/cardwarden/sim/Summary" = true := by first | (simp [plainName, overriddenIn]; done) | decide +kernel
theorem ef_fr (m : MethodId) (a1 : Addr) : entryFrame m #[(.ref a1)] 1 = mkF m 0 #[.val (.ref a1)] [] := by first | (simp [entryFrame, mkF, argsToLocals, Value.category]; done) | rfl
def Q_fr (Z : State) (a1 : Addr) (t2 : Int32) (t3 : Int32) (t4 : Int32) (h0 : Heap) (n0 : Nat) (v : Option Value) (h : Heap) (L : List Loc) : Prop := v = some (.int ((t2 + t3) + t4)) ∧ Fr n0 L ∧ h = h0
set_option maxRecDepth 65536 in
set_option maxHeartbeats 40000000 in
theorem rm_fr (l : Launch) (Z : State) (a0 : Array Value) (hw : ∀ d ∈ tables_1, d.before a0 Z = true) (ws : List Jvm.Cond) (a1 : Addr) (t2 : Int32) (t3 : Int32) (t4 : Int32) (h0 : Heap) (n0 : Nat) (Z0 : n0 ≤ h0.size) (F0_ : Fld Z h0 a1 "com/example/cardwarden/cardwarden/sim/Summary" "scenario1" "I" (.int t2)) (F1_ : Fld Z h0 a1 "com/example/cardwarden/cardwarden/sim/Summary" "scenario2" "I" (.int t3)) (F2_ : Fld Z h0 a1 "com/example/cardwarden/cardwarden/sim/Summary" "scenario3" "I" (.int t4)) :
    MetFree l (⟨"com/example/cardwarden/cardwarden/sim/Summary", "frauds", "()I"⟩ : MethodName) (head1 (Jvm.Cond.code (⟨"com/example/cardwarden/cardwarden/sim/Summary", "frauds", "()I"⟩ : MethodName) prog_52_method_2_code 1 (some .int) :: ws) ({ frames := 0, cells := 0, slots := 0, locals := 0 } : Room)) (fun a U => a = #[(.ref a1)] ∧ Z.Warmed39 U.vm ∧ U.heap = h0) (fun _ _ _ _ _ => True) (fun _ U o U' => ∃ v L, o = .returned v ∧ Q_fr Z a1 t2 t3 t4 h0 n0 v U'.heap L ∧ FrameEnd U o U' L ({ frames := 0, cells := 0, slots := 0, locals := 0 } : Room).cells ({ frames := 0, cells := 0, slots := 0, locals := 0 } : Room).slots) := by
  refine MetFree.of_bodySF (plainFor_of_name pn_fr) hisR ?_
  intro p e s m args below meth c s₁ Bd hml0 hP hK
  obtain ⟨rfl, hZ, hh⟩ := hP
  have hx := Bd.exec
  have hby := Bd.bytes
  have hml : c.maxLocals = 1 := hml0
  have hown : s.vm.findClass "com/example/cardwarden/cardwarden/sim/Summary" = some m.cls := findClass_of_methodNamed Bd.named
  have hnm := (name_of_methodNamed Bd.named Bd.method).1
  have X0 : Stand p l e ({ frames := 0, cells := 0, slots := 0, locals := 0 } : Room) s m #[(.ref a1)] below meth c s₁ [] 0 0 := Stand.of_body Bd
  have e0 : s₁.heap = h0 := by rw [← hh, Bd.state]; rfl
  have N0 := Fr.nil n0
  refine own_in ?_
  refine own_go (S' := s₁.setTop (mkF m 0 #[.val (.ref a1)] [])) (fun tgt_ stp_ => castTop (ef_fr m a1) stp_) ?_
  obtain ⟨T_1, X_1, e_1, st_1⟩ := getF X0 hx hZ hown (host := "") (Or.inl (hw _ (List.mem_of_getElem? (i := 16) rfl))) Via.refl e0 F0_ (g := (mkF m 1 #[.val (.ref a1)] [(.ref a1)])) rfl rfl (hb hby d_fr_1)
  obtain ⟨T_2, X_2, e_2, st_2⟩ := getF X_1 hx hZ hown (host := "") (Or.inl (hw _ (List.mem_of_getElem? (i := 18) rfl))) Via.refl e_1 F1_ (g := (mkF m 5 #[.val (.ref a1)] [(.ref a1), (.int t2)])) rfl rfl (hb hby d_fr_5)
  obtain ⟨T_3, X_3, e_3, st_3⟩ := getF X_2 hx hZ hown (host := "") (Or.inl (hw _ (List.mem_of_getElem? (i := 20) rfl))) Via.refl e_2 F2_ (g := (mkF m 10 #[.val (.ref a1)] [(.ref a1), (.int (t2 + t3))])) rfl rfl (hb hby d_fr_10)
  refine own_go (S' := T_3.setTop (mkF m 14 #[.val (.ref a1)] [(.int ((t2 + t3) + t4))])) (fun target kt => ?_) ?_
  · show Steps p.tables e below (s₁.setTop (mkF m 0 #[.val (.ref a1)] [])) target
    refine XS.aloadN X0.here hx rfl (hb hby d_fr_0) rfl rfl ?_
    show Steps p.tables e below (s₁.setTop (mkF m 1 #[.val (.ref a1)] [(.ref a1)])) target
    refine st_1 _ ?_
    show Steps p.tables e below (T_1.setTop (mkF m 4 #[.val (.ref a1)] [(.int t2)])) target
    refine XS.aloadN X_1.here hx rfl (hb hby d_fr_4) rfl rfl ?_
    show Steps p.tables e below (T_1.setTop (mkF m 5 #[.val (.ref a1)] [(.ref a1), (.int t2)])) target
    refine st_2 _ ?_
    show Steps p.tables e below (T_2.setTop (mkF m 8 #[.val (.ref a1)] [(.int t3), (.int t2)])) target
    refine XS.iadd X_2.here hx rfl (hb hby d_fr_8) rfl ?_
    show Steps p.tables e below (T_2.setTop (mkF m 9 #[.val (.ref a1)] [(.int (t2 + t3))])) target
    refine XS.aloadN X_2.here hx rfl (hb hby d_fr_9) rfl rfl ?_
    show Steps p.tables e below (T_2.setTop (mkF m 10 #[.val (.ref a1)] [(.ref a1), (.int (t2 + t3))])) target
    refine st_3 _ ?_
    show Steps p.tables e below (T_3.setTop (mkF m 13 #[.val (.ref a1)] [(.int t4), (.int (t2 + t3))])) target
    refine XS.iadd X_3.here hx rfl (hb hby d_fr_13) rfl ?_
    show Steps p.tables e below (T_3.setTop (mkF m 14 #[.val (.ref a1)] [(.int ((t2 + t3) + t4))])) target
    exact kt
  obtain ⟨fs, hr, hrun, hended, hW, hsame⟩ := X_3.leave (v := some (.int ((t2 + t3) + t4))) (fun h => by rw [Bd.returns] at h; cases h)
  refine ⟨_, _, retI X_3 hx Bd.returns (hb hby d_fr_14) hr, hrun, hended, _, _, rfl, ?_, ⟨_, rfl⟩, hW, hsame.mono (by decide) (by decide)⟩
  show Q_fr Z a1 t2 t3 t4 h0 n0 _ T_3.heap _
  rw [e_3]
  exact ⟨rfl, N0, rfl⟩
-- com/example/cardwarden/cardwarden/sim/SummaryFraudsPinLaw.law:(IIIII)Z
theorem pn_law : plainName "com/example/cardwarden/cardwarden/sim/SummaryFraudsPinLaw" = true := by first | (simp [plainName, overriddenIn]; done) | decide +kernel
theorem ef_law (m : MethodId) (ut : Int32) (uu : Int32) (ua : Int32) (ub : Int32) (uc : Int32) : entryFrame m #[(.int ut), (.int uu), (.int ua), (.int ub), (.int uc)] maxLocals = mkF m 0 #[.val (.int ut), .val (.int uu), .val (.int ua), .val (.int ub), .val (.int uc), .unset, .unset, .unset, .unset, .unset, .unset, .unset, .unset, .unset, .unset] [] := by first | (simp [entryFrame, mkF, argsToLocals, Value.category, maxLocals]; done) | rfl
def Q_law (Z : State) (ut : Int32) (uu : Int32) (ua : Int32) (ub : Int32) (uc : Int32) (h0 : Heap) (n0 : Nat) (v : Option Value) (h : Heap) (L : List Loc) : Prop := v = some (.int (1 : Int32)) ∧ Fr n0 L
set_option maxRecDepth 65536 in
set_option maxHeartbeats 40000000 in
theorem rm_law (l : Launch) (Z : State) (a0 : Array Value) (hw : ∀ d ∈ tables_1, d.before a0 Z = true) (ws : List Jvm.Cond) (ut : Int32) (uu : Int32) (ua : Int32) (ub : Int32) (uc : Int32) (h0 : Heap) (n0 : Nat) (Z0 : n0 ≤ h0.size) :
    MetFree l x (head1 (Jvm.Cond.code x code maxLocals ret :: ws) room_1) (fun a U => a = #[(.int ut), (.int uu), (.int ua), (.int ub), (.int uc)] ∧ Z.Warmed39 U.vm ∧ U.heap = h0) (fun _ _ _ _ _ => True) (fun _ U o U' => ∃ v L, o = .returned v ∧ Q_law Z ut uu ua ub uc h0 n0 v U'.heap L ∧ FrameEnd U o U' L room_1.cells room_1.slots) := by
  refine MetFree.of_bodySF (plainFor_of_name pn_law) hisR ?_
  intro p e s m args below meth c s₁ Bd hml0 hP hK
  obtain ⟨rfl, hZ, hh⟩ := hP
  have hx := Bd.exec
  have hby := Bd.bytes
  have hml : c.maxLocals = 15 := hml0
  have hown : s.vm.findClass "com/example/cardwarden/cardwarden/sim/SummaryFraudsPinLaw" = some m.cls := findClass_of_methodNamed Bd.named
  have hnm := (name_of_methodNamed Bd.named Bd.method).1
  have X0 : Stand p l e room_1 s m #[(.int ut), (.int uu), (.int ua), (.int ub), (.int uc)] below meth c s₁ [] 0 0 := Stand.of_body Bd
  have e0 : s₁.heap = h0 := by rw [← hh, Bd.state]; rfl
  have N0 := Fr.nil n0
  refine own_in ?_
  refine own_go (S' := s₁.setTop (mkF m 0 #[.val (.int ut), .val (.int uu), .val (.int ua), .val (.int ub), .val (.int uc), .unset, .unset, .unset, .unset, .unset, .unset, .unset, .unset, .unset, .unset] [])) (fun tgt_ stp_ => castTop (ef_law m ut uu ua ub uc) stp_) ?_
  obtain ⟨T_1, h_1, X_1, e_1, E_1, A_1, D_1, -, st_1⟩ := newO X0 hx hZ hown (hw _ (List.mem_of_getElem? (i := 0) rfl)) (hw _ (List.mem_of_getElem? (i := 1) rfl)) (hw _ (List.mem_of_getElem? (i := 2) rfl)) e0 (g := (mkF m 0 #[.val (.int ut), .val (.int uu), .val (.int ua), .val (.int ub), .val (.int uc), .unset, .unset, .unset, .unset, .unset, .unset, .unset, .unset, .unset, .unset] [])) rfl (hb hby at_0) (by decide) (by decide)
  obtain ⟨b_1, g_1⟩ : ∃ z, z = h0.size := ⟨_, rfl⟩
  rw [← g_1] at A_1 D_1 st_1
  have gn_b_1 : n0 ≤ b_1 := Nat.le_trans Z0 (Nat.le_of_eq g_1.symm)
  have Z_2 : n0 ≤ h_1.size := Nat.le_trans Z0 E_1.1
  have F_1_transactions : Fld Z h_1 b_1 "com/example/cardwarden/cardwarden/sim/Summary" "transactions" "I" (.int (0 : Int32)) := D_1 (Or.inr (hw _ (List.mem_of_getElem? (i := 15) rfl))) (ty := .int) (by decide)
  have F_1_scenario1 : Fld Z h_1 b_1 "com/example/cardwarden/cardwarden/sim/Summary" "scenario1" "I" (.int (0 : Int32)) := D_1 (Or.inr (hw _ (List.mem_of_getElem? (i := 17) rfl))) (ty := .int) (by decide)
  have F_1_scenario2 : Fld Z h_1 b_1 "com/example/cardwarden/cardwarden/sim/Summary" "scenario2" "I" (.int (0 : Int32)) := D_1 (Or.inr (hw _ (List.mem_of_getElem? (i := 19) rfl))) (ty := .int) (by decide)
  have F_1_scenario3 : Fld Z h_1 b_1 "com/example/cardwarden/cardwarden/sim/Summary" "scenario3" "I" (.int (0 : Int32)) := D_1 (Or.inr (hw _ (List.mem_of_getElem? (i := 21) rfl))) (ty := .int) (by decide)
  obtain ⟨_, _, ⟨T_4, L_4, k_4, n_4⟩, -, X_4, ⟨Lc_4, hQ_4, l_4, y_4, z_4⟩, st_4⟩ := X_1.specialBack hx (y := (⟨"com/example/cardwarden/cardwarden/sim/Summary", "<init>", "(IIII)V"⟩ : MethodName)) rfl hown (mvT hZ (hw _ (List.mem_of_getElem? (i := 3) rfl))) (mvT hZ (hw _ (List.mem_of_getElem? (i := 4) rfl))) (mvT hZ (hw _ (List.mem_of_getElem? (i := 5) rfl))) (by decide) (backOf (W := 1) (rm_si l Z a0 hw [] b_1 ut ua ub uc  h_1 n0 Z_2 A_1 F_1_transactions F_1_scenario1 F_1_scenario2 F_1_scenario3 gn_b_1) hZ (hw _ (List.mem_of_getElem? (i := 5) rfl)) (hw _ (List.mem_of_getElem? (i := 2) rfl)) (by decide) (by decide)) (g := (mkF m 9 #[.val (.int ut), .val (.int uu), .val (.int ua), .val (.int ub), .val (.int uc), .unset, .unset, .unset, .unset, .unset, .unset, .unset, .unset, .unset, .unset] [(.int uc), (.int ub), (.int ua), (.int ut), (.ref b_1), (.ref b_1)])) rfl (by rw [hml]; rfl) (Steps.refl _) (a := b_1) (argsL := [(.int ut), (.int ua), (.int ub), (.int uc)]) (rest := [(.ref b_1)]) (lenOf pd_IIII_V rfl) rfl (by show 2 * 0 + _ ≤ _; exact Nat.le_of_eq rfl) (hb hby at_9) (fun _ _ => ⟨rfl, e_1, (by decide : 1 + 0 ≤ _), (by decide : 4 + 0 ≤ _)⟩)
  dsimp only [Pt.U, Pt.locs, Pt.cells, Pt.slots] at X_4 l_4 y_4 z_4 st_4 hQ_4
  subst l_4 y_4 z_4
  obtain ⟨rfl, N_4q, p_4_0, p_4_1, p_4_2, p_4_3, p_4_4, p_4_5⟩ := hQ_4
  have N_4 := Fr.app N0 N_4q
  have Z_5 : n0 ≤ T_4.heap.size := Nat.le_trans Z_2 p_4_0.1
  obtain ⟨T_7, h_7, X_7, e_7, E_7, A_7, D_7, -, st_7⟩ := newO X_4 hx hZ hown (hw _ (List.mem_of_getElem? (i := 0) rfl)) (hw _ (List.mem_of_getElem? (i := 1) rfl)) (hw _ (List.mem_of_getElem? (i := 2) rfl)) rfl (g := (mkF m 14 #[.val (.int ut), .val (.int uu), .val (.int ua), .val (.int ub), .val (.int uc), .val (.ref b_1), .unset, .unset, .unset, .unset, .unset, .unset, .unset, .unset, .unset] [])) rfl (hb hby at_14) (by decide) (by decide)
  obtain ⟨b_7, g_7⟩ : ∃ z, z = T_4.heap.size := ⟨_, rfl⟩
  rw [← g_7] at A_7 D_7 st_7
  have gn_b_7 : n0 ≤ b_7 := Nat.le_trans Z_5 (Nat.le_of_eq g_7.symm)
  have ne_b_1_b_7 : b_1 ≠ b_7 := Nat.ne_of_lt (Nat.lt_of_lt_of_le p_4_1.lt (Nat.le_of_eq g_7.symm))
  have Z_8 : n0 ≤ h_7.size := Nat.le_trans Z_5 E_7.1
  have F_7_transactions : Fld Z h_7 b_7 "com/example/cardwarden/cardwarden/sim/Summary" "transactions" "I" (.int (0 : Int32)) := D_7 (Or.inr (hw _ (List.mem_of_getElem? (i := 15) rfl))) (ty := .int) (by decide)
  have F_7_scenario1 : Fld Z h_7 b_7 "com/example/cardwarden/cardwarden/sim/Summary" "scenario1" "I" (.int (0 : Int32)) := D_7 (Or.inr (hw _ (List.mem_of_getElem? (i := 17) rfl))) (ty := .int) (by decide)
  have F_7_scenario2 : Fld Z h_7 b_7 "com/example/cardwarden/cardwarden/sim/Summary" "scenario2" "I" (.int (0 : Int32)) := D_7 (Or.inr (hw _ (List.mem_of_getElem? (i := 19) rfl))) (ty := .int) (by decide)
  have F_7_scenario3 : Fld Z h_7 b_7 "com/example/cardwarden/cardwarden/sim/Summary" "scenario3" "I" (.int (0 : Int32)) := D_7 (Or.inr (hw _ (List.mem_of_getElem? (i := 21) rfl))) (ty := .int) (by decide)
  obtain ⟨_, _, ⟨T_10, L_10, k_10, n_10⟩, -, X_10, ⟨Lc_10, hQ_10, l_10, y_10, z_10⟩, st_10⟩ := X_7.specialBack hx (y := (⟨"com/example/cardwarden/cardwarden/sim/Summary", "<init>", "(IIII)V"⟩ : MethodName)) rfl hown (mvT hZ (hw _ (List.mem_of_getElem? (i := 3) rfl))) (mvT hZ (hw _ (List.mem_of_getElem? (i := 4) rfl))) (mvT hZ (hw _ (List.mem_of_getElem? (i := 5) rfl))) (by decide) (backOf (W := 1) (rm_si l Z a0 hw [] b_7 uu ua (0 : Int32) (0 : Int32)  h_7 n0 Z_8 A_7 F_7_transactions F_7_scenario1 F_7_scenario2 F_7_scenario3 gn_b_7) hZ (hw _ (List.mem_of_getElem? (i := 5) rfl)) (hw _ (List.mem_of_getElem? (i := 2) rfl)) (by decide) (by decide)) (g := (mkF m 22 #[.val (.int ut), .val (.int uu), .val (.int ua), .val (.int ub), .val (.int uc), .val (.ref b_1), .unset, .unset, .unset, .unset, .unset, .unset, .unset, .unset, .unset] [(.int (0 : Int32)), (.int (0 : Int32)), (.int ua), (.int uu), (.ref b_7), (.ref b_7)])) rfl (by rw [hml]; rfl) (Steps.refl _) (a := b_7) (argsL := [(.int uu), (.int ua), (.int (0 : Int32)), (.int (0 : Int32))]) (rest := [(.ref b_7)]) (lenOf pd_IIII_V rfl) rfl (by show 2 * 0 + _ ≤ _; exact Nat.le_of_eq rfl) (hb hby at_22) (fun _ _ => ⟨rfl, e_7, (by decide : 2 + 0 ≤ _), (by decide : 8 + 0 ≤ _)⟩)
  dsimp only [Pt.U, Pt.locs, Pt.cells, Pt.slots] at X_10 l_10 y_10 z_10 st_10 hQ_10
  subst l_10 y_10 z_10
  obtain ⟨rfl, N_10q, p_10_0, p_10_1, p_10_2, p_10_3, p_10_4, p_10_5⟩ := hQ_10
  have N_10 := Fr.app N_4 N_10q
  have Z_11 : n0 ≤ T_10.heap.size := Nat.le_trans Z_8 p_10_0.1
  obtain ⟨T_13, h_13, X_13, e_13, E_13, A_13, D_13, -, st_13⟩ := newO X_10 hx hZ hown (hw _ (List.mem_of_getElem? (i := 0) rfl)) (hw _ (List.mem_of_getElem? (i := 1) rfl)) (hw _ (List.mem_of_getElem? (i := 2) rfl)) rfl (g := (mkF m 27 #[.val (.int ut), .val (.int uu), .val (.int ua), .val (.int ub), .val (.int uc), .val (.ref b_1), .val (.ref b_7), .unset, .unset, .unset, .unset, .unset, .unset, .unset, .unset] [])) rfl (hb hby at_27) (by decide) (by decide)
  obtain ⟨b_13, g_13⟩ : ∃ z, z = T_10.heap.size := ⟨_, rfl⟩
  rw [← g_13] at A_13 D_13 st_13
  have gn_b_13 : n0 ≤ b_13 := Nat.le_trans Z_11 (Nat.le_of_eq g_13.symm)
  have f_14 := ((p_4_1.ext E_7).keep p_10_0)
  have ne_b_1_b_13 : b_1 ≠ b_13 := Nat.ne_of_lt (Nat.lt_of_lt_of_le f_14.lt (Nat.le_of_eq g_13.symm))
  have ne_b_7_b_13 : b_7 ≠ b_13 := Nat.ne_of_lt (Nat.lt_of_lt_of_le p_10_1.lt (Nat.le_of_eq g_13.symm))
  have Z_15 : n0 ≤ h_13.size := Nat.le_trans Z_11 E_13.1
  have F_13_transactions : Fld Z h_13 b_13 "com/example/cardwarden/cardwarden/sim/Summary" "transactions" "I" (.int (0 : Int32)) := D_13 (Or.inr (hw _ (List.mem_of_getElem? (i := 15) rfl))) (ty := .int) (by decide)
  have F_13_scenario1 : Fld Z h_13 b_13 "com/example/cardwarden/cardwarden/sim/Summary" "scenario1" "I" (.int (0 : Int32)) := D_13 (Or.inr (hw _ (List.mem_of_getElem? (i := 17) rfl))) (ty := .int) (by decide)
  have F_13_scenario2 : Fld Z h_13 b_13 "com/example/cardwarden/cardwarden/sim/Summary" "scenario2" "I" (.int (0 : Int32)) := D_13 (Or.inr (hw _ (List.mem_of_getElem? (i := 19) rfl))) (ty := .int) (by decide)
  have F_13_scenario3 : Fld Z h_13 b_13 "com/example/cardwarden/cardwarden/sim/Summary" "scenario3" "I" (.int (0 : Int32)) := D_13 (Or.inr (hw _ (List.mem_of_getElem? (i := 21) rfl))) (ty := .int) (by decide)
  obtain ⟨_, _, ⟨T_17, L_17, k_17, n_17⟩, -, X_17, ⟨Lc_17, hQ_17, l_17, y_17, z_17⟩, st_17⟩ := X_13.specialBack hx (y := (⟨"com/example/cardwarden/cardwarden/sim/Summary", "<init>", "(IIII)V"⟩ : MethodName)) rfl hown (mvT hZ (hw _ (List.mem_of_getElem? (i := 3) rfl))) (mvT hZ (hw _ (List.mem_of_getElem? (i := 4) rfl))) (mvT hZ (hw _ (List.mem_of_getElem? (i := 5) rfl))) (by decide) (backOf (W := 1) (rm_si l Z a0 hw [] b_13 uu (0 : Int32) ub (0 : Int32)  h_13 n0 Z_15 A_13 F_13_transactions F_13_scenario1 F_13_scenario2 F_13_scenario3 gn_b_13) hZ (hw _ (List.mem_of_getElem? (i := 5) rfl)) (hw _ (List.mem_of_getElem? (i := 2) rfl)) (by decide) (by decide)) (g := (mkF m 35 #[.val (.int ut), .val (.int uu), .val (.int ua), .val (.int ub), .val (.int uc), .val (.ref b_1), .val (.ref b_7), .unset, .unset, .unset, .unset, .unset, .unset, .unset, .unset] [(.int (0 : Int32)), (.int ub), (.int (0 : Int32)), (.int uu), (.ref b_13), (.ref b_13)])) rfl (by rw [hml]; rfl) (Steps.refl _) (a := b_13) (argsL := [(.int uu), (.int (0 : Int32)), (.int ub), (.int (0 : Int32))]) (rest := [(.ref b_13)]) (lenOf pd_IIII_V rfl) rfl (by show 2 * 0 + _ ≤ _; exact Nat.le_of_eq rfl) (hb hby at_35) (fun _ _ => ⟨rfl, e_13, (by decide : 3 + 0 ≤ _), (by decide : 12 + 0 ≤ _)⟩)
  dsimp only [Pt.U, Pt.locs, Pt.cells, Pt.slots] at X_17 l_17 y_17 z_17 st_17 hQ_17
  subst l_17 y_17 z_17
  obtain ⟨rfl, N_17q, p_17_0, p_17_1, p_17_2, p_17_3, p_17_4, p_17_5⟩ := hQ_17
  have N_17 := Fr.app N_10 N_17q
  have Z_18 : n0 ≤ T_17.heap.size := Nat.le_trans Z_15 p_17_0.1
  obtain ⟨T_20, h_20, X_20, e_20, E_20, A_20, D_20, -, st_20⟩ := newO X_17 hx hZ hown (hw _ (List.mem_of_getElem? (i := 0) rfl)) (hw _ (List.mem_of_getElem? (i := 1) rfl)) (hw _ (List.mem_of_getElem? (i := 2) rfl)) rfl (g := (mkF m 40 #[.val (.int ut), .val (.int uu), .val (.int ua), .val (.int ub), .val (.int uc), .val (.ref b_1), .val (.ref b_7), .val (.ref b_13), .unset, .unset, .unset, .unset, .unset, .unset, .unset] [])) rfl (hb hby at_40) (by decide) (by decide)
  obtain ⟨b_20, g_20⟩ : ∃ z, z = T_17.heap.size := ⟨_, rfl⟩
  rw [← g_20] at A_20 D_20 st_20
  have gn_b_20 : n0 ≤ b_20 := Nat.le_trans Z_18 (Nat.le_of_eq g_20.symm)
  have f_21 := ((f_14.ext E_13).keep p_17_0)
  have ne_b_1_b_20 : b_1 ≠ b_20 := Nat.ne_of_lt (Nat.lt_of_lt_of_le f_21.lt (Nat.le_of_eq g_20.symm))
  have f_22 := ((p_10_1.ext E_13).keep p_17_0)
  have ne_b_7_b_20 : b_7 ≠ b_20 := Nat.ne_of_lt (Nat.lt_of_lt_of_le f_22.lt (Nat.le_of_eq g_20.symm))
  have ne_b_13_b_20 : b_13 ≠ b_20 := Nat.ne_of_lt (Nat.lt_of_lt_of_le p_17_1.lt (Nat.le_of_eq g_20.symm))
  have Z_23 : n0 ≤ h_20.size := Nat.le_trans Z_18 E_20.1
  have F_20_transactions : Fld Z h_20 b_20 "com/example/cardwarden/cardwarden/sim/Summary" "transactions" "I" (.int (0 : Int32)) := D_20 (Or.inr (hw _ (List.mem_of_getElem? (i := 15) rfl))) (ty := .int) (by decide)
  have F_20_scenario1 : Fld Z h_20 b_20 "com/example/cardwarden/cardwarden/sim/Summary" "scenario1" "I" (.int (0 : Int32)) := D_20 (Or.inr (hw _ (List.mem_of_getElem? (i := 17) rfl))) (ty := .int) (by decide)
  have F_20_scenario2 : Fld Z h_20 b_20 "com/example/cardwarden/cardwarden/sim/Summary" "scenario2" "I" (.int (0 : Int32)) := D_20 (Or.inr (hw _ (List.mem_of_getElem? (i := 19) rfl))) (ty := .int) (by decide)
  have F_20_scenario3 : Fld Z h_20 b_20 "com/example/cardwarden/cardwarden/sim/Summary" "scenario3" "I" (.int (0 : Int32)) := D_20 (Or.inr (hw _ (List.mem_of_getElem? (i := 21) rfl))) (ty := .int) (by decide)
  obtain ⟨_, _, ⟨T_25, L_25, k_25, n_25⟩, -, X_25, ⟨Lc_25, hQ_25, l_25, y_25, z_25⟩, st_25⟩ := X_20.specialBack hx (y := (⟨"com/example/cardwarden/cardwarden/sim/Summary", "<init>", "(IIII)V"⟩ : MethodName)) rfl hown (mvT hZ (hw _ (List.mem_of_getElem? (i := 3) rfl))) (mvT hZ (hw _ (List.mem_of_getElem? (i := 4) rfl))) (mvT hZ (hw _ (List.mem_of_getElem? (i := 5) rfl))) (by decide) (backOf (W := 1) (rm_si l Z a0 hw [] b_20 uu (0 : Int32) (0 : Int32) uc  h_20 n0 Z_23 A_20 F_20_transactions F_20_scenario1 F_20_scenario2 F_20_scenario3 gn_b_20) hZ (hw _ (List.mem_of_getElem? (i := 5) rfl)) (hw _ (List.mem_of_getElem? (i := 2) rfl)) (by decide) (by decide)) (g := (mkF m 49 #[.val (.int ut), .val (.int uu), .val (.int ua), .val (.int ub), .val (.int uc), .val (.ref b_1), .val (.ref b_7), .val (.ref b_13), .unset, .unset, .unset, .unset, .unset, .unset, .unset] [(.int uc), (.int (0 : Int32)), (.int (0 : Int32)), (.int uu), (.ref b_20), (.ref b_20)])) rfl (by rw [hml]; rfl) (Steps.refl _) (a := b_20) (argsL := [(.int uu), (.int (0 : Int32)), (.int (0 : Int32)), (.int uc)]) (rest := [(.ref b_20)]) (lenOf pd_IIII_V rfl) rfl (by show 2 * 0 + _ ≤ _; exact Nat.le_of_eq rfl) (hb hby at_49) (fun _ _ => ⟨rfl, e_20, (by decide : 4 + 0 ≤ _), (by decide : 16 + 0 ≤ _)⟩)
  dsimp only [Pt.U, Pt.locs, Pt.cells, Pt.slots] at X_25 l_25 y_25 z_25 st_25 hQ_25
  subst l_25 y_25 z_25
  obtain ⟨rfl, N_25q, p_25_0, p_25_1, p_25_2, p_25_3, p_25_4, p_25_5⟩ := hQ_25
  have N_25 := Fr.app N_17 N_25q
  have Z_26 : n0 ≤ T_25.heap.size := Nat.le_trans Z_23 p_25_0.1
  have f_29 := ((((((p_4_3.ext E_7).keep p_10_0 (by simp only [List.mem_cons, List.not_mem_nil, or_false, not_or]; exact ne_b_1_b_7)).ext E_13).keep p_17_0 (by simp only [List.mem_cons, List.not_mem_nil, or_false, not_or]; exact ne_b_1_b_13)).ext E_20).keep p_25_0 (by simp only [List.mem_cons, List.not_mem_nil, or_false, not_or]; exact ne_b_1_b_20))
  have f_30 := ((((((p_4_4.ext E_7).keep p_10_0 (by simp only [List.mem_cons, List.not_mem_nil, or_false, not_or]; exact ne_b_1_b_7)).ext E_13).keep p_17_0 (by simp only [List.mem_cons, List.not_mem_nil, or_false, not_or]; exact ne_b_1_b_13)).ext E_20).keep p_25_0 (by simp only [List.mem_cons, List.not_mem_nil, or_false, not_or]; exact ne_b_1_b_20))
  have f_31 := ((((((p_4_5.ext E_7).keep p_10_0 (by simp only [List.mem_cons, List.not_mem_nil, or_false, not_or]; exact ne_b_1_b_7)).ext E_13).keep p_17_0 (by simp only [List.mem_cons, List.not_mem_nil, or_false, not_or]; exact ne_b_1_b_13)).ext E_20).keep p_25_0 (by simp only [List.mem_cons, List.not_mem_nil, or_false, not_or]; exact ne_b_1_b_20))
  have f_32 := ((f_21.ext E_20).keep p_25_0)
  obtain ⟨cq_28, kq_28, q_28a, q_28b, q_28c⟩ := isOf hZ rfl f_32
  obtain ⟨_, _, ⟨T_28, L_28, k_28, n_28⟩, -, X_28, ⟨Lc_28, hQ_28, l_28, y_28, z_28⟩, st_28⟩ := X_25.virtualBack hx (y := (⟨"com/example/cardwarden/cardwarden/sim/Summary", "frauds", "()I"⟩ : MethodName)) (z := (⟨"com/example/cardwarden/cardwarden/sim/Summary", "frauds", "()I"⟩ : MethodName)) hown (mvT hZ (hw _ (List.mem_of_getElem? (i := 22) rfl))) (mvT hZ (hw _ (List.mem_of_getElem? (i := 23) rfl))) (notFace_of_selects (args := #[]) (mvT hZ (hw _ (List.mem_of_getElem? (i := 25) rfl)))) (mvT hZ (hw _ (List.mem_of_getElem? (i := 25) rfl))) (mvT hZ (hw _ (List.mem_of_getElem? (i := 24) rfl))) (by decide) (backOf (W := 0) (rm_fr l Z a0 hw [] b_1 ua ub uc T_25.heap n0 Z_26 f_29 f_30 f_31) hZ (hw _ (List.mem_of_getElem? (i := 26) rfl)) (hw _ (List.mem_of_getElem? (i := 2) rfl)) (by decide) (by decide)) q_28a q_28c (g := (mkF m 56 #[.val (.int ut), .val (.int uu), .val (.int ua), .val (.int ub), .val (.int uc), .val (.ref b_1), .val (.ref b_7), .val (.ref b_13), .val (.ref b_20), .unset, .unset, .unset, .unset, .unset, .unset] [(.ref b_1)])) rfl (by rw [hml]; rfl) (Steps.refl _) (argsL := []) (rest := []) (lenOf pd__I rfl) rfl (by show 2 * 0 + _ ≤ _; exact Nat.le_of_eq rfl) (hb hby at_56) (fun _ _ => ⟨rfl, rfl, (by decide : 4 + 0 ≤ _), (by decide : 16 + 0 ≤ _)⟩)
  dsimp only [Pt.U, Pt.locs, Pt.cells, Pt.slots] at X_28 l_28 y_28 z_28 st_28 hQ_28
  subst l_28 y_28 z_28
  obtain ⟨rfl, N_28q, p_28_0⟩ := hQ_28
  have N_28 := Fr.app N_25 N_28q
  have f_34 := ((((p_10_3.ext E_13).keep p_17_0 (by simp only [List.mem_cons, List.not_mem_nil, or_false, not_or]; exact ne_b_7_b_13)).ext E_20).keep p_25_0 (by simp only [List.mem_cons, List.not_mem_nil, or_false, not_or]; exact ne_b_7_b_20))
  have f_35 := ((((p_10_4.ext E_13).keep p_17_0 (by simp only [List.mem_cons, List.not_mem_nil, or_false, not_or]; exact ne_b_7_b_13)).ext E_20).keep p_25_0 (by simp only [List.mem_cons, List.not_mem_nil, or_false, not_or]; exact ne_b_7_b_20))
  have f_36 := ((((p_10_5.ext E_13).keep p_17_0 (by simp only [List.mem_cons, List.not_mem_nil, or_false, not_or]; exact ne_b_7_b_13)).ext E_20).keep p_25_0 (by simp only [List.mem_cons, List.not_mem_nil, or_false, not_or]; exact ne_b_7_b_20))
  have f_37 := ((f_22.ext E_20).keep p_25_0)
  obtain ⟨cq_33, kq_33, q_33a, q_33b, q_33c⟩ := isOf hZ p_28_0 f_37
  obtain ⟨_, _, ⟨T_33, L_33, k_33, n_33⟩, -, X_33, ⟨Lc_33, hQ_33, l_33, y_33, z_33⟩, st_33⟩ := X_28.virtualBack hx (y := (⟨"com/example/cardwarden/cardwarden/sim/Summary", "frauds", "()I"⟩ : MethodName)) (z := (⟨"com/example/cardwarden/cardwarden/sim/Summary", "frauds", "()I"⟩ : MethodName)) hown (mvT hZ (hw _ (List.mem_of_getElem? (i := 22) rfl))) (mvT hZ (hw _ (List.mem_of_getElem? (i := 23) rfl))) (notFace_of_selects (args := #[]) (mvT hZ (hw _ (List.mem_of_getElem? (i := 25) rfl)))) (mvT hZ (hw _ (List.mem_of_getElem? (i := 25) rfl))) (mvT hZ (hw _ (List.mem_of_getElem? (i := 24) rfl))) (by decide) (backOf (W := 0) (rm_fr l Z a0 hw [] b_7 ua (0 : Int32) (0 : Int32) T_25.heap n0 Z_26 f_34 f_35 f_36) hZ (hw _ (List.mem_of_getElem? (i := 26) rfl)) (hw _ (List.mem_of_getElem? (i := 2) rfl)) (by decide) (by decide)) q_33a q_33c (g := (mkF m 63 #[.val (.int ut), .val (.int uu), .val (.int ua), .val (.int ub), .val (.int uc), .val (.ref b_1), .val (.ref b_7), .val (.ref b_13), .val (.ref b_20), .val (.int ((ua + ub) + uc)), .unset, .unset, .unset, .unset, .unset] [(.ref b_7)])) rfl (by rw [hml]; rfl) (Steps.refl _) (argsL := []) (rest := []) (lenOf pd__I rfl) rfl (by show 2 * 0 + _ ≤ _; exact Nat.le_of_eq rfl) (hb hby at_63) (fun _ _ => ⟨rfl, p_28_0, (by decide : 4 + 0 ≤ _), (by decide : 16 + 0 ≤ _)⟩)
  dsimp only [Pt.U, Pt.locs, Pt.cells, Pt.slots] at X_33 l_33 y_33 z_33 st_33 hQ_33
  subst l_33 y_33 z_33
  obtain ⟨rfl, N_33q, p_33_0⟩ := hQ_33
  have N_33 := Fr.app N_28 N_33q
  have f_39 := ((p_17_3.ext E_20).keep p_25_0 (by simp only [List.mem_cons, List.not_mem_nil, or_false, not_or]; exact ne_b_13_b_20))
  have f_40 := ((p_17_4.ext E_20).keep p_25_0 (by simp only [List.mem_cons, List.not_mem_nil, or_false, not_or]; exact ne_b_13_b_20))
  have f_41 := ((p_17_5.ext E_20).keep p_25_0 (by simp only [List.mem_cons, List.not_mem_nil, or_false, not_or]; exact ne_b_13_b_20))
  have f_42 := ((p_17_1.ext E_20).keep p_25_0)
  obtain ⟨cq_38, kq_38, q_38a, q_38b, q_38c⟩ := isOf hZ p_33_0 f_42
  obtain ⟨_, _, ⟨T_38, L_38, k_38, n_38⟩, -, X_38, ⟨Lc_38, hQ_38, l_38, y_38, z_38⟩, st_38⟩ := X_33.virtualBack hx (y := (⟨"com/example/cardwarden/cardwarden/sim/Summary", "frauds", "()I"⟩ : MethodName)) (z := (⟨"com/example/cardwarden/cardwarden/sim/Summary", "frauds", "()I"⟩ : MethodName)) hown (mvT hZ (hw _ (List.mem_of_getElem? (i := 22) rfl))) (mvT hZ (hw _ (List.mem_of_getElem? (i := 23) rfl))) (notFace_of_selects (args := #[]) (mvT hZ (hw _ (List.mem_of_getElem? (i := 25) rfl)))) (mvT hZ (hw _ (List.mem_of_getElem? (i := 25) rfl))) (mvT hZ (hw _ (List.mem_of_getElem? (i := 24) rfl))) (by decide) (backOf (W := 0) (rm_fr l Z a0 hw [] b_13 (0 : Int32) ub (0 : Int32) T_25.heap n0 Z_26 f_39 f_40 f_41) hZ (hw _ (List.mem_of_getElem? (i := 26) rfl)) (hw _ (List.mem_of_getElem? (i := 2) rfl)) (by decide) (by decide)) q_38a q_38c (g := (mkF m 70 #[.val (.int ut), .val (.int uu), .val (.int ua), .val (.int ub), .val (.int uc), .val (.ref b_1), .val (.ref b_7), .val (.ref b_13), .val (.ref b_20), .val (.int ((ua + ub) + uc)), .val (.int ((ua + (0 : Int32)) + (0 : Int32))), .unset, .unset, .unset, .unset] [(.ref b_13)])) rfl (by rw [hml]; rfl) (Steps.refl _) (argsL := []) (rest := []) (lenOf pd__I rfl) rfl (by show 2 * 0 + _ ≤ _; exact Nat.le_of_eq rfl) (hb hby at_70) (fun _ _ => ⟨rfl, p_33_0, (by decide : 4 + 0 ≤ _), (by decide : 16 + 0 ≤ _)⟩)
  dsimp only [Pt.U, Pt.locs, Pt.cells, Pt.slots] at X_38 l_38 y_38 z_38 st_38 hQ_38
  subst l_38 y_38 z_38
  obtain ⟨rfl, N_38q, p_38_0⟩ := hQ_38
  have N_38 := Fr.app N_33 N_38q
  obtain ⟨cq_43, kq_43, q_43a, q_43b, q_43c⟩ := isOf hZ p_38_0 p_25_1
  obtain ⟨_, _, ⟨T_43, L_43, k_43, n_43⟩, -, X_43, ⟨Lc_43, hQ_43, l_43, y_43, z_43⟩, st_43⟩ := X_38.virtualBack hx (y := (⟨"com/example/cardwarden/cardwarden/sim/Summary", "frauds", "()I"⟩ : MethodName)) (z := (⟨"com/example/cardwarden/cardwarden/sim/Summary", "frauds", "()I"⟩ : MethodName)) hown (mvT hZ (hw _ (List.mem_of_getElem? (i := 22) rfl))) (mvT hZ (hw _ (List.mem_of_getElem? (i := 23) rfl))) (notFace_of_selects (args := #[]) (mvT hZ (hw _ (List.mem_of_getElem? (i := 25) rfl)))) (mvT hZ (hw _ (List.mem_of_getElem? (i := 25) rfl))) (mvT hZ (hw _ (List.mem_of_getElem? (i := 24) rfl))) (by decide) (backOf (W := 0) (rm_fr l Z a0 hw [] b_20 (0 : Int32) (0 : Int32) uc T_25.heap n0 Z_26 p_25_3 p_25_4 p_25_5) hZ (hw _ (List.mem_of_getElem? (i := 26) rfl)) (hw _ (List.mem_of_getElem? (i := 2) rfl)) (by decide) (by decide)) q_43a q_43c (g := (mkF m 77 #[.val (.int ut), .val (.int uu), .val (.int ua), .val (.int ub), .val (.int uc), .val (.ref b_1), .val (.ref b_7), .val (.ref b_13), .val (.ref b_20), .val (.int ((ua + ub) + uc)), .val (.int ((ua + (0 : Int32)) + (0 : Int32))), .val (.int (((0 : Int32) + ub) + (0 : Int32))), .unset, .unset, .unset] [(.ref b_20)])) rfl (by rw [hml]; rfl) (Steps.refl _) (argsL := []) (rest := []) (lenOf pd__I rfl) rfl (by show 2 * 0 + _ ≤ _; exact Nat.le_of_eq rfl) (hb hby at_77) (fun _ _ => ⟨rfl, p_38_0, (by decide : 4 + 0 ≤ _), (by decide : 16 + 0 ≤ _)⟩)
  dsimp only [Pt.U, Pt.locs, Pt.cells, Pt.slots] at X_43 l_43 y_43 z_43 st_43 hQ_43
  subst l_43 y_43 z_43
  obtain ⟨rfl, N_43q, p_43_0⟩ := hQ_43
  have N_43 := Fr.app N_38 N_43q
  refine own_go (S' := T_43.setTop (mkF m 143 #[.val (.int ut), .val (.int uu), .val (.int ua), .val (.int ub), .val (.int uc), .val (.ref b_1), .val (.ref b_7), .val (.ref b_13), .val (.ref b_20), .val (.int ((ua + ub) + uc)), .val (.int ((ua + (0 : Int32)) + (0 : Int32))), .val (.int (((0 : Int32) + ub) + (0 : Int32))), .val (.int (((0 : Int32) + (0 : Int32)) + uc)), .val (.int (1 : Int32)), .val (.int (1 : Int32))] [(.int (1 : Int32))])) (fun target kt => ?_) ?_
  · show Steps p.tables e below (s₁.setTop (mkF m 0 #[.val (.int ut), .val (.int uu), .val (.int ua), .val (.int ub), .val (.int uc), .unset, .unset, .unset, .unset, .unset, .unset, .unset, .unset, .unset, .unset] [])) target
    refine st_1 _ ?_
    show Steps p.tables e below (T_1.setTop (mkF m 3 #[.val (.int ut), .val (.int uu), .val (.int ua), .val (.int ub), .val (.int uc), .unset, .unset, .unset, .unset, .unset, .unset, .unset, .unset, .unset, .unset] [(.ref b_1)])) target
    refine XS.dup X_1.here hx rfl (hb hby at_3) rfl rfl ?_
    show Steps p.tables e below (T_1.setTop (mkF m 4 #[.val (.int ut), .val (.int uu), .val (.int ua), .val (.int ub), .val (.int uc), .unset, .unset, .unset, .unset, .unset, .unset, .unset, .unset, .unset, .unset] [(.ref b_1), (.ref b_1)])) target
    refine XS.iloadN X_1.here hx rfl (hb hby at_4) rfl ?_
    show Steps p.tables e below (T_1.setTop (mkF m 5 #[.val (.int ut), .val (.int uu), .val (.int ua), .val (.int ub), .val (.int uc), .unset, .unset, .unset, .unset, .unset, .unset, .unset, .unset, .unset, .unset] [(.int ut), (.ref b_1), (.ref b_1)])) target
    refine XS.iloadN X_1.here hx rfl (hb hby at_5) rfl ?_
    show Steps p.tables e below (T_1.setTop (mkF m 6 #[.val (.int ut), .val (.int uu), .val (.int ua), .val (.int ub), .val (.int uc), .unset, .unset, .unset, .unset, .unset, .unset, .unset, .unset, .unset, .unset] [(.int ua), (.int ut), (.ref b_1), (.ref b_1)])) target
    refine XS.iloadN X_1.here hx rfl (hb hby at_6) rfl ?_
    show Steps p.tables e below (T_1.setTop (mkF m 7 #[.val (.int ut), .val (.int uu), .val (.int ua), .val (.int ub), .val (.int uc), .unset, .unset, .unset, .unset, .unset, .unset, .unset, .unset, .unset, .unset] [(.int ub), (.int ua), (.int ut), (.ref b_1), (.ref b_1)])) target
    refine XS.iload X_1.here hx rfl (hb hby at_7) rfl ?_
    show Steps p.tables e below (T_1.setTop (mkF m 9 #[.val (.int ut), .val (.int uu), .val (.int ua), .val (.int ub), .val (.int uc), .unset, .unset, .unset, .unset, .unset, .unset, .unset, .unset, .unset, .unset] [(.int uc), (.int ub), (.int ua), (.int ut), (.ref b_1), (.ref b_1)])) target
    refine st_4.trans ?_
    show Steps p.tables e below (T_4.setTop (mkF m 12 #[.val (.int ut), .val (.int uu), .val (.int ua), .val (.int ub), .val (.int uc), .unset, .unset, .unset, .unset, .unset, .unset, .unset, .unset, .unset, .unset] [(.ref b_1)])) target
    refine XS.astore X_4.here hx rfl (hb hby at_12) rfl rfl (l' := #[.val (.int ut), .val (.int uu), .val (.int ua), .val (.int ub), .val (.int uc), .val (.ref b_1), .unset, .unset, .unset, .unset, .unset, .unset, .unset, .unset, .unset]) rfl ?_
    show Steps p.tables e below (T_4.setTop (mkF m 14 #[.val (.int ut), .val (.int uu), .val (.int ua), .val (.int ub), .val (.int uc), .val (.ref b_1), .unset, .unset, .unset, .unset, .unset, .unset, .unset, .unset, .unset] [])) target
    refine st_7 _ ?_
    show Steps p.tables e below (T_7.setTop (mkF m 17 #[.val (.int ut), .val (.int uu), .val (.int ua), .val (.int ub), .val (.int uc), .val (.ref b_1), .unset, .unset, .unset, .unset, .unset, .unset, .unset, .unset, .unset] [(.ref b_7)])) target
    refine XS.dup X_7.here hx rfl (hb hby at_17) rfl rfl ?_
    show Steps p.tables e below (T_7.setTop (mkF m 18 #[.val (.int ut), .val (.int uu), .val (.int ua), .val (.int ub), .val (.int uc), .val (.ref b_1), .unset, .unset, .unset, .unset, .unset, .unset, .unset, .unset, .unset] [(.ref b_7), (.ref b_7)])) target
    refine XS.iloadN X_7.here hx rfl (hb hby at_18) rfl ?_
    show Steps p.tables e below (T_7.setTop (mkF m 19 #[.val (.int ut), .val (.int uu), .val (.int ua), .val (.int ub), .val (.int uc), .val (.ref b_1), .unset, .unset, .unset, .unset, .unset, .unset, .unset, .unset, .unset] [(.int uu), (.ref b_7), (.ref b_7)])) target
    refine XS.iloadN X_7.here hx rfl (hb hby at_19) rfl ?_
    show Steps p.tables e below (T_7.setTop (mkF m 20 #[.val (.int ut), .val (.int uu), .val (.int ua), .val (.int ub), .val (.int uc), .val (.ref b_1), .unset, .unset, .unset, .unset, .unset, .unset, .unset, .unset, .unset] [(.int ua), (.int uu), (.ref b_7), (.ref b_7)])) target
    refine XS.iconst X_7.here hx rfl (hb hby at_20) ?_
    show Steps p.tables e below (T_7.setTop (mkF m 21 #[.val (.int ut), .val (.int uu), .val (.int ua), .val (.int ub), .val (.int uc), .val (.ref b_1), .unset, .unset, .unset, .unset, .unset, .unset, .unset, .unset, .unset] [(.int (0 : Int32)), (.int ua), (.int uu), (.ref b_7), (.ref b_7)])) target
    refine XS.iconst X_7.here hx rfl (hb hby at_21) ?_
    show Steps p.tables e below (T_7.setTop (mkF m 22 #[.val (.int ut), .val (.int uu), .val (.int ua), .val (.int ub), .val (.int uc), .val (.ref b_1), .unset, .unset, .unset, .unset, .unset, .unset, .unset, .unset, .unset] [(.int (0 : Int32)), (.int (0 : Int32)), (.int ua), (.int uu), (.ref b_7), (.ref b_7)])) target
    refine st_10.trans ?_
    show Steps p.tables e below (T_10.setTop (mkF m 25 #[.val (.int ut), .val (.int uu), .val (.int ua), .val (.int ub), .val (.int uc), .val (.ref b_1), .unset, .unset, .unset, .unset, .unset, .unset, .unset, .unset, .unset] [(.ref b_7)])) target
    refine XS.astore X_10.here hx rfl (hb hby at_25) rfl rfl (l' := #[.val (.int ut), .val (.int uu), .val (.int ua), .val (.int ub), .val (.int uc), .val (.ref b_1), .val (.ref b_7), .unset, .unset, .unset, .unset, .unset, .unset, .unset, .unset]) rfl ?_
    show Steps p.tables e below (T_10.setTop (mkF m 27 #[.val (.int ut), .val (.int uu), .val (.int ua), .val (.int ub), .val (.int uc), .val (.ref b_1), .val (.ref b_7), .unset, .unset, .unset, .unset, .unset, .unset, .unset, .unset] [])) target
    refine st_13 _ ?_
    show Steps p.tables e below (T_13.setTop (mkF m 30 #[.val (.int ut), .val (.int uu), .val (.int ua), .val (.int ub), .val (.int uc), .val (.ref b_1), .val (.ref b_7), .unset, .unset, .unset, .unset, .unset, .unset, .unset, .unset] [(.ref b_13)])) target
    refine XS.dup X_13.here hx rfl (hb hby at_30) rfl rfl ?_
    show Steps p.tables e below (T_13.setTop (mkF m 31 #[.val (.int ut), .val (.int uu), .val (.int ua), .val (.int ub), .val (.int uc), .val (.ref b_1), .val (.ref b_7), .unset, .unset, .unset, .unset, .unset, .unset, .unset, .unset] [(.ref b_13), (.ref b_13)])) target
    refine XS.iloadN X_13.here hx rfl (hb hby at_31) rfl ?_
    show Steps p.tables e below (T_13.setTop (mkF m 32 #[.val (.int ut), .val (.int uu), .val (.int ua), .val (.int ub), .val (.int uc), .val (.ref b_1), .val (.ref b_7), .unset, .unset, .unset, .unset, .unset, .unset, .unset, .unset] [(.int uu), (.ref b_13), (.ref b_13)])) target
    refine XS.iconst X_13.here hx rfl (hb hby at_32) ?_
    show Steps p.tables e below (T_13.setTop (mkF m 33 #[.val (.int ut), .val (.int uu), .val (.int ua), .val (.int ub), .val (.int uc), .val (.ref b_1), .val (.ref b_7), .unset, .unset, .unset, .unset, .unset, .unset, .unset, .unset] [(.int (0 : Int32)), (.int uu), (.ref b_13), (.ref b_13)])) target
    refine XS.iloadN X_13.here hx rfl (hb hby at_33) rfl ?_
    show Steps p.tables e below (T_13.setTop (mkF m 34 #[.val (.int ut), .val (.int uu), .val (.int ua), .val (.int ub), .val (.int uc), .val (.ref b_1), .val (.ref b_7), .unset, .unset, .unset, .unset, .unset, .unset, .unset, .unset] [(.int ub), (.int (0 : Int32)), (.int uu), (.ref b_13), (.ref b_13)])) target
    refine XS.iconst X_13.here hx rfl (hb hby at_34) ?_
    show Steps p.tables e below (T_13.setTop (mkF m 35 #[.val (.int ut), .val (.int uu), .val (.int ua), .val (.int ub), .val (.int uc), .val (.ref b_1), .val (.ref b_7), .unset, .unset, .unset, .unset, .unset, .unset, .unset, .unset] [(.int (0 : Int32)), (.int ub), (.int (0 : Int32)), (.int uu), (.ref b_13), (.ref b_13)])) target
    refine st_17.trans ?_
    show Steps p.tables e below (T_17.setTop (mkF m 38 #[.val (.int ut), .val (.int uu), .val (.int ua), .val (.int ub), .val (.int uc), .val (.ref b_1), .val (.ref b_7), .unset, .unset, .unset, .unset, .unset, .unset, .unset, .unset] [(.ref b_13)])) target
    refine XS.astore X_17.here hx rfl (hb hby at_38) rfl rfl (l' := #[.val (.int ut), .val (.int uu), .val (.int ua), .val (.int ub), .val (.int uc), .val (.ref b_1), .val (.ref b_7), .val (.ref b_13), .unset, .unset, .unset, .unset, .unset, .unset, .unset]) rfl ?_
    show Steps p.tables e below (T_17.setTop (mkF m 40 #[.val (.int ut), .val (.int uu), .val (.int ua), .val (.int ub), .val (.int uc), .val (.ref b_1), .val (.ref b_7), .val (.ref b_13), .unset, .unset, .unset, .unset, .unset, .unset, .unset] [])) target
    refine st_20 _ ?_
    show Steps p.tables e below (T_20.setTop (mkF m 43 #[.val (.int ut), .val (.int uu), .val (.int ua), .val (.int ub), .val (.int uc), .val (.ref b_1), .val (.ref b_7), .val (.ref b_13), .unset, .unset, .unset, .unset, .unset, .unset, .unset] [(.ref b_20)])) target
    refine XS.dup X_20.here hx rfl (hb hby at_43) rfl rfl ?_
    show Steps p.tables e below (T_20.setTop (mkF m 44 #[.val (.int ut), .val (.int uu), .val (.int ua), .val (.int ub), .val (.int uc), .val (.ref b_1), .val (.ref b_7), .val (.ref b_13), .unset, .unset, .unset, .unset, .unset, .unset, .unset] [(.ref b_20), (.ref b_20)])) target
    refine XS.iloadN X_20.here hx rfl (hb hby at_44) rfl ?_
    show Steps p.tables e below (T_20.setTop (mkF m 45 #[.val (.int ut), .val (.int uu), .val (.int ua), .val (.int ub), .val (.int uc), .val (.ref b_1), .val (.ref b_7), .val (.ref b_13), .unset, .unset, .unset, .unset, .unset, .unset, .unset] [(.int uu), (.ref b_20), (.ref b_20)])) target
    refine XS.iconst X_20.here hx rfl (hb hby at_45) ?_
    show Steps p.tables e below (T_20.setTop (mkF m 46 #[.val (.int ut), .val (.int uu), .val (.int ua), .val (.int ub), .val (.int uc), .val (.ref b_1), .val (.ref b_7), .val (.ref b_13), .unset, .unset, .unset, .unset, .unset, .unset, .unset] [(.int (0 : Int32)), (.int uu), (.ref b_20), (.ref b_20)])) target
    refine XS.iconst X_20.here hx rfl (hb hby at_46) ?_
    show Steps p.tables e below (T_20.setTop (mkF m 47 #[.val (.int ut), .val (.int uu), .val (.int ua), .val (.int ub), .val (.int uc), .val (.ref b_1), .val (.ref b_7), .val (.ref b_13), .unset, .unset, .unset, .unset, .unset, .unset, .unset] [(.int (0 : Int32)), (.int (0 : Int32)), (.int uu), (.ref b_20), (.ref b_20)])) target
    refine XS.iload X_20.here hx rfl (hb hby at_47) rfl ?_
    show Steps p.tables e below (T_20.setTop (mkF m 49 #[.val (.int ut), .val (.int uu), .val (.int ua), .val (.int ub), .val (.int uc), .val (.ref b_1), .val (.ref b_7), .val (.ref b_13), .unset, .unset, .unset, .unset, .unset, .unset, .unset] [(.int uc), (.int (0 : Int32)), (.int (0 : Int32)), (.int uu), (.ref b_20), (.ref b_20)])) target
    refine st_25.trans ?_
    show Steps p.tables e below (T_25.setTop (mkF m 52 #[.val (.int ut), .val (.int uu), .val (.int ua), .val (.int ub), .val (.int uc), .val (.ref b_1), .val (.ref b_7), .val (.ref b_13), .unset, .unset, .unset, .unset, .unset, .unset, .unset] [(.ref b_20)])) target
    refine XS.astore X_25.here hx rfl (hb hby at_52) rfl rfl (l' := #[.val (.int ut), .val (.int uu), .val (.int ua), .val (.int ub), .val (.int uc), .val (.ref b_1), .val (.ref b_7), .val (.ref b_13), .val (.ref b_20), .unset, .unset, .unset, .unset, .unset, .unset]) rfl ?_
    show Steps p.tables e below (T_25.setTop (mkF m 54 #[.val (.int ut), .val (.int uu), .val (.int ua), .val (.int ub), .val (.int uc), .val (.ref b_1), .val (.ref b_7), .val (.ref b_13), .val (.ref b_20), .unset, .unset, .unset, .unset, .unset, .unset] [])) target
    refine XS.aload X_25.here hx rfl (hb hby at_54) rfl rfl ?_
    show Steps p.tables e below (T_25.setTop (mkF m 56 #[.val (.int ut), .val (.int uu), .val (.int ua), .val (.int ub), .val (.int uc), .val (.ref b_1), .val (.ref b_7), .val (.ref b_13), .val (.ref b_20), .unset, .unset, .unset, .unset, .unset, .unset] [(.ref b_1)])) target
    refine st_28.trans ?_
    show Steps p.tables e below (T_28.setTop (mkF m 59 #[.val (.int ut), .val (.int uu), .val (.int ua), .val (.int ub), .val (.int uc), .val (.ref b_1), .val (.ref b_7), .val (.ref b_13), .val (.ref b_20), .unset, .unset, .unset, .unset, .unset, .unset] [(.int ((ua + ub) + uc))])) target
    refine XS.istore X_28.here hx rfl (hb hby at_59) rfl (l' := #[.val (.int ut), .val (.int uu), .val (.int ua), .val (.int ub), .val (.int uc), .val (.ref b_1), .val (.ref b_7), .val (.ref b_13), .val (.ref b_20), .val (.int ((ua + ub) + uc)), .unset, .unset, .unset, .unset, .unset]) rfl ?_
    show Steps p.tables e below (T_28.setTop (mkF m 61 #[.val (.int ut), .val (.int uu), .val (.int ua), .val (.int ub), .val (.int uc), .val (.ref b_1), .val (.ref b_7), .val (.ref b_13), .val (.ref b_20), .val (.int ((ua + ub) + uc)), .unset, .unset, .unset, .unset, .unset] [])) target
    refine XS.aload X_28.here hx rfl (hb hby at_61) rfl rfl ?_
    show Steps p.tables e below (T_28.setTop (mkF m 63 #[.val (.int ut), .val (.int uu), .val (.int ua), .val (.int ub), .val (.int uc), .val (.ref b_1), .val (.ref b_7), .val (.ref b_13), .val (.ref b_20), .val (.int ((ua + ub) + uc)), .unset, .unset, .unset, .unset, .unset] [(.ref b_7)])) target
    refine st_33.trans ?_
    show Steps p.tables e below (T_33.setTop (mkF m 66 #[.val (.int ut), .val (.int uu), .val (.int ua), .val (.int ub), .val (.int uc), .val (.ref b_1), .val (.ref b_7), .val (.ref b_13), .val (.ref b_20), .val (.int ((ua + ub) + uc)), .unset, .unset, .unset, .unset, .unset] [(.int ((ua + (0 : Int32)) + (0 : Int32)))])) target
    refine XS.istore X_33.here hx rfl (hb hby at_66) rfl (l' := #[.val (.int ut), .val (.int uu), .val (.int ua), .val (.int ub), .val (.int uc), .val (.ref b_1), .val (.ref b_7), .val (.ref b_13), .val (.ref b_20), .val (.int ((ua + ub) + uc)), .val (.int ((ua + (0 : Int32)) + (0 : Int32))), .unset, .unset, .unset, .unset]) rfl ?_
    show Steps p.tables e below (T_33.setTop (mkF m 68 #[.val (.int ut), .val (.int uu), .val (.int ua), .val (.int ub), .val (.int uc), .val (.ref b_1), .val (.ref b_7), .val (.ref b_13), .val (.ref b_20), .val (.int ((ua + ub) + uc)), .val (.int ((ua + (0 : Int32)) + (0 : Int32))), .unset, .unset, .unset, .unset] [])) target
    refine XS.aload X_33.here hx rfl (hb hby at_68) rfl rfl ?_
    show Steps p.tables e below (T_33.setTop (mkF m 70 #[.val (.int ut), .val (.int uu), .val (.int ua), .val (.int ub), .val (.int uc), .val (.ref b_1), .val (.ref b_7), .val (.ref b_13), .val (.ref b_20), .val (.int ((ua + ub) + uc)), .val (.int ((ua + (0 : Int32)) + (0 : Int32))), .unset, .unset, .unset, .unset] [(.ref b_13)])) target
    refine st_38.trans ?_
    show Steps p.tables e below (T_38.setTop (mkF m 73 #[.val (.int ut), .val (.int uu), .val (.int ua), .val (.int ub), .val (.int uc), .val (.ref b_1), .val (.ref b_7), .val (.ref b_13), .val (.ref b_20), .val (.int ((ua + ub) + uc)), .val (.int ((ua + (0 : Int32)) + (0 : Int32))), .unset, .unset, .unset, .unset] [(.int (((0 : Int32) + ub) + (0 : Int32)))])) target
    refine XS.istore X_38.here hx rfl (hb hby at_73) rfl (l' := #[.val (.int ut), .val (.int uu), .val (.int ua), .val (.int ub), .val (.int uc), .val (.ref b_1), .val (.ref b_7), .val (.ref b_13), .val (.ref b_20), .val (.int ((ua + ub) + uc)), .val (.int ((ua + (0 : Int32)) + (0 : Int32))), .val (.int (((0 : Int32) + ub) + (0 : Int32))), .unset, .unset, .unset]) rfl ?_
    show Steps p.tables e below (T_38.setTop (mkF m 75 #[.val (.int ut), .val (.int uu), .val (.int ua), .val (.int ub), .val (.int uc), .val (.ref b_1), .val (.ref b_7), .val (.ref b_13), .val (.ref b_20), .val (.int ((ua + ub) + uc)), .val (.int ((ua + (0 : Int32)) + (0 : Int32))), .val (.int (((0 : Int32) + ub) + (0 : Int32))), .unset, .unset, .unset] [])) target
    refine XS.aload X_38.here hx rfl (hb hby at_75) rfl rfl ?_
    show Steps p.tables e below (T_38.setTop (mkF m 77 #[.val (.int ut), .val (.int uu), .val (.int ua), .val (.int ub), .val (.int uc), .val (.ref b_1), .val (.ref b_7), .val (.ref b_13), .val (.ref b_20), .val (.int ((ua + ub) + uc)), .val (.int ((ua + (0 : Int32)) + (0 : Int32))), .val (.int (((0 : Int32) + ub) + (0 : Int32))), .unset, .unset, .unset] [(.ref b_20)])) target
    refine st_43.trans ?_
    show Steps p.tables e below (T_43.setTop (mkF m 80 #[.val (.int ut), .val (.int uu), .val (.int ua), .val (.int ub), .val (.int uc), .val (.ref b_1), .val (.ref b_7), .val (.ref b_13), .val (.ref b_20), .val (.int ((ua + ub) + uc)), .val (.int ((ua + (0 : Int32)) + (0 : Int32))), .val (.int (((0 : Int32) + ub) + (0 : Int32))), .unset, .unset, .unset] [(.int (((0 : Int32) + (0 : Int32)) + uc))])) target
    refine XS.istore X_43.here hx rfl (hb hby at_80) rfl (l' := #[.val (.int ut), .val (.int uu), .val (.int ua), .val (.int ub), .val (.int uc), .val (.ref b_1), .val (.ref b_7), .val (.ref b_13), .val (.ref b_20), .val (.int ((ua + ub) + uc)), .val (.int ((ua + (0 : Int32)) + (0 : Int32))), .val (.int (((0 : Int32) + ub) + (0 : Int32))), .val (.int (((0 : Int32) + (0 : Int32)) + uc)), .unset, .unset]) rfl ?_
    show Steps p.tables e below (T_43.setTop (mkF m 82 #[.val (.int ut), .val (.int uu), .val (.int ua), .val (.int ub), .val (.int uc), .val (.ref b_1), .val (.ref b_7), .val (.ref b_13), .val (.ref b_20), .val (.int ((ua + ub) + uc)), .val (.int ((ua + (0 : Int32)) + (0 : Int32))), .val (.int (((0 : Int32) + ub) + (0 : Int32))), .val (.int (((0 : Int32) + (0 : Int32)) + uc)), .unset, .unset] [])) target
    refine XS.iload X_43.here hx rfl (hb hby at_82) rfl ?_
    show Steps p.tables e below (T_43.setTop (mkF m 84 #[.val (.int ut), .val (.int uu), .val (.int ua), .val (.int ub), .val (.int uc), .val (.ref b_1), .val (.ref b_7), .val (.ref b_13), .val (.ref b_20), .val (.int ((ua + ub) + uc)), .val (.int ((ua + (0 : Int32)) + (0 : Int32))), .val (.int (((0 : Int32) + ub) + (0 : Int32))), .val (.int (((0 : Int32) + (0 : Int32)) + uc)), .unset, .unset] [(.int ((ua + (0 : Int32)) + (0 : Int32)))])) target
    refine XS.iloadN X_43.here hx rfl (hb hby at_84) rfl ?_
    show Steps p.tables e below (T_43.setTop (mkF m 85 #[.val (.int ut), .val (.int uu), .val (.int ua), .val (.int ub), .val (.int uc), .val (.ref b_1), .val (.ref b_7), .val (.ref b_13), .val (.ref b_20), .val (.int ((ua + ub) + uc)), .val (.int ((ua + (0 : Int32)) + (0 : Int32))), .val (.int (((0 : Int32) + ub) + (0 : Int32))), .val (.int (((0 : Int32) + (0 : Int32)) + uc)), .unset, .unset] [(.int ua), (.int ((ua + (0 : Int32)) + (0 : Int32)))])) target
    refine XS.icmpNo X_43.here hx rfl (hb hby at_85) rfl (teq (by simp : ((ua + (0 : Int32)) + (0 : Int32)) = ua)).2 ?_
    show Steps p.tables e below (T_43.setTop (mkF m 88 #[.val (.int ut), .val (.int uu), .val (.int ua), .val (.int ub), .val (.int uc), .val (.ref b_1), .val (.ref b_7), .val (.ref b_13), .val (.ref b_20), .val (.int ((ua + ub) + uc)), .val (.int ((ua + (0 : Int32)) + (0 : Int32))), .val (.int (((0 : Int32) + ub) + (0 : Int32))), .val (.int (((0 : Int32) + (0 : Int32)) + uc)), .unset, .unset] [])) target
    refine XS.iload X_43.here hx rfl (hb hby at_88) rfl ?_
    show Steps p.tables e below (T_43.setTop (mkF m 90 #[.val (.int ut), .val (.int uu), .val (.int ua), .val (.int ub), .val (.int uc), .val (.ref b_1), .val (.ref b_7), .val (.ref b_13), .val (.ref b_20), .val (.int ((ua + ub) + uc)), .val (.int ((ua + (0 : Int32)) + (0 : Int32))), .val (.int (((0 : Int32) + ub) + (0 : Int32))), .val (.int (((0 : Int32) + (0 : Int32)) + uc)), .unset, .unset] [(.int (((0 : Int32) + ub) + (0 : Int32)))])) target
    refine XS.iloadN X_43.here hx rfl (hb hby at_90) rfl ?_
    show Steps p.tables e below (T_43.setTop (mkF m 91 #[.val (.int ut), .val (.int uu), .val (.int ua), .val (.int ub), .val (.int uc), .val (.ref b_1), .val (.ref b_7), .val (.ref b_13), .val (.ref b_20), .val (.int ((ua + ub) + uc)), .val (.int ((ua + (0 : Int32)) + (0 : Int32))), .val (.int (((0 : Int32) + ub) + (0 : Int32))), .val (.int (((0 : Int32) + (0 : Int32)) + uc)), .unset, .unset] [(.int ub), (.int (((0 : Int32) + ub) + (0 : Int32)))])) target
    refine XS.icmpNo X_43.here hx rfl (hb hby at_91) rfl (teq (by simp : (((0 : Int32) + ub) + (0 : Int32)) = ub)).2 ?_
    show Steps p.tables e below (T_43.setTop (mkF m 94 #[.val (.int ut), .val (.int uu), .val (.int ua), .val (.int ub), .val (.int uc), .val (.ref b_1), .val (.ref b_7), .val (.ref b_13), .val (.ref b_20), .val (.int ((ua + ub) + uc)), .val (.int ((ua + (0 : Int32)) + (0 : Int32))), .val (.int (((0 : Int32) + ub) + (0 : Int32))), .val (.int (((0 : Int32) + (0 : Int32)) + uc)), .unset, .unset] [])) target
    refine XS.iload X_43.here hx rfl (hb hby at_94) rfl ?_
    show Steps p.tables e below (T_43.setTop (mkF m 96 #[.val (.int ut), .val (.int uu), .val (.int ua), .val (.int ub), .val (.int uc), .val (.ref b_1), .val (.ref b_7), .val (.ref b_13), .val (.ref b_20), .val (.int ((ua + ub) + uc)), .val (.int ((ua + (0 : Int32)) + (0 : Int32))), .val (.int (((0 : Int32) + ub) + (0 : Int32))), .val (.int (((0 : Int32) + (0 : Int32)) + uc)), .unset, .unset] [(.int (((0 : Int32) + (0 : Int32)) + uc))])) target
    refine XS.iload X_43.here hx rfl (hb hby at_96) rfl ?_
    show Steps p.tables e below (T_43.setTop (mkF m 98 #[.val (.int ut), .val (.int uu), .val (.int ua), .val (.int ub), .val (.int uc), .val (.ref b_1), .val (.ref b_7), .val (.ref b_13), .val (.ref b_20), .val (.int ((ua + ub) + uc)), .val (.int ((ua + (0 : Int32)) + (0 : Int32))), .val (.int (((0 : Int32) + ub) + (0 : Int32))), .val (.int (((0 : Int32) + (0 : Int32)) + uc)), .unset, .unset] [(.int uc), (.int (((0 : Int32) + (0 : Int32)) + uc))])) target
    refine XS.icmpNo X_43.here hx rfl (hb hby at_98) rfl (teq (by simp : (((0 : Int32) + (0 : Int32)) + uc) = uc)).2 ?_
    show Steps p.tables e below (T_43.setTop (mkF m 101 #[.val (.int ut), .val (.int uu), .val (.int ua), .val (.int ub), .val (.int uc), .val (.ref b_1), .val (.ref b_7), .val (.ref b_13), .val (.ref b_20), .val (.int ((ua + ub) + uc)), .val (.int ((ua + (0 : Int32)) + (0 : Int32))), .val (.int (((0 : Int32) + ub) + (0 : Int32))), .val (.int (((0 : Int32) + (0 : Int32)) + uc)), .unset, .unset] [])) target
    refine XS.iconst X_43.here hx rfl (hb hby at_101) ?_
    show Steps p.tables e below (T_43.setTop (mkF m 102 #[.val (.int ut), .val (.int uu), .val (.int ua), .val (.int ub), .val (.int uc), .val (.ref b_1), .val (.ref b_7), .val (.ref b_13), .val (.ref b_20), .val (.int ((ua + ub) + uc)), .val (.int ((ua + (0 : Int32)) + (0 : Int32))), .val (.int (((0 : Int32) + ub) + (0 : Int32))), .val (.int (((0 : Int32) + (0 : Int32)) + uc)), .unset, .unset] [(.int (1 : Int32))])) target
    refine XS.goto X_43.here hx rfl (pc0 := 102) (pc' := 106) rfl (hb hby at_102) (by decide) (by decide) ?_
    show Steps p.tables e below (T_43.setTop (mkF m 106 #[.val (.int ut), .val (.int uu), .val (.int ua), .val (.int ub), .val (.int uc), .val (.ref b_1), .val (.ref b_7), .val (.ref b_13), .val (.ref b_20), .val (.int ((ua + ub) + uc)), .val (.int ((ua + (0 : Int32)) + (0 : Int32))), .val (.int (((0 : Int32) + ub) + (0 : Int32))), .val (.int (((0 : Int32) + (0 : Int32)) + uc)), .unset, .unset] [(.int (1 : Int32))])) target
    refine XS.istore X_43.here hx rfl (hb hby at_106) rfl (l' := #[.val (.int ut), .val (.int uu), .val (.int ua), .val (.int ub), .val (.int uc), .val (.ref b_1), .val (.ref b_7), .val (.ref b_13), .val (.ref b_20), .val (.int ((ua + ub) + uc)), .val (.int ((ua + (0 : Int32)) + (0 : Int32))), .val (.int (((0 : Int32) + ub) + (0 : Int32))), .val (.int (((0 : Int32) + (0 : Int32)) + uc)), .val (.int (1 : Int32)), .unset]) rfl ?_
    show Steps p.tables e below (T_43.setTop (mkF m 108 #[.val (.int ut), .val (.int uu), .val (.int ua), .val (.int ub), .val (.int uc), .val (.ref b_1), .val (.ref b_7), .val (.ref b_13), .val (.ref b_20), .val (.int ((ua + ub) + uc)), .val (.int ((ua + (0 : Int32)) + (0 : Int32))), .val (.int (((0 : Int32) + ub) + (0 : Int32))), .val (.int (((0 : Int32) + (0 : Int32)) + uc)), .val (.int (1 : Int32)), .unset] [])) target
    refine XS.iload X_43.here hx rfl (hb hby at_108) rfl ?_
    show Steps p.tables e below (T_43.setTop (mkF m 110 #[.val (.int ut), .val (.int uu), .val (.int ua), .val (.int ub), .val (.int uc), .val (.ref b_1), .val (.ref b_7), .val (.ref b_13), .val (.ref b_20), .val (.int ((ua + ub) + uc)), .val (.int ((ua + (0 : Int32)) + (0 : Int32))), .val (.int (((0 : Int32) + ub) + (0 : Int32))), .val (.int (((0 : Int32) + (0 : Int32)) + uc)), .val (.int (1 : Int32)), .unset] [(.int ((ua + ub) + uc))])) target
    refine XS.iload X_43.here hx rfl (hb hby at_110) rfl ?_
    show Steps p.tables e below (T_43.setTop (mkF m 112 #[.val (.int ut), .val (.int uu), .val (.int ua), .val (.int ub), .val (.int uc), .val (.ref b_1), .val (.ref b_7), .val (.ref b_13), .val (.ref b_20), .val (.int ((ua + ub) + uc)), .val (.int ((ua + (0 : Int32)) + (0 : Int32))), .val (.int (((0 : Int32) + ub) + (0 : Int32))), .val (.int (((0 : Int32) + (0 : Int32)) + uc)), .val (.int (1 : Int32)), .unset] [(.int ((ua + (0 : Int32)) + (0 : Int32))), (.int ((ua + ub) + uc))])) target
    refine XS.iload X_43.here hx rfl (hb hby at_112) rfl ?_
    show Steps p.tables e below (T_43.setTop (mkF m 114 #[.val (.int ut), .val (.int uu), .val (.int ua), .val (.int ub), .val (.int uc), .val (.ref b_1), .val (.ref b_7), .val (.ref b_13), .val (.ref b_20), .val (.int ((ua + ub) + uc)), .val (.int ((ua + (0 : Int32)) + (0 : Int32))), .val (.int (((0 : Int32) + ub) + (0 : Int32))), .val (.int (((0 : Int32) + (0 : Int32)) + uc)), .val (.int (1 : Int32)), .unset] [(.int (((0 : Int32) + ub) + (0 : Int32))), (.int ((ua + (0 : Int32)) + (0 : Int32))), (.int ((ua + ub) + uc))])) target
    refine XS.iadd X_43.here hx rfl (hb hby at_114) rfl ?_
    show Steps p.tables e below (T_43.setTop (mkF m 115 #[.val (.int ut), .val (.int uu), .val (.int ua), .val (.int ub), .val (.int uc), .val (.ref b_1), .val (.ref b_7), .val (.ref b_13), .val (.ref b_20), .val (.int ((ua + ub) + uc)), .val (.int ((ua + (0 : Int32)) + (0 : Int32))), .val (.int (((0 : Int32) + ub) + (0 : Int32))), .val (.int (((0 : Int32) + (0 : Int32)) + uc)), .val (.int (1 : Int32)), .unset] [(.int (((ua + (0 : Int32)) + (0 : Int32)) + (((0 : Int32) + ub) + (0 : Int32)))), (.int ((ua + ub) + uc))])) target
    refine XS.iload X_43.here hx rfl (hb hby at_115) rfl ?_
    show Steps p.tables e below (T_43.setTop (mkF m 117 #[.val (.int ut), .val (.int uu), .val (.int ua), .val (.int ub), .val (.int uc), .val (.ref b_1), .val (.ref b_7), .val (.ref b_13), .val (.ref b_20), .val (.int ((ua + ub) + uc)), .val (.int ((ua + (0 : Int32)) + (0 : Int32))), .val (.int (((0 : Int32) + ub) + (0 : Int32))), .val (.int (((0 : Int32) + (0 : Int32)) + uc)), .val (.int (1 : Int32)), .unset] [(.int (((0 : Int32) + (0 : Int32)) + uc)), (.int (((ua + (0 : Int32)) + (0 : Int32)) + (((0 : Int32) + ub) + (0 : Int32)))), (.int ((ua + ub) + uc))])) target
    refine XS.iadd X_43.here hx rfl (hb hby at_117) rfl ?_
    show Steps p.tables e below (T_43.setTop (mkF m 118 #[.val (.int ut), .val (.int uu), .val (.int ua), .val (.int ub), .val (.int uc), .val (.ref b_1), .val (.ref b_7), .val (.ref b_13), .val (.ref b_20), .val (.int ((ua + ub) + uc)), .val (.int ((ua + (0 : Int32)) + (0 : Int32))), .val (.int (((0 : Int32) + ub) + (0 : Int32))), .val (.int (((0 : Int32) + (0 : Int32)) + uc)), .val (.int (1 : Int32)), .unset] [(.int ((((ua + (0 : Int32)) + (0 : Int32)) + (((0 : Int32) + ub) + (0 : Int32))) + (((0 : Int32) + (0 : Int32)) + uc))), (.int ((ua + ub) + uc))])) target
    refine XS.icmpNo X_43.here hx rfl (hb hby at_118) rfl (teq (by simp : ((ua + ub) + uc) = ((((ua + (0 : Int32)) + (0 : Int32)) + (((0 : Int32) + ub) + (0 : Int32))) + (((0 : Int32) + (0 : Int32)) + uc)))).2 ?_
    show Steps p.tables e below (T_43.setTop (mkF m 121 #[.val (.int ut), .val (.int uu), .val (.int ua), .val (.int ub), .val (.int uc), .val (.ref b_1), .val (.ref b_7), .val (.ref b_13), .val (.ref b_20), .val (.int ((ua + ub) + uc)), .val (.int ((ua + (0 : Int32)) + (0 : Int32))), .val (.int (((0 : Int32) + ub) + (0 : Int32))), .val (.int (((0 : Int32) + (0 : Int32)) + uc)), .val (.int (1 : Int32)), .unset] [])) target
    refine XS.iconst X_43.here hx rfl (hb hby at_121) ?_
    show Steps p.tables e below (T_43.setTop (mkF m 122 #[.val (.int ut), .val (.int uu), .val (.int ua), .val (.int ub), .val (.int uc), .val (.ref b_1), .val (.ref b_7), .val (.ref b_13), .val (.ref b_20), .val (.int ((ua + ub) + uc)), .val (.int ((ua + (0 : Int32)) + (0 : Int32))), .val (.int (((0 : Int32) + ub) + (0 : Int32))), .val (.int (((0 : Int32) + (0 : Int32)) + uc)), .val (.int (1 : Int32)), .unset] [(.int (1 : Int32))])) target
    refine XS.goto X_43.here hx rfl (pc0 := 122) (pc' := 126) rfl (hb hby at_122) (by decide) (by decide) ?_
    show Steps p.tables e below (T_43.setTop (mkF m 126 #[.val (.int ut), .val (.int uu), .val (.int ua), .val (.int ub), .val (.int uc), .val (.ref b_1), .val (.ref b_7), .val (.ref b_13), .val (.ref b_20), .val (.int ((ua + ub) + uc)), .val (.int ((ua + (0 : Int32)) + (0 : Int32))), .val (.int (((0 : Int32) + ub) + (0 : Int32))), .val (.int (((0 : Int32) + (0 : Int32)) + uc)), .val (.int (1 : Int32)), .unset] [(.int (1 : Int32))])) target
    refine XS.istore X_43.here hx rfl (hb hby at_126) rfl (l' := #[.val (.int ut), .val (.int uu), .val (.int ua), .val (.int ub), .val (.int uc), .val (.ref b_1), .val (.ref b_7), .val (.ref b_13), .val (.ref b_20), .val (.int ((ua + ub) + uc)), .val (.int ((ua + (0 : Int32)) + (0 : Int32))), .val (.int (((0 : Int32) + ub) + (0 : Int32))), .val (.int (((0 : Int32) + (0 : Int32)) + uc)), .val (.int (1 : Int32)), .val (.int (1 : Int32))]) rfl ?_
    show Steps p.tables e below (T_43.setTop (mkF m 128 #[.val (.int ut), .val (.int uu), .val (.int ua), .val (.int ub), .val (.int uc), .val (.ref b_1), .val (.ref b_7), .val (.ref b_13), .val (.ref b_20), .val (.int ((ua + ub) + uc)), .val (.int ((ua + (0 : Int32)) + (0 : Int32))), .val (.int (((0 : Int32) + ub) + (0 : Int32))), .val (.int (((0 : Int32) + (0 : Int32)) + uc)), .val (.int (1 : Int32)), .val (.int (1 : Int32))] [])) target
    refine XS.iload X_43.here hx rfl (hb hby at_128) rfl ?_
    show Steps p.tables e below (T_43.setTop (mkF m 130 #[.val (.int ut), .val (.int uu), .val (.int ua), .val (.int ub), .val (.int uc), .val (.ref b_1), .val (.ref b_7), .val (.ref b_13), .val (.ref b_20), .val (.int ((ua + ub) + uc)), .val (.int ((ua + (0 : Int32)) + (0 : Int32))), .val (.int (((0 : Int32) + ub) + (0 : Int32))), .val (.int (((0 : Int32) + (0 : Int32)) + uc)), .val (.int (1 : Int32)), .val (.int (1 : Int32))] [(.int (1 : Int32))])) target
    refine XS.ifNo X_43.here hx rfl (hb hby at_130) rfl ((if0 _ _).trans (feq (by decide : ¬ ((1 : Int32) = (0 : Int32)))).1) ?_
    show Steps p.tables e below (T_43.setTop (mkF m 133 #[.val (.int ut), .val (.int uu), .val (.int ua), .val (.int ub), .val (.int uc), .val (.ref b_1), .val (.ref b_7), .val (.ref b_13), .val (.ref b_20), .val (.int ((ua + ub) + uc)), .val (.int ((ua + (0 : Int32)) + (0 : Int32))), .val (.int (((0 : Int32) + ub) + (0 : Int32))), .val (.int (((0 : Int32) + (0 : Int32)) + uc)), .val (.int (1 : Int32)), .val (.int (1 : Int32))] [])) target
    refine XS.iload X_43.here hx rfl (hb hby at_133) rfl ?_
    show Steps p.tables e below (T_43.setTop (mkF m 135 #[.val (.int ut), .val (.int uu), .val (.int ua), .val (.int ub), .val (.int uc), .val (.ref b_1), .val (.ref b_7), .val (.ref b_13), .val (.ref b_20), .val (.int ((ua + ub) + uc)), .val (.int ((ua + (0 : Int32)) + (0 : Int32))), .val (.int (((0 : Int32) + ub) + (0 : Int32))), .val (.int (((0 : Int32) + (0 : Int32)) + uc)), .val (.int (1 : Int32)), .val (.int (1 : Int32))] [(.int (1 : Int32))])) target
    refine XS.ifNo X_43.here hx rfl (hb hby at_135) rfl ((if0 _ _).trans (feq (by decide : ¬ ((1 : Int32) = (0 : Int32)))).1) ?_
    show Steps p.tables e below (T_43.setTop (mkF m 138 #[.val (.int ut), .val (.int uu), .val (.int ua), .val (.int ub), .val (.int uc), .val (.ref b_1), .val (.ref b_7), .val (.ref b_13), .val (.ref b_20), .val (.int ((ua + ub) + uc)), .val (.int ((ua + (0 : Int32)) + (0 : Int32))), .val (.int (((0 : Int32) + ub) + (0 : Int32))), .val (.int (((0 : Int32) + (0 : Int32)) + uc)), .val (.int (1 : Int32)), .val (.int (1 : Int32))] [])) target
    refine XS.iconst X_43.here hx rfl (hb hby at_138) ?_
    show Steps p.tables e below (T_43.setTop (mkF m 139 #[.val (.int ut), .val (.int uu), .val (.int ua), .val (.int ub), .val (.int uc), .val (.ref b_1), .val (.ref b_7), .val (.ref b_13), .val (.ref b_20), .val (.int ((ua + ub) + uc)), .val (.int ((ua + (0 : Int32)) + (0 : Int32))), .val (.int (((0 : Int32) + ub) + (0 : Int32))), .val (.int (((0 : Int32) + (0 : Int32)) + uc)), .val (.int (1 : Int32)), .val (.int (1 : Int32))] [(.int (1 : Int32))])) target
    refine XS.goto X_43.here hx rfl (pc0 := 139) (pc' := 143) rfl (hb hby at_139) (by decide) (by decide) ?_
    show Steps p.tables e below (T_43.setTop (mkF m 143 #[.val (.int ut), .val (.int uu), .val (.int ua), .val (.int ub), .val (.int uc), .val (.ref b_1), .val (.ref b_7), .val (.ref b_13), .val (.ref b_20), .val (.int ((ua + ub) + uc)), .val (.int ((ua + (0 : Int32)) + (0 : Int32))), .val (.int (((0 : Int32) + ub) + (0 : Int32))), .val (.int (((0 : Int32) + (0 : Int32)) + uc)), .val (.int (1 : Int32)), .val (.int (1 : Int32))] [(.int (1 : Int32))])) target
    exact kt
  obtain ⟨fs, hr, hrun, hended, hW, hsame⟩ := X_43.leave (v := some (.int (1 : Int32))) (fun h => by rw [Bd.returns] at h; cases h)
  refine ⟨_, _, retN X_43 hx (t := .boolean) Bd.returns (by simp) (hb hby at_143) hr, hrun, hended, _, _, rfl, ?_, ⟨_, rfl⟩, hW, hsame.mono (by decide) (by decide)⟩
  show Q_law Z ut uu ua ub uc h0 n0 _ T_43.heap _
  rw [p_43_0]
  exact ⟨rfl, N_43⟩
set_option maxRecDepth 65536 in
set_option maxHeartbeats 40000000 in
theorem comes_1 {Post : Tables → Env → Array Value → State → Outcome → State → Prop} (hpost : ∀ tb e args s v u, (limb_1_1.after args s (.returned v) u = true ∧ limb_1_2.after args s (.returned v) u = true ∧ True) → FrameEnd s (.returned v) u (Jvm.fieldLocs frame_1_writes args s ++ Jvm.arrayLocs frame_1_arrays args s ++ Jvm.staticLocs frame_1_statics s) 16 128 → Post tb e args s (.returned v) u) :
    ArmFor flags0 classFile x code maxLocals ret World_1 tables_1 room_1 Calls_1 rest_1 Pre_1 Post := by
  intro l hfl _ _ p e ha hc hk s m args below hf hA hF happ hP
  obtain ⟨hcalls, hrest, hpre⟩ := hP
  obtain ⟨-, -, -, hnamed, -, -, -, hat⟩ := (Spec.applies_iff hf).mp happ
  obtain ⟨hg, hn⟩ := and_e (Cond.before_iff.mp (show (Jvm.Cond.and given_1 narrow_1).before args s = true from hpre))
  obtain ⟨gc0, gd0⟩ := and_e hg
  obtain ⟨gc1, gd1⟩ := and_e gd0
  obtain ⟨gc2, gd2⟩ := and_e gd1
  obtain ⟨gc3, gd3⟩ := and_e gd2
  obtain ⟨gc4, gd4⟩ := and_e gd3
  obtain ⟨w0, w1, w2, w3, w4, rfl⟩ : ∃ w0 w1 w2 w3 w4 : Value, args = #[w0, w1, w2, w3, w4] := by
    have hs : args.size = 5 := by simpa [Cond.value, given_1] using gc0
    obtain ⟨L⟩ := args
    match L, hs with
    | [w0, w1, w2, w3, w4], _ => exact ⟨w0, w1, w2, w3, w4, rfl⟩
  have hw := fun d (hd : d ∈ tables_1) => atoms_spec (ws := Jvm.Cond.code x code maxLocals ret :: tables_1) hat d (List.mem_cons_of_mem _ hd)
  obtain ⟨i0, ei0⟩ := is_v gc1
  obtain rfl : w0 = (.int i0) := Option.some.inj ei0
  obtain ⟨i1, ei1⟩ := is_v gc2
  obtain rfl : w1 = (.int i1) := Option.some.inj ei1
  obtain ⟨i2, ei2⟩ := is_v gc3
  obtain rfl : w2 = (.int i2) := Option.some.inj ei2
  obtain ⟨i3, ei3⟩ := is_v gc4
  obtain rfl : w3 = (.int i3) := Option.some.inj ei3
  obtain ⟨i4, ei4⟩ := is_v gd4
  obtain rfl : w4 = (.int i4) := Option.some.inj ei4
  obtain ⟨n, o, h1, h2, h3, _, L, rfl, ⟨rfl, N⟩, hq⟩ := rm_law l s _ hw tables_1 i0 i1 i2 i3 i4 s.heap s.heap.size (Nat.le_refl _) p e ha hc hk s m _ below hf ((Spec.applies_iff_loose hf).mp happ).1 ⟨rfl, State.Warmed39.refl s, rfl⟩ trivial
  refine ⟨n, _, h1, h2, h3, hpost _ _ _ _ _ _ ⟨Cond.after_iff.mpr rfl, Cond.after_iff.mpr (eq_i res_at (Term.int_eval (1)) rfl), trivial⟩ ⟨hq.1, hq.2.1, (hq.2.2.sift fun y hy => Or.inr (N y hy)).mono (by decide) (by decide)⟩⟩
theorem main_1_1 : Claimed_1_1 := comes_1 fun _ _ _ _ _ _ h hF => ⟨h.1, hF⟩
theorem main_1_2 : Claimed_1_2 := comes_1 fun _ _ _ _ _ _ h hF => ⟨h.2.1, hF⟩
end Jvm.Pilot.@@N@@
namespace Jvm.Pilot.@@N@@
open Jvm Jvm.ClassFile Sem Op Lib Jvm.Free Jvm.Stand Jvm.Pilot.@@N@@.Jvm.D
/-! MADE BY PROGRAM (witnessworld.py) out of the Statement's table words and the real class files: 10 classes; the members and pool entries that the words name. The judged class is class 1, her method 1. -/
namespace start1
open Jvm.ClassFile
def u (s : String) : CpInfo := .utf8 (stringToUtf16 s)
/-- a pool by its gaps: so many unusable entries, then the entry; so many at the end -/
def gap : Nat → List CpInfo → List CpInfo
  | 0, r => r
  | n + 1, r => .unusable :: gap n r
def poolList (es : List (Nat × CpInfo)) (last : Nat) : List CpInfo := es.foldr (fun e r => gap e.1 (e.2 :: r)) (gap last [])
def pool (es : List (Nat × CpInfo)) (last : Nat) : Array CpInfo := ⟨poolList es last⟩
def fileOf (pool : Array CpInfo) (this : Nat) (attrs : Array Attribute := #[]) (ms : Array MethodInfo := #[]) (fl : Nat := 33) (sup : Nat := 0) (ifs : Array Nat := #[]) (fds : Array FieldInfo := #[]) : ClassFile where
  minorVersion := 0
  majorVersion := 65
  constantPool := pool
  accessFlags := fl
  thisClass := this
  superClass := sup
  interfaces := ifs
  fields := fds
  methods := ms
  attributes := attrs
def plain (name : String) (sup : Option ClassId) : Class where
  name := name
  kind := .ordinary
  loader := none
  accessFlags := 33
  super := sup
  interfaces := #[]
  cf := none
  fields := #[]
  methods := #[]
  instanceTypes := #[]
  staticTypes := #[]
  resolved := #[]
  callSites := []
  init := .initialized
  statics := none
  mirror := none

def pool0 : Array CpInfo := pool [(5, u "<init>"), (0, u "()V"), (1, .class_ 10), (1, u "java/lang/Object")] 113

def k0c0 : Code := { maxStack := 0, maxLocals := 1, code := object_method_1_code, exceptionTable := #[], attributes := #[] }
def k0m0 : Method := { name := "<init>", desc := "()V", sig := { parameters := [], returnType := none }, accessFlags := 1, code := some k0c0 }
/-- java/lang/Object -/
def k0 : Class := { plain "java/lang/Object" none with
  accessFlags := 33
  interfaces := #[]
  cf := some (fileOf pool0 8 #[] #[{ accessFlags := 1, nameIndex := 5, descriptorIndex := 6, attributes := #[] }] 33 0 #[] #[])
  fields := #[]
  methods := #[k0m0]
  instanceTypes := #[]
  staticTypes := #[]
  resolved := Array.replicate 124 none
  statics := none }

def pool1 : Array CpInfo := pool [(2, .class_ 4), (1, u "java/lang/Object"), (0, u "<init>"), (0, u "()V"), (0, .class_ 8), (0, u "com/example/cardwarden/cardwarden/sim/Summary"), (0, .methodref 7 10), (0, .nameAndType 5 11), (0, u "(IIII)V"), (0, .methodref 7 13), (0, .nameAndType 14 15), (0, u "frauds"), (0, u "()I"), (0, .class_ 17), (0, u "com/example/cardwarden/cardwarden/sim/SummaryFraudsPinLaw"), (2, u "law"), (0, u "(IIIII)Z")] 3

def k1m0 : Method := { name := "<init>", desc := "()V", sig := { parameters := [], returnType := none }, accessFlags := 1, code := none }
def k1c1 : Code := { maxStack := 6, maxLocals := 15, code := code, exceptionTable := #[], attributes := #[] }
def k1m1 : Method := { name := "law", desc := "(IIIII)Z", sig := { parameters := [.int, .int, .int, .int, .int], returnType := some .boolean }, accessFlags := 9, code := some k1c1 }
/-- com/example/cardwarden/cardwarden/sim/SummaryFraudsPinLaw -/
def k1 : Class := { plain "com/example/cardwarden/cardwarden/sim/SummaryFraudsPinLaw" (some 0) with
  accessFlags := 49
  interfaces := #[]
  cf := some (fileOf pool1 16 #[] #[{ accessFlags := 1, nameIndex := 5, descriptorIndex := 6, attributes := #[] }, { accessFlags := 9, nameIndex := 20, descriptorIndex := 21, attributes := #[] }] 49 2 #[] #[])
  fields := #[]
  methods := #[k1m0, k1m1]
  instanceTypes := #[]
  staticTypes := #[]
  resolved := Array.replicate 25 none
  statics := none }

def pool2 : Array CpInfo := pool [(1, .methodref 2 3), (0, .class_ 4), (0, .nameAndType 5 6), (0, u "java/lang/Object"), (0, u "<init>"), (0, u "()V"), (0, .class_ 8), (0, u "java/lang/Record")] 13

def k2c0 : Code := { maxStack := 1, maxLocals := 1, code := jdk_30_method_1_code, exceptionTable := #[], attributes := #[] }
def k2m0 : Method := { name := "<init>", desc := "()V", sig := { parameters := [], returnType := none }, accessFlags := 4, code := some k2c0 }
/-- java/lang/Record -/
def k2 : Class := { plain "java/lang/Record" (some 0) with
  accessFlags := 1057
  interfaces := #[]
  cf := some (fileOf pool2 7 #[] #[{ accessFlags := 4, nameIndex := 5, descriptorIndex := 6, attributes := #[] }] 1057 2 #[] #[])
  fields := #[]
  methods := #[k2m0]
  instanceTypes := #[]
  staticTypes := #[]
  resolved := Array.replicate 22 none
  statics := none }

def pool3 : Array CpInfo := pool [(1, .methodref 2 3), (0, .class_ 4), (0, .nameAndType 5 6), (0, u "java/lang/Record"), (0, u "<init>"), (0, u "()V"), (0, .fieldref 8 9), (0, .class_ 10), (0, .nameAndType 11 12), (0, u "com/example/cardwarden/cardwarden/sim/Summary"), (0, u "transactions"), (0, u "I"), (0, .fieldref 8 14), (0, .nameAndType 15 12), (0, u "scenario1"), (0, .fieldref 8 17), (0, .nameAndType 18 12), (0, u "scenario2"), (0, .fieldref 8 20), (0, .nameAndType 21 12), (0, u "scenario3"), (12, u "(IIII)V"), (3, u "frauds"), (0, u "()I")] 25

def k3c0 : Code := { maxStack := 2, maxLocals := 5, code := prog_52_method_1_code, exceptionTable := #[], attributes := #[] }
def k3m0 : Method := { name := "<init>", desc := "(IIII)V", sig := { parameters := [.int, .int, .int, .int], returnType := none }, accessFlags := 1, code := some k3c0 }
def k3c1 : Code := { maxStack := 2, maxLocals := 1, code := prog_52_method_2_code, exceptionTable := #[], attributes := #[] }
def k3m1 : Method := { name := "frauds", desc := "()I", sig := { parameters := [], returnType := some .int }, accessFlags := 1, code := some k3c1 }
/-- com/example/cardwarden/cardwarden/sim/Summary -/
def k3 : Class := { plain "com/example/cardwarden/cardwarden/sim/Summary" (some 2) with
  accessFlags := 49
  interfaces := #[]
  cf := some (fileOf pool3 8 #[] #[{ accessFlags := 1, nameIndex := 5, descriptorIndex := 34, attributes := #[] }, { accessFlags := 1, nameIndex := 38, descriptorIndex := 39, attributes := #[] }] 49 2 #[] #[{ accessFlags := 18, nameIndex := 11, descriptorIndex := 12, attributes := #[] }, { accessFlags := 18, nameIndex := 15, descriptorIndex := 12, attributes := #[] }, { accessFlags := 18, nameIndex := 18, descriptorIndex := 12, attributes := #[] }, { accessFlags := 18, nameIndex := 21, descriptorIndex := 12, attributes := #[] }])
  fields := #[{ name := "transactions", type := .int, accessFlags := 18, slot := 0, constantValue := 0 }, { name := "scenario1", type := .int, accessFlags := 18, slot := 1, constantValue := 0 }, { name := "scenario2", type := .int, accessFlags := 18, slot := 2, constantValue := 0 }, { name := "scenario3", type := .int, accessFlags := 18, slot := 3, constantValue := 0 }]
  methods := #[k3m0, k3m1]
  instanceTypes := #[.int, .int, .int, .int]
  staticTypes := #[]
  resolved := Array.replicate 65 none
  statics := none }

def pool4 : Array CpInfo := pool [(1, u "java/lang/Cloneable"), (0, .class_ 1), (0, u "java/lang/Object"), (0, .class_ 3)] 3

/-- java/lang/Cloneable -/
def k4 : Class := { plain "java/lang/Cloneable" (some 0) with
  accessFlags := 1537
  interfaces := #[]
  cf := some (fileOf pool4 2 #[] #[] 1537 4 #[] #[])
  fields := #[]
  methods := #[]
  instanceTypes := #[]
  staticTypes := #[]
  resolved := Array.replicate 8 none
  statics := none }

def pool5 : Array CpInfo := pool [(1, u "java/io/Serializable"), (0, .class_ 1), (0, u "java/lang/Object"), (0, .class_ 3)] 3

/-- java/io/Serializable -/
def k5 : Class := { plain "java/io/Serializable" (some 0) with
  accessFlags := 1537
  interfaces := #[]
  cf := some (fileOf pool5 2 #[] #[] 1537 4 #[] #[])
  fields := #[]
  methods := #[]
  instanceTypes := #[]
  staticTypes := #[]
  resolved := Array.replicate 8 none
  statics := none }

/-- the primitive byte -/
def k6 : Class := { plain "byte" none with kind := .primitive 'B', accessFlags := 0x411 }
/-- [B -/
def k7 : Class := { plain "[B" (some 0) with kind := .array 6 .byte, interfaces := #[4, 5], accessFlags := 1041 }

/-- the primitive int -/
def k8 : Class := { plain "int" none with kind := .primitive 'I', accessFlags := 0x411 }
/-- [I -/
def k9 : Class := { plain "[I" (some 0) with kind := .array 8 .int, interfaces := #[4, 5], accessFlags := 1041 }

def heap : Heap := #[]
def classes : Array Class := #[k0, k1, k2, k3, k4, k5, k6, k7, k8, k9]
def interned : List (Array UInt16 × Addr) := []
def slotsUsed : Nat := 0
def theMethod : MethodId := ⟨1, 1⟩
def args0 : Array Value := #[.int 5, .int 1, .int 2, .int 3, .int 4]
def aboutOver (below : List Frame) : State where
  vm := { classes := classes, interned := interned.toArray }
  heap := heap
  slotsUsed := slotsUsed
  threads := #[{ frames := .invoking theMethod args0 :: below }]
def below0 : List Frame := [.native { method := ⟨0, 0⟩, args := #[] }]
def about1 : State := aboutOver below0
def p0 : Program := .bare "" "" ""
def e0 : Env := launch0.env 0 0 0
theorem w_frames : about1.frames = Frame.invoking theMethod args0 :: below0 := rfl
set_option maxRecDepth 65536 in
theorem w_args : argsFit about1.vm theMethod args0 = true := by decide +kernel
set_option maxRecDepth 65536 in
theorem w_heap : heapFits about1 = true := by decide +kernel
set_option maxRecDepth 65536 in
theorem w_runnable : about1.curStatus? = some .runnable := by decide +kernel
set_option maxRecDepth 65536 in
theorem w_alone : about1.alone = true := by decide +kernel
set_option maxRecDepth 65536 in
theorem w_named : about1.methodNamed? x = some theMethod := by decide +kernel
set_option maxRecDepth 65536 in
theorem w_hears : about1.hears theMethod below0 = true := by decide +kernel
set_option maxRecDepth 65536 in
theorem w_ripe : about1.ripe theMethod args0 below0 = true := by decide +kernel
theorem w_running : about1.status = .running := rfl
set_option maxRecDepth 65536 in
theorem w_room : about1.hasRoom e0.platform room_1 = true :=
  launch0.hasRoom_least _ room_1 (by decide +kernel) (by decide +kernel) (by decide +kernel) (by decide +kernel) (by decide +kernel) (by decide +kernel)
theorem allAtoms_all (ts : List Jvm.Cond) (a : Array Jvm.Value) (st : Jvm.State) : (allAtoms ts).before a st = ts.all (fun c => c.before a st) := by
  induction ts with
  | nil => rfl
  | cons c t ih =>
    show (Jvm.Cond.and c (allAtoms t)).before a st = _
    rw [Jvm.Cond.before_and, ih, List.all_cons]
def words1 : List Jvm.Cond := Jvm.Cond.code x code maxLocals ret :: tables_1
/-- a 'code' word, met by the world's own term for the bytes: nothing is compared byte by byte -/
theorem code_word {y : MethodName} {bytes : ByteArray} {mx : Nat} {rt : Option FieldType} {a : Array Value} {s : State} {m : MethodId} {meth : Method} {c : Code} (h1 : s.methodNamed? y = some m) (h2 : s.vm.method? m = some meth) (h3 : meth.code = some c) (h4 : c.code = bytes)
    (h5 : (c.maxLocals == mx && c.exceptionTable.isEmpty && decide (c.maxStack ≤ mostOperands) && decide (meth.sig.returnType = rt) && !meth.locks && decide (parseMethodDescriptor y.desc = some meth.sig)) = true) : (Jvm.Cond.code y bytes mx rt).before a s = true := by
  simp only [Bool.and_eq_true, beq_iff_eq, Bool.not_eq_true', decide_eq_true_eq] at h5
  obtain ⟨⟨⟨⟨⟨g1, g2⟩, g3⟩, g4⟩, g5⟩, g6⟩ := h5
  simp [Cond.before, Cond.holds, Cond.value, h1, h2, h3, h4, g1, g2, g3, g4, g5, g6]
def isCode : Jvm.Cond → Bool
  | .code _ _ _ _ => true
  | _ => false
theorem all_split {L : List Jvm.Cond} {P : Jvm.Cond → Bool} (h1 : L.all (fun c => isCode c || P c) = true) (h2 : ∀ c ∈ L.filter isCode, P c = true) : L.all P = true := by
  refine List.all_eq_true.mpr fun c hc => ?_
  have h := List.all_eq_true.mp h1 c hc
  rcases Bool.eq_false_or_eq_true (isCode c) with hi | hi
  · exact h2 c (List.mem_filter.mpr ⟨hc, hi⟩)
  · simpa [hi] using h
set_option maxRecDepth 65536 in
theorem w_c0 : (Jvm.Cond.code x code maxLocals ret).before args0 about1 = true := code_word (m := ⟨1, 1⟩) (meth := k1m1) (c := k1c1) (by decide +kernel) rfl rfl rfl (by decide +kernel)
set_option maxRecDepth 65536 in
theorem w_c1 : (Jvm.Cond.code ({ cls := "com/example/cardwarden/cardwarden/sim/Summary", name := "<init>", desc := "(IIII)V" } : Jvm.MethodName) prog_52_method_1_code (5 : Nat) (Option.none : Option Jvm.ClassFile.FieldType)).before args0 about1 = true := code_word (m := ⟨3, 0⟩) (meth := k3m0) (c := k3c0) (by decide +kernel) rfl rfl rfl (by decide +kernel)
set_option maxRecDepth 65536 in
theorem w_c2 : (Jvm.Cond.code ({ cls := "java/lang/Record", name := "<init>", desc := "()V" } : Jvm.MethodName) jdk_30_method_1_code (1 : Nat) (Option.none : Option Jvm.ClassFile.FieldType)).before args0 about1 = true := code_word (m := ⟨2, 0⟩) (meth := k2m0) (c := k2c0) (by decide +kernel) rfl rfl rfl (by decide +kernel)
set_option maxRecDepth 65536 in
theorem w_c3 : (Jvm.Cond.code ({ cls := "java/lang/Object", name := "<init>", desc := "()V" } : Jvm.MethodName) object_method_1_code (1 : Nat) (Option.none : Option Jvm.ClassFile.FieldType)).before args0 about1 = true := code_word (m := ⟨0, 0⟩) (meth := k0m0) (c := k0c0) (by decide +kernel) rfl rfl rfl (by decide +kernel)
set_option maxRecDepth 65536 in
theorem w_c4 : (Jvm.Cond.code ({ cls := "com/example/cardwarden/cardwarden/sim/Summary", name := "frauds", desc := "()I" } : Jvm.MethodName) prog_52_method_2_code (1 : Nat) (Option.some Jvm.ClassFile.FieldType.int)).before args0 about1 = true := code_word (m := ⟨3, 1⟩) (meth := k3m1) (c := k3c1) (by decide +kernel) rfl rfl rfl (by decide +kernel)
def codes1 : List Jvm.Cond := [Jvm.Cond.code x code maxLocals ret, Jvm.Cond.code ({ cls := "com/example/cardwarden/cardwarden/sim/Summary", name := "<init>", desc := "(IIII)V" } : Jvm.MethodName) prog_52_method_1_code (5 : Nat) (Option.none : Option Jvm.ClassFile.FieldType), Jvm.Cond.code ({ cls := "java/lang/Record", name := "<init>", desc := "()V" } : Jvm.MethodName) jdk_30_method_1_code (1 : Nat) (Option.none : Option Jvm.ClassFile.FieldType), Jvm.Cond.code ({ cls := "java/lang/Object", name := "<init>", desc := "()V" } : Jvm.MethodName) object_method_1_code (1 : Nat) (Option.none : Option Jvm.ClassFile.FieldType), Jvm.Cond.code ({ cls := "com/example/cardwarden/cardwarden/sim/Summary", name := "frauds", desc := "()I" } : Jvm.MethodName) prog_52_method_2_code (1 : Nat) (Option.some Jvm.ClassFile.FieldType.int)]
set_option maxRecDepth 65536 in
theorem codes_eq : words1.filter isCode = codes1 := rfl
theorem w_codes : ∀ c ∈ words1.filter isCode, c.before args0 about1 = true := by
  rw [codes_eq]
  intro c hc
  simp only [codes1, List.mem_cons, List.not_mem_nil, or_false] at hc
  rcases hc with rfl | rfl | rfl | rfl | rfl
  · exact w_c0
  · exact w_c1
  · exact w_c2
  · exact w_c3
  · exact w_c4
set_option maxRecDepth 65536 in
theorem w_t1 : (words1.take 24).all (fun c => isCode c || c.before args0 about1) = true := by decide +kernel
set_option maxRecDepth 65536 in
theorem w_t2 : (words1.drop 24).all (fun c => isCode c || c.before args0 about1) = true := by decide +kernel
theorem w_tables : (allAtoms (Jvm.Cond.code x code maxLocals ret :: tables_1)).before args0 about1 = true := by
  rw [allAtoms_all]
  show words1.all (fun c => c.before args0 about1) = true
  refine all_split ?_ w_codes
  rw [← List.take_append_drop 24 words1, List.all_append, w_t1, w_t2]
  rfl
set_option maxRecDepth 65536 in
theorem w_case : (Jvm.Cond.and given_1 narrow_1).before args0 about1 = true := by decide +kernel
theorem w_applies : (headSpec (Jvm.Cond.code x code maxLocals ret :: tables_1) room_1).applies x e0.platform about1 = true :=
  (Spec.applies_iff w_frames).mpr ⟨w_running, w_runnable, w_alone, w_named, w_hears, w_ripe, w_room, w_tables⟩
theorem atStart : AtStart classFile x code maxLocals ret World_1 tables_1 room_1 Calls_1 rest_1 Pre_1 launch0 p0 e0 about1 theMethod args0 below0 :=
  ⟨lists_1, trivial, launch0.admits_env _ _ _, launch0.least_env, fairChoices_fair.cas, fairChoices_fair.clock, w_frames, w_args, w_heap, w_applies, trivial, trivial, w_case⟩
end start1
theorem witness_1 : WitnessClaimed_1 := ⟨start1.p0, start1.e0, start1.about1, start1.theMethod, start1.args0, start1.below0, start1.atStart⟩
end Jvm.Pilot.@@N@@
