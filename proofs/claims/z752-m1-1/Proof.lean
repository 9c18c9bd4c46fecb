import JvmDerived
import JvmDerived.Pilot.@@N@@Statement
import JvmDerived.Pilot.@@N@@Code
set_option linter.unusedVariables false
set_option linter.unusedSimpArgs false
namespace Jvm.RoadKit
open Sem ClassFile Op Lib Jvm.Stand Jvm.Free Jvm.LawKit
section New
variable {p : Program} {l : Launch} {e : Env} {R : Room} {s : State} {m : MethodId} {args : Array Value} {below : List Frame} {meth : Method} {c : Code} {T : State} {locs : List Loc} {cells slots : Nat}
theorem retI (X : Stand p l e R s m args below meth c T locs cells slots) (hx : p.tables.exec = Jvm.exec) {pc : Nat} {Ls : Array Slot} {z : Int32} {rest : List Value} (hret : meth.sig.returnType = some .int) (hd : decode c.code pc = .ok (.ireturn, 1)) {fs : List Frame}
    (hl : ∀ (f : JFrame) (acts : List Action), f.method = m → f.locked = none → f.entered = [] → (doReturn e (T.setTop f) acts (some (.int z))).1 = T.setFrames fs) : Steps p.tables e below (T.setTop (mkF m pc Ls (.int z :: rest))) (T.setFrames fs) := by
  have hm' : T.vm.method? m = some meth := X.method'
  have hn : narrow .int (.int z) = .int z := rfl
  show Steps p.tables e below (T.setTop { method := m, pc := pc, locals := Ls, stack := _ :: rest, locked := none }) _
  jvm_step X.here [X.here.top, hx, hd, hm', hret, hn]
  first | (intro acts; rw [hl _ acts rfl rfl rfl]) | rw [hl _ _ rfl rfl rfl]
  exact Steps.refl _
end New
end Jvm.RoadKit
namespace Jvm.Pilot.@@N@@
open Jvm Jvm.ClassFile Sem Op Lib Jvm.Free Jvm.Stand Jvm.LawKit Jvm.RoadKit Bundle Jvm.Pilot.@@N@@.Jvm.D
def own_G (tb : Tables) (e : Env) (below : List Frame) (P : State → Outcome → Prop) (S : State) : Prop := ∃ t o, Steps tb e below S t ∧ P t o
theorem own_in {tb : Tables} {e : Env} {below : List Frame} {P : State → Outcome → Prop} {S : State} (h : own_G tb e below P S) : ∃ t o, Steps tb e below S t ∧ P t o := h
theorem own_go {tb : Tables} {e : Env} {below : List Frame} {P : State → Outcome → Prop} {S S' : State} (f : ∀ t, Steps tb e below S' t → Steps tb e below S t) (h : own_G tb e below P S') : own_G tb e below P S := by
  obtain ⟨t, o, st, hp⟩ := h
  exact ⟨t, o, f t st, hp⟩
theorem own_join {α : Type} {tb : Tables} {e : Env} {below : List Frame} {P : State → Outcome → Prop} {S : State} (C : α → Prop) (F : α → State) (J : ∀ a, C a → own_G tb e below P (F a)) (M : (∀ a, C a → own_G tb e below P (F a)) → own_G tb e below P S) : own_G tb e below P S := M J
theorem own_loop {α : Type} {tb : Tables} {e : Env} {below : List Frame} {P : State → Outcome → Prop} {S : State} (mu : α → Nat) (C : α → Prop) (F : α → State) (J : ∀ a, C a → (∀ b, C b → mu b < mu a → own_G tb e below P (F b)) → own_G tb e below P (F a)) (M : (∀ a, C a → own_G tb e below P (F a)) → own_G tb e below P S) : own_G tb e below P S := by
  apply M
  have q : ∀ n a, mu a < n → C a → own_G tb e below P (F a) := by
    intro n
    induction n with
    | zero => intro a h; exact absurd h (Nat.not_lt_zero _)
    | succ n ih => intro a h ha; exact J a ha fun b hb hlt => ih b (by omega) hb
  exact fun a ha => q _ a (Nat.lt_succ_self _) ha
theorem own_l1 {a b : Int64} (h : a = b) : lcmpW a b = 0 := by subst h; simp [lcmpW]
theorem own_l2 {a b : Int64} (h : ¬ a = b) : ¬ lcmpW a b = 0 := by
  unfold lcmpW; split
  · decide
  · first | (rw [if_neg h]; decide) | decide
theorem own_l3 {a b : Int64} (h : a < b) : lcmpW a b < 0 := by
  have h1 : ¬ a > b := Int64.not_lt.mpr (Int64.le_of_lt h)
  have h2 : ¬ a = b := fun q => by subst q; exact Int64.lt_irrefl h
  unfold lcmpW; rw [if_neg h1, if_neg h2]; decide
theorem own_l4 {a b : Int64} (h : ¬ a < b) : ¬ lcmpW a b < 0 := by
  unfold lcmpW; split
  · decide
  · split
    · decide
    · rename_i h1 h2
      rw [gt_iff_lt, Int64.lt_iff_toInt_lt] at h1; rw [Int64.lt_iff_toInt_lt] at h; rw [← Int64.toInt_inj] at h2; omega
theorem own_l5 {a b : Int64} (h : b < a) : 0 < lcmpW a b := by unfold lcmpW; rw [if_pos h]; decide
theorem own_l6 {a b : Int64} (h : ¬ b < a) : ¬ 0 < lcmpW a b := by
  unfold lcmpW; rw [if_neg h]; split <;> decide
def own_ord (f : Int32) (q : Int64) : Int64 := if f = (0 : Int32) then q else (-9223372036854775808 : Int64)
theorem own_ord1 (q : Int64) : own_ord (1 : Int32) q = (-9223372036854775808 : Int64) := by simp [own_ord]
theorem own_ord0 (q : Int64) : own_ord (0 : Int32) q = q := by simp [own_ord]
theorem own_nlt (x w : Int64) : ¬ x < own_ord (1 : Int32) w := by
  rw [own_ord1, Int64.lt_iff_toInt_lt, show (-9223372036854775808 : Int64).toInt = -9223372036854775808 from rfl]
  have := Int64.le_toInt x
  omega
theorem pd__V : parseMethodDescriptor "()V" = some ⟨[], none⟩ := by decide +kernel
theorem pd_LcomexamplecarilloncarillonMessage_J : parseMethodDescriptor "(Lcom/example/carillon/carillon/Message;)J" = some ⟨[(.object "com/example/carillon/carillon/Message")], some .long⟩ := by decide +kernel
-- com/example/carillon/carillon/Message.<init>:()V
theorem d_mi_0 : decode prog_15_method_1_code 0 = .ok (.aload_n 0, 1) := by decide +kernel
theorem d_mi_1 : decode prog_15_method_1_code 1 = .ok (.invokespecial 1, 3) := by decide +kernel
theorem d_mi_4 : decode prog_15_method_1_code 4 = .ok (.return_, 1) := by decide +kernel
theorem pn_mi : plainName "com/example/carillon/carillon/Message" = true := by first | (simp [plainName, overriddenIn]; done) | decide +kernel
theorem ef_mi (m : MethodId) (a1 : Addr) : entryFrame m #[(.ref a1)] 1 = mkF m 0 #[.val (.ref a1)] [] := by first | (simp [entryFrame, mkF, argsToLocals, Value.category]; done) | rfl
def Q_mi (Z : State) (a1 : Addr) (h0 : Heap) (n0 : Nat) (v : Option Value) (h : Heap) (L : List Loc) : Prop := v = none ∧ Fr n0 L ∧ h = h0
set_option maxRecDepth 65536 in
set_option maxHeartbeats 40000000 in
theorem rm_mi (l : Launch) (Z : State) (a0 : Array Value) (hw : ∀ d ∈ tables_1, d.before a0 Z = true) (ws : List Jvm.Cond) (a1 : Addr) (h0 : Heap) (n0 : Nat) (Z0 : n0 ≤ h0.size) :
    MetFree l (⟨"com/example/carillon/carillon/Message", "<init>", "()V"⟩ : MethodName) (head1 (Jvm.Cond.code (⟨"com/example/carillon/carillon/Message", "<init>", "()V"⟩ : MethodName) prog_15_method_1_code 1 none :: ws) ({ frames := 1, cells := 0, slots := 0, locals := 12 } : Room)) (fun a U => a = #[(.ref a1)] ∧ Z.Warmed39 U.vm ∧ U.heap = h0) (fun _ _ _ _ _ => True) (fun _ U o U' => ∃ v L, o = .returned v ∧ Q_mi Z a1 h0 n0 v U'.heap L ∧ FrameEnd U o U' L ({ frames := 1, cells := 0, slots := 0, locals := 12 } : Room).cells ({ frames := 1, cells := 0, slots := 0, locals := 12 } : Room).slots) := by
  refine MetFree.of_bodySF (plainFor_of_name pn_mi) hisR ?_
  intro p e s m args below meth c s₁ Bd hml0 hP hK
  obtain ⟨rfl, hZ, hh⟩ := hP
  have hx := Bd.exec
  have hby := Bd.bytes
  have hml : c.maxLocals = 1 := hml0
  have hown : s.vm.findClass "com/example/carillon/carillon/Message" = some m.cls := findClass_of_methodNamed Bd.named
  have hnm := (name_of_methodNamed Bd.named Bd.method).1
  have X0 : Stand p l e ({ frames := 1, cells := 0, slots := 0, locals := 12 } : Room) s m #[(.ref a1)] below meth c s₁ [] 0 0 := Stand.of_body Bd
  have e0 : s₁.heap = h0 := by rw [← hh, Bd.state]; rfl
  have N0 := Fr.nil n0
  refine own_in ?_
  refine own_go (S' := s₁.setTop (mkF m 0 #[.val (.ref a1)] [])) (fun tgt_ stp_ => castTop (ef_mi m a1) stp_) ?_
  obtain ⟨T_1, X_1, e_1, st_1⟩ := initO X0 hx hZ hown (hw _ (List.mem_of_getElem? (i := 6) rfl)) (hw _ (List.mem_of_getElem? (i := 7) rfl)) (hw _ (List.mem_of_getElem? (i := 8) rfl)) e0 (g := (mkF m 1 #[.val (.ref a1)] [(.ref a1)])) rfl (by rw [hml]; rfl) rfl (hb hby d_mi_1) (by decide) (W := 0) (by show 2 * 0 + _ ≤ _; exact Nat.le_of_eq rfl) (by decide)
  refine own_go (S' := T_1.setTop (mkF m 4 #[.val (.ref a1)] [])) (fun target kt => ?_) ?_
  · show Steps p.tables e below (s₁.setTop (mkF m 0 #[.val (.ref a1)] [])) target
    refine XS.aloadN X0.here hx rfl (hb hby d_mi_0) rfl rfl ?_
    show Steps p.tables e below (s₁.setTop (mkF m 1 #[.val (.ref a1)] [(.ref a1)])) target
    refine st_1 _ ?_
    show Steps p.tables e below (T_1.setTop (mkF m 4 #[.val (.ref a1)] [])) target
    exact kt
  obtain ⟨fs, hr, hrun, hended, hW, hsame⟩ := X_1.leave (v := none) (fun _ => rfl)
  refine ⟨_, _, X_1.returnOut hx Bd.returns (hb hby d_mi_4) hr, hrun, hended, _, _, rfl, ?_, ⟨_, rfl⟩, hW, hsame.mono (by decide) (by decide)⟩
  show Q_mi Z a1 h0 n0 _ T_1.heap _
  rw [e_1]
  exact ⟨rfl, N0, rfl⟩
-- com/example/carillon/carillon/Chain.orderOf:(Lcom/example/carillon/carillon/Message;)J
theorem d_ord_0 : decode prog_2_method_4_code 0 = .ok (.aload_n 0, 1) := by decide +kernel
theorem d_ord_1 : decode prog_2_method_4_code 1 = .ok (.getfield 59, 3) := by decide +kernel
theorem d_ord_4 : decode prog_2_method_4_code 4 = .ok (.ifCond .eq 9, 3) := by decide +kernel
theorem d_ord_7 : decode prog_2_method_4_code 7 = .ok (.ldc2_w 43, 3) := by decide +kernel
theorem d_ord_10 : decode prog_2_method_4_code 10 = .ok (.goto 7, 3) := by decide +kernel
theorem d_ord_13 : decode prog_2_method_4_code 13 = .ok (.aload_n 0, 1) := by decide +kernel
theorem d_ord_14 : decode prog_2_method_4_code 14 = .ok (.getfield 65, 3) := by decide +kernel
theorem d_ord_17 : decode prog_2_method_4_code 17 = .ok (.lreturn, 1) := by decide +kernel
theorem pn_ord : plainName "com/example/carillon/carillon/Chain" = true := by first | (simp [plainName, overriddenIn]; done) | decide +kernel
theorem ef_ord (m : MethodId) (a1 : Addr) : entryFrame m #[(.ref a1)] 1 = mkF m 0 #[.val (.ref a1)] [] := by first | (simp [entryFrame, mkF, argsToLocals, Value.category]; done) | rfl
def Q_ord (Z : State) (a1 : Addr) (f1 : Int32) (q1 : Int64) (h0 : Heap) (n0 : Nat) (v : Option Value) (h : Heap) (L : List Loc) : Prop := v = some (.long (own_ord f1 q1)) ∧ Fr n0 L ∧ h = h0
set_option maxRecDepth 65536 in
set_option maxHeartbeats 40000000 in
theorem rm_ord (l : Launch) (Z : State) (a0 : Array Value) (hw : ∀ d ∈ tables_1, d.before a0 Z = true) (ws : List Jvm.Cond) (a1 : Addr) (f1 : Int32) (q1 : Int64) (h0 : Heap) (n0 : Nat) (Z0 : n0 ≤ h0.size) (hf : Fld Z h0 a1 "com/example/carillon/carillon/Message" "atFront" "Z" (.int f1)) (hq : Fld Z h0 a1 "com/example/carillon/carillon/Message" "when" "J" (.long q1)) :
    MetFree l (⟨"com/example/carillon/carillon/Chain", "orderOf", "(Lcom/example/carillon/carillon/Message;)J"⟩ : MethodName) (head1 (Jvm.Cond.code (⟨"com/example/carillon/carillon/Chain", "orderOf", "(Lcom/example/carillon/carillon/Message;)J"⟩ : MethodName) prog_2_method_4_code 1 (some .long) :: ws) ({ frames := 0, cells := 0, slots := 0, locals := 0 } : Room)) (fun a U => a = #[(.ref a1)] ∧ Z.Warmed39 U.vm ∧ U.heap = h0) (fun _ _ _ _ _ => True) (fun _ U o U' => ∃ v L, o = .returned v ∧ Q_ord Z a1 f1 q1 h0 n0 v U'.heap L ∧ FrameEnd U o U' L ({ frames := 0, cells := 0, slots := 0, locals := 0 } : Room).cells ({ frames := 0, cells := 0, slots := 0, locals := 0 } : Room).slots) := by
  refine MetFree.of_bodySF (plainFor_of_name pn_ord) hisR ?_
  intro p e s m args below meth c s₁ Bd hml0 hP hK
  obtain ⟨rfl, hZ, hh⟩ := hP
  have hx := Bd.exec
  have hby := Bd.bytes
  have hml : c.maxLocals = 1 := hml0
  have hown : s.vm.findClass "com/example/carillon/carillon/Chain" = some m.cls := findClass_of_methodNamed Bd.named
  have hnm := (name_of_methodNamed Bd.named Bd.method).1
  have X0 : Stand p l e ({ frames := 0, cells := 0, slots := 0, locals := 0 } : Room) s m #[(.ref a1)] below meth c s₁ [] 0 0 := Stand.of_body Bd
  have e0 : s₁.heap = h0 := by rw [← hh, Bd.state]; rfl
  have N0 := Fr.nil n0
  refine own_in ?_
  refine own_go (S' := s₁.setTop (mkF m 0 #[.val (.ref a1)] [])) (fun tgt_ stp_ => castTop (ef_ord m a1) stp_) ?_
  obtain ⟨T_1, X_1, e_1, st_1⟩ := getF X0 hx hZ hown (host := "") (Or.inl (hw _ (List.mem_of_getElem? (i := 17) rfl))) Via.refl e0 hf (g := (mkF m 1 #[.val (.ref a1)] [(.ref a1)])) rfl rfl (hb hby d_ord_1)
  refine own_go (S' := T_1.setTop (mkF m 4 #[.val (.ref a1)] [(.int f1)])) (fun target kt => ?_) ?_
  · show Steps p.tables e below (s₁.setTop (mkF m 0 #[.val (.ref a1)] [])) target
    refine XS.aloadN X0.here hx rfl (hb hby d_ord_0) rfl rfl ?_
    show Steps p.tables e below (s₁.setTop (mkF m 1 #[.val (.ref a1)] [(.ref a1)])) target
    refine st_1 _ ?_
    show Steps p.tables e below (T_1.setTop (mkF m 4 #[.val (.ref a1)] [(.int f1)])) target
    exact kt
  by_cases hc4 : f1 = (0 : Int32)
  · -- pc 4: yes
    obtain ⟨T_2, X_2, e_2, st_2⟩ := getF X_1 hx hZ hown (host := "") (Or.inl (hw _ (List.mem_of_getElem? (i := 18) rfl))) Via.refl e_1 hq (g := (mkF m 14 #[.val (.ref a1)] [(.ref a1)])) rfl rfl (hb hby d_ord_14)
    refine own_go (S' := T_2.setTop (mkF m 17 #[.val (.ref a1)] [(.long q1)])) (fun target kt => ?_) ?_
    · show Steps p.tables e below (T_1.setTop (mkF m 4 #[.val (.ref a1)] [(.int f1)])) target
      refine XS.ifYes X_1.here hx rfl (pc0 := 4) (pc' := 13) rfl (hb hby d_ord_4) rfl ((if0 _ _).trans (teq hc4).1) (by decide) (by decide) ?_
      show Steps p.tables e below (T_1.setTop (mkF m 13 #[.val (.ref a1)] [])) target
      refine XS.aloadN X_1.here hx rfl (hb hby d_ord_13) rfl rfl ?_
      show Steps p.tables e below (T_1.setTop (mkF m 14 #[.val (.ref a1)] [(.ref a1)])) target
      refine st_2 _ ?_
      show Steps p.tables e below (T_2.setTop (mkF m 17 #[.val (.ref a1)] [(.long q1)])) target
      exact kt
    obtain ⟨fs, hr, hrun, hended, hW, hsame⟩ := X_2.leave (v := some (.long q1)) (fun h => by rw [Bd.returns] at h; cases h)
    refine ⟨_, _, Jvm.Stand.lreturnOut X_2 hx Bd.returns (hb hby d_ord_17) hr, hrun, hended, _, _, rfl, ?_, ⟨_, rfl⟩, hW, hsame.mono (by decide) (by decide)⟩
    show Q_ord Z a1 f1 q1 h0 n0 _ T_2.heap _
    rw [e_2]
    exact ⟨(congrArg (fun z => some (Value.long z)) (by simp [own_ord, hc4])), N0, rfl⟩
  · -- pc 4: no
    refine own_go (S' := T_1.setTop (mkF m 17 #[.val (.ref a1)] [(.long (-9223372036854775808 : Int64))])) (fun target kt => ?_) ?_
    · show Steps p.tables e below (T_1.setTop (mkF m 4 #[.val (.ref a1)] [(.int f1)])) target
      refine XS.ifNo X_1.here hx rfl (hb hby d_ord_4) rfl ((if0 _ _).trans (feq hc4).1) ?_
      show Steps p.tables e below (T_1.setTop (mkF m 7 #[.val (.ref a1)] [])) target
      refine X_1.ldc2Long hx hown (mvT hZ (hw _ (List.mem_of_getElem? (i := 19) rfl))) (g := (mkF m 7 #[.val (.ref a1)] [])) rfl (hb hby d_ord_7) _ ?_
      show Steps p.tables e below (T_1.setTop (mkF m 10 #[.val (.ref a1)] [(.long (-9223372036854775808 : Int64))])) target
      refine XS.goto X_1.here hx rfl (pc0 := 10) (pc' := 17) rfl (hb hby d_ord_10) (by decide) (by decide) ?_
      show Steps p.tables e below (T_1.setTop (mkF m 17 #[.val (.ref a1)] [(.long (-9223372036854775808 : Int64))])) target
      exact kt
    obtain ⟨fs, hr, hrun, hended, hW, hsame⟩ := X_1.leave (v := some (.long (-9223372036854775808 : Int64))) (fun h => by rw [Bd.returns] at h; cases h)
    refine ⟨_, _, Jvm.Stand.lreturnOut X_1 hx Bd.returns (hb hby d_ord_17) hr, hrun, hended, _, _, rfl, ?_, ⟨_, rfl⟩, hW, hsame.mono (by decide) (by decide)⟩
    show Q_ord Z a1 f1 q1 h0 n0 _ T_1.heap _
    rw [e_1]
    exact ⟨(congrArg (fun z => some (Value.long z)) (by simp [own_ord, hc4])), N0, rfl⟩
-- com/example/carillon/carillon/ChainOrderOfPinLaw.law:(JJI)Z
theorem pn_law : plainName "com/example/carillon/carillon/ChainOrderOfPinLaw" = true := by first | (simp [plainName, overriddenIn]; done) | decide +kernel
theorem ef_law (m : MethodId) (u0 : Int64) (u1 : Int64) (fl : Int32) : entryFrame m #[(.long u0), (.long u1), (.int fl)] maxLocals = mkF m 0 #[.val (.long u0), .second, .val (.long u1), .second, .val (.int fl), .unset, .unset, .unset, .unset, .unset, .unset, .unset, .unset] [] := by first | (simp [entryFrame, mkF, argsToLocals, Value.category, maxLocals]; done) | rfl
def Q_law (Z : State) (u0 : Int64) (u1 : Int64) (fl : Int32) (h0 : Heap) (n0 : Nat) (v : Option Value) (h : Heap) (L : List Loc) : Prop := v = some (.int (1 : Int32)) ∧ Fr n0 L
set_option maxRecDepth 65536 in
set_option maxHeartbeats 40000000 in
theorem rm_law (l : Launch) (Z : State) (a0 : Array Value) (hw : ∀ d ∈ tables_1, d.before a0 Z = true) (ws : List Jvm.Cond) (u0 : Int64) (u1 : Int64) (fl : Int32) (h0 : Heap) (n0 : Nat) (Z0 : n0 ≤ h0.size) :
    MetFree l x (head1 (Jvm.Cond.code x code maxLocals ret :: ws) room_1) (fun a U => a = #[(.long u0), (.long u1), (.int fl)] ∧ Z.Warmed39 U.vm ∧ U.heap = h0) (fun _ _ _ _ _ => True) (fun _ U o U' => ∃ v L, o = .returned v ∧ Q_law Z u0 u1 fl h0 n0 v U'.heap L ∧ FrameEnd U o U' L room_1.cells room_1.slots) := by
  refine MetFree.of_bodySF (plainFor_of_name pn_law) hisR ?_
  intro p e s m args below meth c s₁ Bd hml0 hP hK
  obtain ⟨rfl, hZ, hh⟩ := hP
  have hx := Bd.exec
  have hby := Bd.bytes
  have hml : c.maxLocals = 13 := hml0
  have hown : s.vm.findClass "com/example/carillon/carillon/ChainOrderOfPinLaw" = some m.cls := findClass_of_methodNamed Bd.named
  have hnm := (name_of_methodNamed Bd.named Bd.method).1
  have X0 : Stand p l e room_1 s m #[(.long u0), (.long u1), (.int fl)] below meth c s₁ [] 0 0 := Stand.of_body Bd
  have e0 : s₁.heap = h0 := by rw [← hh, Bd.state]; rfl
  have N0 := Fr.nil n0
  refine own_in ?_
  refine own_go (S' := s₁.setTop (mkF m 0 #[.val (.long u0), .second, .val (.long u1), .second, .val (.int fl), .unset, .unset, .unset, .unset, .unset, .unset, .unset, .unset] [])) (fun tgt_ stp_ => castTop (ef_law m u0 u1 fl) stp_) ?_
  refine own_go (S' := s₁.setTop (mkF m 4 #[.val (.long u0), .second, .val (.long u1), .second, .val (.int fl), .unset, .unset, .unset, .unset, .unset, .unset, .unset, .unset] [(.int (fl &&& (1 : Int32)))])) (fun target kt => ?_) ?_
  · show Steps p.tables e below (s₁.setTop (mkF m 0 #[.val (.long u0), .second, .val (.long u1), .second, .val (.int fl), .unset, .unset, .unset, .unset, .unset, .unset, .unset, .unset] [])) target
    refine XS.iload X0.here hx rfl (hb hby at_0) rfl ?_
    show Steps p.tables e below (s₁.setTop (mkF m 2 #[.val (.long u0), .second, .val (.long u1), .second, .val (.int fl), .unset, .unset, .unset, .unset, .unset, .unset, .unset, .unset] [(.int fl)])) target
    refine XS.iconst X0.here hx rfl (hb hby at_2) ?_
    show Steps p.tables e below (s₁.setTop (mkF m 3 #[.val (.long u0), .second, .val (.long u1), .second, .val (.int fl), .unset, .unset, .unset, .unset, .unset, .unset, .unset, .unset] [(.int (1 : Int32)), (.int fl)])) target
    refine XS.iand X0.here hx rfl (hb hby at_3) rfl ?_
    show Steps p.tables e below (s₁.setTop (mkF m 4 #[.val (.long u0), .second, .val (.long u1), .second, .val (.int fl), .unset, .unset, .unset, .unset, .unset, .unset, .unset, .unset] [(.int (fl &&& (1 : Int32)))])) target
    exact kt
  by_cases hc4 : (fl &&& (1 : Int32)) = (0 : Int32)
  · -- pc 4: yes
    refine own_go (S' := s₁.setTop (mkF m 18 #[.val (.long u0), .second, .val (.long u1), .second, .val (.int fl), .val (.int (0 : Int32)), .unset, .unset, .unset, .unset, .unset, .unset, .unset] [(.int (fl &&& (2 : Int32)))])) (fun target kt => ?_) ?_
    · show Steps p.tables e below (s₁.setTop (mkF m 4 #[.val (.long u0), .second, .val (.long u1), .second, .val (.int fl), .unset, .unset, .unset, .unset, .unset, .unset, .unset, .unset] [(.int (fl &&& (1 : Int32)))])) target
      refine XS.ifYes X0.here hx rfl (pc0 := 4) (pc' := 11) rfl (hb hby at_4) rfl ((if0 _ _).trans (teq hc4).1) (by decide) (by decide) ?_
      show Steps p.tables e below (s₁.setTop (mkF m 11 #[.val (.long u0), .second, .val (.long u1), .second, .val (.int fl), .unset, .unset, .unset, .unset, .unset, .unset, .unset, .unset] [])) target
      refine XS.iconst X0.here hx rfl (hb hby at_11) ?_
      show Steps p.tables e below (s₁.setTop (mkF m 12 #[.val (.long u0), .second, .val (.long u1), .second, .val (.int fl), .unset, .unset, .unset, .unset, .unset, .unset, .unset, .unset] [(.int (0 : Int32))])) target
      refine XS.istore X0.here hx rfl (hb hby at_12) rfl (l' := #[.val (.long u0), .second, .val (.long u1), .second, .val (.int fl), .val (.int (0 : Int32)), .unset, .unset, .unset, .unset, .unset, .unset, .unset]) rfl ?_
      show Steps p.tables e below (s₁.setTop (mkF m 14 #[.val (.long u0), .second, .val (.long u1), .second, .val (.int fl), .val (.int (0 : Int32)), .unset, .unset, .unset, .unset, .unset, .unset, .unset] [])) target
      refine XS.iload X0.here hx rfl (hb hby at_14) rfl ?_
      show Steps p.tables e below (s₁.setTop (mkF m 16 #[.val (.long u0), .second, .val (.long u1), .second, .val (.int fl), .val (.int (0 : Int32)), .unset, .unset, .unset, .unset, .unset, .unset, .unset] [(.int fl)])) target
      refine XS.iconst X0.here hx rfl (hb hby at_16) ?_
      show Steps p.tables e below (s₁.setTop (mkF m 17 #[.val (.long u0), .second, .val (.long u1), .second, .val (.int fl), .val (.int (0 : Int32)), .unset, .unset, .unset, .unset, .unset, .unset, .unset] [(.int (2 : Int32)), (.int fl)])) target
      refine XS.iand X0.here hx rfl (hb hby at_17) rfl ?_
      show Steps p.tables e below (s₁.setTop (mkF m 18 #[.val (.long u0), .second, .val (.long u1), .second, .val (.int fl), .val (.int (0 : Int32)), .unset, .unset, .unset, .unset, .unset, .unset, .unset] [(.int (fl &&& (2 : Int32)))])) target
      exact kt
    by_cases hc18 : (fl &&& (2 : Int32)) = (0 : Int32)
    · -- pc 18: yes
      obtain ⟨T_1, h_1, X_1, e_1, E_1, A_1, D_1, -, st_1⟩ := newO X0 hx hZ hown (hw _ (List.mem_of_getElem? (i := 0) rfl)) (hw _ (List.mem_of_getElem? (i := 1) rfl)) (hw _ (List.mem_of_getElem? (i := 2) rfl)) e0 (g := (mkF m 28 #[.val (.long u0), .second, .val (.long u1), .second, .val (.int fl), .val (.int (0 : Int32)), .val (.int (0 : Int32)), .unset, .unset, .unset, .unset, .unset, .unset] [])) rfl (hb hby at_28) (by decide) (by decide)
      obtain ⟨b_1, g_1⟩ : ∃ z, z = h0.size := ⟨_, rfl⟩
      rw [← g_1] at A_1 D_1 st_1
      have gn_b_1 : n0 ≤ b_1 := Nat.le_trans Z0 (Nat.le_of_eq g_1.symm)
      have Z_2 : n0 ≤ h_1.size := Nat.le_trans Z0 E_1.1
      have F_1_when : Fld Z h_1 b_1 "com/example/carillon/carillon/Message" "when" "J" (.long (0 : Int64)) := D_1 (Or.inl (hw _ (List.mem_of_getElem? (i := 10) rfl))) (ty := .long) (by decide)
      have F_1_atFront : Fld Z h_1 b_1 "com/example/carillon/carillon/Message" "atFront" "Z" (.int (0 : Int32)) := D_1 (Or.inl (hw _ (List.mem_of_getElem? (i := 12) rfl))) (ty := .boolean) (by decide)
      obtain ⟨_, _, ⟨T_4, L_4, k_4, n_4⟩, -, X_4, ⟨Lc_4, hQ_4, l_4, y_4, z_4⟩, st_4⟩ := X_1.specialBack hx (y := (⟨"com/example/carillon/carillon/Message", "<init>", "()V"⟩ : MethodName)) rfl hown (mvT hZ (hw _ (List.mem_of_getElem? (i := 3) rfl))) (mvT hZ (hw _ (List.mem_of_getElem? (i := 4) rfl))) (mvT hZ (hw _ (List.mem_of_getElem? (i := 5) rfl))) (by decide) (backOf (W := 1) (rm_mi l Z a0 hw [] b_1  h_1 n0 Z_2 ) hZ (hw _ (List.mem_of_getElem? (i := 5) rfl)) (hw _ (List.mem_of_getElem? (i := 2) rfl)) (by decide) (by decide)) (g := (mkF m 32 #[.val (.long u0), .second, .val (.long u1), .second, .val (.int fl), .val (.int (0 : Int32)), .val (.int (0 : Int32)), .unset, .unset, .unset, .unset, .unset, .unset] [(.ref b_1), (.ref b_1)])) rfl (by rw [hml]; rfl) (Steps.refl _) (a := b_1) (argsL := []) (rest := [(.ref b_1)]) (lenOf pd__V rfl) rfl (by show 2 * 0 + _ ≤ _; exact Nat.le_of_eq rfl) (hb hby at_32) (fun _ _ => ⟨rfl, e_1, (by decide : 1 + 0 ≤ _), (by decide : 12 + 0 ≤ _)⟩)
      dsimp only [Pt.U, Pt.locs, Pt.cells, Pt.slots] at X_4 l_4 y_4 z_4 st_4 hQ_4
      subst l_4 y_4 z_4
      obtain ⟨rfl, N_4q, p_4_0⟩ := hQ_4
      have N_4 := Fr.app N0 N_4q
      obtain ⟨T_5, h_5, X_5, e_5, W_5, st_5⟩ := putF X_4 hx hZ hown (host := "") (Or.inl (hw _ (List.mem_of_getElem? (i := 9) rfl))) Via.refl p_4_0 F_1_when A_1 (Or.inl (hw _ (List.mem_of_getElem? (i := 10) rfl))) (hw _ (List.mem_of_getElem? (i := 1) rfl)) (ty := .long) (by decide) rfl rfl (g := (mkF m 40 #[.val (.long u0), .second, .val (.long u1), .second, .val (.int fl), .val (.int (0 : Int32)), .val (.int (0 : Int32)), .val (.ref b_1), .unset, .unset, .unset, .unset, .unset] [(.long u0), (.ref b_1)])) rfl rfl (hb hby at_40)
      have N_5 := Fr.snoc X_5 N_4 gn_b_1
      have F_5 := F_1_when.same W_5
      have Z_6 : n0 ≤ h_5.size := Nat.le_trans Z_2 (Keep.of_wr W_5).1
      have f_8 := (A_1.wr W_5)
      have f_9 := (F_1_atFront.other W_5 (Or.inr (slot_ne (Or.inl (hw _ (List.mem_of_getElem? (i := 12) rfl))) (Or.inl (hw _ (List.mem_of_getElem? (i := 10) rfl))) (by decide) (t := .boolean) (t' := .long) (by decide) (by decide))))
      obtain ⟨T_10, h_10, X_10, e_10, W_10, st_10⟩ := putFN X_5 hx hZ hown (hw _ (List.mem_of_getElem? (i := 11) rfl)) Via.refl e_5 f_9 f_8 (Or.inl (hw _ (List.mem_of_getElem? (i := 12) rfl))) (hw _ (List.mem_of_getElem? (i := 1) rfl)) (ty := .boolean) (v' := (.int (0 : Int32))) (by decide) rfl (by decide) (g := (mkF m 47 #[.val (.long u0), .second, .val (.long u1), .second, .val (.int fl), .val (.int (0 : Int32)), .val (.int (0 : Int32)), .val (.ref b_1), .unset, .unset, .unset, .unset, .unset] [(.int (0 : Int32)), (.ref b_1)])) rfl rfl (hb hby at_47)
      have N_10 := Fr.snoc X_10 N_5 gn_b_1
      have F_10 := f_9.same W_10
      have Z_11 : n0 ≤ h_10.size := Nat.le_trans Z_6 (Keep.of_wr W_10).1
      obtain ⟨T_13, h_13, X_13, e_13, E_13, A_13, D_13, -, st_13⟩ := newO X_10 hx hZ hown (hw _ (List.mem_of_getElem? (i := 0) rfl)) (hw _ (List.mem_of_getElem? (i := 1) rfl)) (hw _ (List.mem_of_getElem? (i := 2) rfl)) e_10 (g := (mkF m 50 #[.val (.long u0), .second, .val (.long u1), .second, .val (.int fl), .val (.int (0 : Int32)), .val (.int (0 : Int32)), .val (.ref b_1), .unset, .unset, .unset, .unset, .unset] [])) rfl (hb hby at_50) (by decide) (by decide)
      obtain ⟨b_13, g_13⟩ : ∃ z, z = h_10.size := ⟨_, rfl⟩
      rw [← g_13] at A_13 D_13 st_13
      have gn_b_13 : n0 ≤ b_13 := Nat.le_trans Z_11 (Nat.le_of_eq g_13.symm)
      have f_14 := (f_8.wr W_10)
      have ne_b_1_b_13 : b_1 ≠ b_13 := Nat.ne_of_lt (Nat.lt_of_lt_of_le f_14.lt (Nat.le_of_eq g_13.symm))
      have Z_15 : n0 ≤ h_13.size := Nat.le_trans Z_11 E_13.1
      have F_13_when : Fld Z h_13 b_13 "com/example/carillon/carillon/Message" "when" "J" (.long (0 : Int64)) := D_13 (Or.inl (hw _ (List.mem_of_getElem? (i := 10) rfl))) (ty := .long) (by decide)
      have F_13_atFront : Fld Z h_13 b_13 "com/example/carillon/carillon/Message" "atFront" "Z" (.int (0 : Int32)) := D_13 (Or.inl (hw _ (List.mem_of_getElem? (i := 12) rfl))) (ty := .boolean) (by decide)
      obtain ⟨_, _, ⟨T_17, L_17, k_17, n_17⟩, -, X_17, ⟨Lc_17, hQ_17, l_17, y_17, z_17⟩, st_17⟩ := X_13.specialBack hx (y := (⟨"com/example/carillon/carillon/Message", "<init>", "()V"⟩ : MethodName)) rfl hown (mvT hZ (hw _ (List.mem_of_getElem? (i := 3) rfl))) (mvT hZ (hw _ (List.mem_of_getElem? (i := 4) rfl))) (mvT hZ (hw _ (List.mem_of_getElem? (i := 5) rfl))) (by decide) (backOf (W := 1) (rm_mi l Z a0 hw [] b_13  h_13 n0 Z_15 ) hZ (hw _ (List.mem_of_getElem? (i := 5) rfl)) (hw _ (List.mem_of_getElem? (i := 2) rfl)) (by decide) (by decide)) (g := (mkF m 54 #[.val (.long u0), .second, .val (.long u1), .second, .val (.int fl), .val (.int (0 : Int32)), .val (.int (0 : Int32)), .val (.ref b_1), .unset, .unset, .unset, .unset, .unset] [(.ref b_13), (.ref b_13)])) rfl (by rw [hml]; rfl) (Steps.refl _) (a := b_13) (argsL := []) (rest := [(.ref b_13)]) (lenOf pd__V rfl) rfl (by show 2 * 0 + _ ≤ _; exact Nat.le_of_eq rfl) (hb hby at_54) (fun _ _ => ⟨rfl, e_13, (by decide : 2 + 0 ≤ _), (by decide : 24 + 0 ≤ _)⟩)
      dsimp only [Pt.U, Pt.locs, Pt.cells, Pt.slots] at X_17 l_17 y_17 z_17 st_17 hQ_17
      subst l_17 y_17 z_17
      obtain ⟨rfl, N_17q, p_17_0⟩ := hQ_17
      have N_17 := Fr.app N_10 N_17q
      obtain ⟨T_18, h_18, X_18, e_18, W_18, st_18⟩ := putF X_17 hx hZ hown (host := "") (Or.inl (hw _ (List.mem_of_getElem? (i := 9) rfl))) Via.refl p_17_0 F_13_when A_13 (Or.inl (hw _ (List.mem_of_getElem? (i := 10) rfl))) (hw _ (List.mem_of_getElem? (i := 1) rfl)) (ty := .long) (by decide) rfl rfl (g := (mkF m 62 #[.val (.long u0), .second, .val (.long u1), .second, .val (.int fl), .val (.int (0 : Int32)), .val (.int (0 : Int32)), .val (.ref b_1), .val (.ref b_13), .unset, .unset, .unset, .unset] [(.long u1), (.ref b_13)])) rfl rfl (hb hby at_62)
      have N_18 := Fr.snoc X_18 N_17 gn_b_13
      have F_18 := F_13_when.same W_18
      have Z_19 : n0 ≤ h_18.size := Nat.le_trans Z_15 (Keep.of_wr W_18).1
      have f_21 := (A_13.wr W_18)
      have f_22 := (F_13_atFront.other W_18 (Or.inr (slot_ne (Or.inl (hw _ (List.mem_of_getElem? (i := 12) rfl))) (Or.inl (hw _ (List.mem_of_getElem? (i := 10) rfl))) (by decide) (t := .boolean) (t' := .long) (by decide) (by decide))))
      obtain ⟨T_23, h_23, X_23, e_23, W_23, st_23⟩ := putFN X_18 hx hZ hown (hw _ (List.mem_of_getElem? (i := 11) rfl)) Via.refl e_18 f_22 f_21 (Or.inl (hw _ (List.mem_of_getElem? (i := 12) rfl))) (hw _ (List.mem_of_getElem? (i := 1) rfl)) (ty := .boolean) (v' := (.int (0 : Int32))) (by decide) rfl (by decide) (g := (mkF m 69 #[.val (.long u0), .second, .val (.long u1), .second, .val (.int fl), .val (.int (0 : Int32)), .val (.int (0 : Int32)), .val (.ref b_1), .val (.ref b_13), .unset, .unset, .unset, .unset] [(.int (0 : Int32)), (.ref b_13)])) rfl rfl (hb hby at_69)
      have N_23 := Fr.snoc X_23 N_18 gn_b_13
      have F_23 := f_22.same W_23
      have Z_24 : n0 ≤ h_23.size := Nat.le_trans Z_19 (Keep.of_wr W_23).1
      have f_27 := (((F_10.ext E_13).other W_18 (Or.inl ne_b_1_b_13)).other W_23 (Or.inl ne_b_1_b_13))
      have f_28 := ((((F_5.other W_10 (Or.inr (slot_ne (Or.inl (hw _ (List.mem_of_getElem? (i := 10) rfl))) (Or.inl (hw _ (List.mem_of_getElem? (i := 12) rfl))) (by decide) (t := .long) (t' := .boolean) (by decide) (by decide)))).ext E_13).other W_18 (Or.inl ne_b_1_b_13)).other W_23 (Or.inl ne_b_1_b_13))
      obtain ⟨_, _, ⟨T_26, L_26, k_26, n_26⟩, -, X_26, ⟨Lc_26, hQ_26, l_26, y_26, z_26⟩, st_26⟩ := Jvm.LawKit.callS X_23 hx (y := (⟨"com/example/carillon/carillon/Chain", "orderOf", "(Lcom/example/carillon/carillon/Message;)J"⟩ : MethodName)) hown (mvT hZ (hw _ (List.mem_of_getElem? (i := 13) rfl))) (mvT hZ (hw _ (List.mem_of_getElem? (i := 14) rfl))) (mvT hZ (hw _ (List.mem_of_getElem? (i := 15) rfl))) (mvT hZ (hw _ (List.mem_of_getElem? (i := 16) rfl))) (by decide) (backOf (W := 0) (rm_ord l Z a0 hw [] b_1 (0 : Int32) u0 h_23 n0 Z_24 f_27 f_28) hZ (hw _ (List.mem_of_getElem? (i := 16) rfl)) (hw _ (List.mem_of_getElem? (i := 15) rfl)) (by decide) (by decide)) (g := (mkF m 74 #[.val (.long u0), .second, .val (.long u1), .second, .val (.int fl), .val (.int (0 : Int32)), .val (.int (0 : Int32)), .val (.ref b_1), .val (.ref b_13), .unset, .unset, .unset, .unset] [(.ref b_1)])) rfl (by rw [hml]; rfl) (argsL := [(.ref b_1)]) (rest := []) (lenOf pd_LcomexamplecarilloncarillonMessage_J rfl) rfl (by show 2 * 0 + _ ≤ _; exact Nat.le_of_eq rfl) (hb hby at_74) (fun _ _ => ⟨rfl, e_23, (by decide : 2 + 0 ≤ _), (by decide : 24 + 0 ≤ _)⟩)
      dsimp only [Pt.U, Pt.locs, Pt.cells, Pt.slots] at X_26 l_26 y_26 z_26 st_26 hQ_26
      subst l_26 y_26 z_26
      obtain ⟨rfl, N_26q, p_26_0⟩ := hQ_26
      have N_26 := Fr.app N_23 N_26q
      have f_30 := (F_18.other W_23 (Or.inr (slot_ne (Or.inl (hw _ (List.mem_of_getElem? (i := 10) rfl))) (Or.inl (hw _ (List.mem_of_getElem? (i := 12) rfl))) (by decide) (t := .long) (t' := .boolean) (by decide) (by decide))))
      obtain ⟨_, _, ⟨T_29, L_29, k_29, n_29⟩, -, X_29, ⟨Lc_29, hQ_29, l_29, y_29, z_29⟩, st_29⟩ := Jvm.LawKit.callS X_26 hx (y := (⟨"com/example/carillon/carillon/Chain", "orderOf", "(Lcom/example/carillon/carillon/Message;)J"⟩ : MethodName)) hown (mvT hZ (hw _ (List.mem_of_getElem? (i := 13) rfl))) (mvT hZ (hw _ (List.mem_of_getElem? (i := 14) rfl))) (mvT hZ (hw _ (List.mem_of_getElem? (i := 15) rfl))) (mvT hZ (hw _ (List.mem_of_getElem? (i := 16) rfl))) (by decide) (backOf (W := 0) (rm_ord l Z a0 hw [] b_13 (0 : Int32) u1 h_23 n0 Z_24 F_23 f_30) hZ (hw _ (List.mem_of_getElem? (i := 16) rfl)) (hw _ (List.mem_of_getElem? (i := 15) rfl)) (by decide) (by decide)) (g := (mkF m 81 #[.val (.long u0), .second, .val (.long u1), .second, .val (.int fl), .val (.int (0 : Int32)), .val (.int (0 : Int32)), .val (.ref b_1), .val (.ref b_13), .val (.long (own_ord (0 : Int32) u0)), .second, .unset, .unset] [(.ref b_13)])) rfl (by rw [hml]; rfl) (argsL := [(.ref b_13)]) (rest := []) (lenOf pd_LcomexamplecarilloncarillonMessage_J rfl) rfl (by show 2 * 0 + _ ≤ _; exact Nat.le_of_eq rfl) (hb hby at_81) (fun _ _ => ⟨rfl, p_26_0, (by decide : 2 + 0 ≤ _), (by decide : 24 + 0 ≤ _)⟩)
      dsimp only [Pt.U, Pt.locs, Pt.cells, Pt.slots] at X_29 l_29 y_29 z_29 st_29 hQ_29
      subst l_29 y_29 z_29
      obtain ⟨rfl, N_29q, p_29_0⟩ := hQ_29
      have N_29 := Fr.app N_26 N_29q
      obtain ⟨T_31, X_31, e_31, st_31⟩ := getF X_29 hx hZ hown (host := "") (Or.inl (hw _ (List.mem_of_getElem? (i := 9) rfl))) Via.refl p_29_0 f_28 (g := (mkF m 88 #[.val (.long u0), .second, .val (.long u1), .second, .val (.int fl), .val (.int (0 : Int32)), .val (.int (0 : Int32)), .val (.ref b_1), .val (.ref b_13), .val (.long (own_ord (0 : Int32) u0)), .second, .val (.long (own_ord (0 : Int32) u1)), .second] [(.ref b_1)])) rfl rfl (hb hby at_88)
      obtain ⟨T_32, X_32, e_32, st_32⟩ := getF X_31 hx hZ hown (host := "") (Or.inl (hw _ (List.mem_of_getElem? (i := 11) rfl))) Via.refl e_31 f_27 (g := (mkF m 98 #[.val (.long u0), .second, .val (.long u1), .second, .val (.int fl), .val (.int (0 : Int32)), .val (.int (0 : Int32)), .val (.ref b_1), .val (.ref b_13), .val (.long (own_ord (0 : Int32) u0)), .second, .val (.long (own_ord (0 : Int32) u1)), .second] [(.ref b_1)])) rfl rfl (hb hby at_98)
      obtain ⟨T_33, X_33, e_33, st_33⟩ := getF X_32 hx hZ hown (host := "") (Or.inl (hw _ (List.mem_of_getElem? (i := 9) rfl))) Via.refl e_32 f_30 (g := (mkF m 108 #[.val (.long u0), .second, .val (.long u1), .second, .val (.int fl), .val (.int (0 : Int32)), .val (.int (0 : Int32)), .val (.ref b_1), .val (.ref b_13), .val (.long (own_ord (0 : Int32) u0)), .second, .val (.long (own_ord (0 : Int32) u1)), .second] [(.ref b_13)])) rfl rfl (hb hby at_108)
      obtain ⟨T_34, X_34, e_34, st_34⟩ := getF X_33 hx hZ hown (host := "") (Or.inl (hw _ (List.mem_of_getElem? (i := 11) rfl))) Via.refl e_33 F_23 (g := (mkF m 118 #[.val (.long u0), .second, .val (.long u1), .second, .val (.int fl), .val (.int (0 : Int32)), .val (.int (0 : Int32)), .val (.ref b_1), .val (.ref b_13), .val (.long (own_ord (0 : Int32) u0)), .second, .val (.long (own_ord (0 : Int32) u1)), .second] [(.ref b_13)])) rfl rfl (hb hby at_118)
      refine own_go (S' := T_34.setTop (mkF m 209 #[.val (.long u0), .second, .val (.long u1), .second, .val (.int fl), .val (.int (0 : Int32)), .val (.int (0 : Int32)), .val (.ref b_1), .val (.ref b_13), .val (.long (own_ord (0 : Int32) u0)), .second, .val (.long (own_ord (0 : Int32) u1)), .second] [(.int (1 : Int32))])) (fun target kt => ?_) ?_
      · show Steps p.tables e below (s₁.setTop (mkF m 18 #[.val (.long u0), .second, .val (.long u1), .second, .val (.int fl), .val (.int (0 : Int32)), .unset, .unset, .unset, .unset, .unset, .unset, .unset] [(.int (fl &&& (2 : Int32)))])) target
        refine XS.ifYes X0.here hx rfl (pc0 := 18) (pc' := 25) rfl (hb hby at_18) rfl ((if0 _ _).trans (teq hc18).1) (by decide) (by decide) ?_
        show Steps p.tables e below (s₁.setTop (mkF m 25 #[.val (.long u0), .second, .val (.long u1), .second, .val (.int fl), .val (.int (0 : Int32)), .unset, .unset, .unset, .unset, .unset, .unset, .unset] [])) target
        refine XS.iconst X0.here hx rfl (hb hby at_25) ?_
        show Steps p.tables e below (s₁.setTop (mkF m 26 #[.val (.long u0), .second, .val (.long u1), .second, .val (.int fl), .val (.int (0 : Int32)), .unset, .unset, .unset, .unset, .unset, .unset, .unset] [(.int (0 : Int32))])) target
        refine XS.istore X0.here hx rfl (hb hby at_26) rfl (l' := #[.val (.long u0), .second, .val (.long u1), .second, .val (.int fl), .val (.int (0 : Int32)), .val (.int (0 : Int32)), .unset, .unset, .unset, .unset, .unset, .unset]) rfl ?_
        show Steps p.tables e below (s₁.setTop (mkF m 28 #[.val (.long u0), .second, .val (.long u1), .second, .val (.int fl), .val (.int (0 : Int32)), .val (.int (0 : Int32)), .unset, .unset, .unset, .unset, .unset, .unset] [])) target
        refine st_1 _ ?_
        show Steps p.tables e below (T_1.setTop (mkF m 31 #[.val (.long u0), .second, .val (.long u1), .second, .val (.int fl), .val (.int (0 : Int32)), .val (.int (0 : Int32)), .unset, .unset, .unset, .unset, .unset, .unset] [(.ref b_1)])) target
        refine XS.dup X_1.here hx rfl (hb hby at_31) rfl rfl ?_
        show Steps p.tables e below (T_1.setTop (mkF m 32 #[.val (.long u0), .second, .val (.long u1), .second, .val (.int fl), .val (.int (0 : Int32)), .val (.int (0 : Int32)), .unset, .unset, .unset, .unset, .unset, .unset] [(.ref b_1), (.ref b_1)])) target
        refine st_4.trans ?_
        show Steps p.tables e below (T_4.setTop (mkF m 35 #[.val (.long u0), .second, .val (.long u1), .second, .val (.int fl), .val (.int (0 : Int32)), .val (.int (0 : Int32)), .unset, .unset, .unset, .unset, .unset, .unset] [(.ref b_1)])) target
        refine XS.astore X_4.here hx rfl (hb hby at_35) rfl rfl (l' := #[.val (.long u0), .second, .val (.long u1), .second, .val (.int fl), .val (.int (0 : Int32)), .val (.int (0 : Int32)), .val (.ref b_1), .unset, .unset, .unset, .unset, .unset]) rfl ?_
        show Steps p.tables e below (T_4.setTop (mkF m 37 #[.val (.long u0), .second, .val (.long u1), .second, .val (.int fl), .val (.int (0 : Int32)), .val (.int (0 : Int32)), .val (.ref b_1), .unset, .unset, .unset, .unset, .unset] [])) target
        refine XS.aload X_4.here hx rfl (hb hby at_37) rfl rfl ?_
        show Steps p.tables e below (T_4.setTop (mkF m 39 #[.val (.long u0), .second, .val (.long u1), .second, .val (.int fl), .val (.int (0 : Int32)), .val (.int (0 : Int32)), .val (.ref b_1), .unset, .unset, .unset, .unset, .unset] [(.ref b_1)])) target
        refine XS.lloadN X_4.here hx rfl (hb hby at_39) rfl ?_
        show Steps p.tables e below (T_4.setTop (mkF m 40 #[.val (.long u0), .second, .val (.long u1), .second, .val (.int fl), .val (.int (0 : Int32)), .val (.int (0 : Int32)), .val (.ref b_1), .unset, .unset, .unset, .unset, .unset] [(.long u0), (.ref b_1)])) target
        refine st_5 _ ?_
        show Steps p.tables e below (T_5.setTop (mkF m 43 #[.val (.long u0), .second, .val (.long u1), .second, .val (.int fl), .val (.int (0 : Int32)), .val (.int (0 : Int32)), .val (.ref b_1), .unset, .unset, .unset, .unset, .unset] [])) target
        refine XS.aload X_5.here hx rfl (hb hby at_43) rfl rfl ?_
        show Steps p.tables e below (T_5.setTop (mkF m 45 #[.val (.long u0), .second, .val (.long u1), .second, .val (.int fl), .val (.int (0 : Int32)), .val (.int (0 : Int32)), .val (.ref b_1), .unset, .unset, .unset, .unset, .unset] [(.ref b_1)])) target
        refine XS.iload X_5.here hx rfl (hb hby at_45) rfl ?_
        show Steps p.tables e below (T_5.setTop (mkF m 47 #[.val (.long u0), .second, .val (.long u1), .second, .val (.int fl), .val (.int (0 : Int32)), .val (.int (0 : Int32)), .val (.ref b_1), .unset, .unset, .unset, .unset, .unset] [(.int (0 : Int32)), (.ref b_1)])) target
        refine st_10 _ ?_
        show Steps p.tables e below (T_10.setTop (mkF m 50 #[.val (.long u0), .second, .val (.long u1), .second, .val (.int fl), .val (.int (0 : Int32)), .val (.int (0 : Int32)), .val (.ref b_1), .unset, .unset, .unset, .unset, .unset] [])) target
        refine st_13 _ ?_
        show Steps p.tables e below (T_13.setTop (mkF m 53 #[.val (.long u0), .second, .val (.long u1), .second, .val (.int fl), .val (.int (0 : Int32)), .val (.int (0 : Int32)), .val (.ref b_1), .unset, .unset, .unset, .unset, .unset] [(.ref b_13)])) target
        refine XS.dup X_13.here hx rfl (hb hby at_53) rfl rfl ?_
        show Steps p.tables e below (T_13.setTop (mkF m 54 #[.val (.long u0), .second, .val (.long u1), .second, .val (.int fl), .val (.int (0 : Int32)), .val (.int (0 : Int32)), .val (.ref b_1), .unset, .unset, .unset, .unset, .unset] [(.ref b_13), (.ref b_13)])) target
        refine st_17.trans ?_
        show Steps p.tables e below (T_17.setTop (mkF m 57 #[.val (.long u0), .second, .val (.long u1), .second, .val (.int fl), .val (.int (0 : Int32)), .val (.int (0 : Int32)), .val (.ref b_1), .unset, .unset, .unset, .unset, .unset] [(.ref b_13)])) target
        refine XS.astore X_17.here hx rfl (hb hby at_57) rfl rfl (l' := #[.val (.long u0), .second, .val (.long u1), .second, .val (.int fl), .val (.int (0 : Int32)), .val (.int (0 : Int32)), .val (.ref b_1), .val (.ref b_13), .unset, .unset, .unset, .unset]) rfl ?_
        show Steps p.tables e below (T_17.setTop (mkF m 59 #[.val (.long u0), .second, .val (.long u1), .second, .val (.int fl), .val (.int (0 : Int32)), .val (.int (0 : Int32)), .val (.ref b_1), .val (.ref b_13), .unset, .unset, .unset, .unset] [])) target
        refine XS.aload X_17.here hx rfl (hb hby at_59) rfl rfl ?_
        show Steps p.tables e below (T_17.setTop (mkF m 61 #[.val (.long u0), .second, .val (.long u1), .second, .val (.int fl), .val (.int (0 : Int32)), .val (.int (0 : Int32)), .val (.ref b_1), .val (.ref b_13), .unset, .unset, .unset, .unset] [(.ref b_13)])) target
        refine XS.lloadN X_17.here hx rfl (hb hby at_61) rfl ?_
        show Steps p.tables e below (T_17.setTop (mkF m 62 #[.val (.long u0), .second, .val (.long u1), .second, .val (.int fl), .val (.int (0 : Int32)), .val (.int (0 : Int32)), .val (.ref b_1), .val (.ref b_13), .unset, .unset, .unset, .unset] [(.long u1), (.ref b_13)])) target
        refine st_18 _ ?_
        show Steps p.tables e below (T_18.setTop (mkF m 65 #[.val (.long u0), .second, .val (.long u1), .second, .val (.int fl), .val (.int (0 : Int32)), .val (.int (0 : Int32)), .val (.ref b_1), .val (.ref b_13), .unset, .unset, .unset, .unset] [])) target
        refine XS.aload X_18.here hx rfl (hb hby at_65) rfl rfl ?_
        show Steps p.tables e below (T_18.setTop (mkF m 67 #[.val (.long u0), .second, .val (.long u1), .second, .val (.int fl), .val (.int (0 : Int32)), .val (.int (0 : Int32)), .val (.ref b_1), .val (.ref b_13), .unset, .unset, .unset, .unset] [(.ref b_13)])) target
        refine XS.iload X_18.here hx rfl (hb hby at_67) rfl ?_
        show Steps p.tables e below (T_18.setTop (mkF m 69 #[.val (.long u0), .second, .val (.long u1), .second, .val (.int fl), .val (.int (0 : Int32)), .val (.int (0 : Int32)), .val (.ref b_1), .val (.ref b_13), .unset, .unset, .unset, .unset] [(.int (0 : Int32)), (.ref b_13)])) target
        refine st_23 _ ?_
        show Steps p.tables e below (T_23.setTop (mkF m 72 #[.val (.long u0), .second, .val (.long u1), .second, .val (.int fl), .val (.int (0 : Int32)), .val (.int (0 : Int32)), .val (.ref b_1), .val (.ref b_13), .unset, .unset, .unset, .unset] [])) target
        refine XS.aload X_23.here hx rfl (hb hby at_72) rfl rfl ?_
        show Steps p.tables e below (T_23.setTop (mkF m 74 #[.val (.long u0), .second, .val (.long u1), .second, .val (.int fl), .val (.int (0 : Int32)), .val (.int (0 : Int32)), .val (.ref b_1), .val (.ref b_13), .unset, .unset, .unset, .unset] [(.ref b_1)])) target
        refine st_26 _ ?_
        show Steps p.tables e below (T_26.setTop (mkF m 77 #[.val (.long u0), .second, .val (.long u1), .second, .val (.int fl), .val (.int (0 : Int32)), .val (.int (0 : Int32)), .val (.ref b_1), .val (.ref b_13), .unset, .unset, .unset, .unset] [(.long (own_ord (0 : Int32) u0))])) target
        refine XS.lstore X_26.here hx rfl (hb hby at_77) rfl (l' := #[.val (.long u0), .second, .val (.long u1), .second, .val (.int fl), .val (.int (0 : Int32)), .val (.int (0 : Int32)), .val (.ref b_1), .val (.ref b_13), .val (.long (own_ord (0 : Int32) u0)), .second, .unset, .unset]) rfl ?_
        show Steps p.tables e below (T_26.setTop (mkF m 79 #[.val (.long u0), .second, .val (.long u1), .second, .val (.int fl), .val (.int (0 : Int32)), .val (.int (0 : Int32)), .val (.ref b_1), .val (.ref b_13), .val (.long (own_ord (0 : Int32) u0)), .second, .unset, .unset] [])) target
        refine XS.aload X_26.here hx rfl (hb hby at_79) rfl rfl ?_
        show Steps p.tables e below (T_26.setTop (mkF m 81 #[.val (.long u0), .second, .val (.long u1), .second, .val (.int fl), .val (.int (0 : Int32)), .val (.int (0 : Int32)), .val (.ref b_1), .val (.ref b_13), .val (.long (own_ord (0 : Int32) u0)), .second, .unset, .unset] [(.ref b_13)])) target
        refine st_29 _ ?_
        show Steps p.tables e below (T_29.setTop (mkF m 84 #[.val (.long u0), .second, .val (.long u1), .second, .val (.int fl), .val (.int (0 : Int32)), .val (.int (0 : Int32)), .val (.ref b_1), .val (.ref b_13), .val (.long (own_ord (0 : Int32) u0)), .second, .unset, .unset] [(.long (own_ord (0 : Int32) u1))])) target
        refine XS.lstore X_29.here hx rfl (hb hby at_84) rfl (l' := #[.val (.long u0), .second, .val (.long u1), .second, .val (.int fl), .val (.int (0 : Int32)), .val (.int (0 : Int32)), .val (.ref b_1), .val (.ref b_13), .val (.long (own_ord (0 : Int32) u0)), .second, .val (.long (own_ord (0 : Int32) u1)), .second]) rfl ?_
        show Steps p.tables e below (T_29.setTop (mkF m 86 #[.val (.long u0), .second, .val (.long u1), .second, .val (.int fl), .val (.int (0 : Int32)), .val (.int (0 : Int32)), .val (.ref b_1), .val (.ref b_13), .val (.long (own_ord (0 : Int32) u0)), .second, .val (.long (own_ord (0 : Int32) u1)), .second] [])) target
        refine XS.aload X_29.here hx rfl (hb hby at_86) rfl rfl ?_
        show Steps p.tables e below (T_29.setTop (mkF m 88 #[.val (.long u0), .second, .val (.long u1), .second, .val (.int fl), .val (.int (0 : Int32)), .val (.int (0 : Int32)), .val (.ref b_1), .val (.ref b_13), .val (.long (own_ord (0 : Int32) u0)), .second, .val (.long (own_ord (0 : Int32) u1)), .second] [(.ref b_1)])) target
        refine st_31 _ ?_
        show Steps p.tables e below (T_31.setTop (mkF m 91 #[.val (.long u0), .second, .val (.long u1), .second, .val (.int fl), .val (.int (0 : Int32)), .val (.int (0 : Int32)), .val (.ref b_1), .val (.ref b_13), .val (.long (own_ord (0 : Int32) u0)), .second, .val (.long (own_ord (0 : Int32) u1)), .second] [(.long u0)])) target
        refine XS.lloadN X_31.here hx rfl (hb hby at_91) rfl ?_
        show Steps p.tables e below (T_31.setTop (mkF m 92 #[.val (.long u0), .second, .val (.long u1), .second, .val (.int fl), .val (.int (0 : Int32)), .val (.int (0 : Int32)), .val (.ref b_1), .val (.ref b_13), .val (.long (own_ord (0 : Int32) u0)), .second, .val (.long (own_ord (0 : Int32) u1)), .second] [(.long u0), (.long u0)])) target
        refine XS.lcmp X_31.here hx rfl (hb hby at_92) rfl ?_
        show Steps p.tables e below (T_31.setTop (mkF m 93 #[.val (.long u0), .second, .val (.long u1), .second, .val (.int fl), .val (.int (0 : Int32)), .val (.int (0 : Int32)), .val (.ref b_1), .val (.ref b_13), .val (.long (own_ord (0 : Int32) u0)), .second, .val (.long (own_ord (0 : Int32) u1)), .second] [(.int (lcmpW u0 u0))])) target
        refine XS.ifNo X_31.here hx rfl (hb hby at_93) rfl ((if0 _ _).trans (teq (own_l1 (rfl : u0 = u0))).2) ?_
        show Steps p.tables e below (T_31.setTop (mkF m 96 #[.val (.long u0), .second, .val (.long u1), .second, .val (.int fl), .val (.int (0 : Int32)), .val (.int (0 : Int32)), .val (.ref b_1), .val (.ref b_13), .val (.long (own_ord (0 : Int32) u0)), .second, .val (.long (own_ord (0 : Int32) u1)), .second] [])) target
        refine XS.aload X_31.here hx rfl (hb hby at_96) rfl rfl ?_
        show Steps p.tables e below (T_31.setTop (mkF m 98 #[.val (.long u0), .second, .val (.long u1), .second, .val (.int fl), .val (.int (0 : Int32)), .val (.int (0 : Int32)), .val (.ref b_1), .val (.ref b_13), .val (.long (own_ord (0 : Int32) u0)), .second, .val (.long (own_ord (0 : Int32) u1)), .second] [(.ref b_1)])) target
        refine st_32 _ ?_
        show Steps p.tables e below (T_32.setTop (mkF m 101 #[.val (.long u0), .second, .val (.long u1), .second, .val (.int fl), .val (.int (0 : Int32)), .val (.int (0 : Int32)), .val (.ref b_1), .val (.ref b_13), .val (.long (own_ord (0 : Int32) u0)), .second, .val (.long (own_ord (0 : Int32) u1)), .second] [(.int (0 : Int32))])) target
        refine XS.iload X_32.here hx rfl (hb hby at_101) rfl ?_
        show Steps p.tables e below (T_32.setTop (mkF m 103 #[.val (.long u0), .second, .val (.long u1), .second, .val (.int fl), .val (.int (0 : Int32)), .val (.int (0 : Int32)), .val (.ref b_1), .val (.ref b_13), .val (.long (own_ord (0 : Int32) u0)), .second, .val (.long (own_ord (0 : Int32) u1)), .second] [(.int (0 : Int32)), (.int (0 : Int32))])) target
        refine XS.icmpNo X_32.here hx rfl (hb hby at_103) rfl (teq (by decide : (0 : Int32) = (0 : Int32))).2 ?_
        show Steps p.tables e below (T_32.setTop (mkF m 106 #[.val (.long u0), .second, .val (.long u1), .second, .val (.int fl), .val (.int (0 : Int32)), .val (.int (0 : Int32)), .val (.ref b_1), .val (.ref b_13), .val (.long (own_ord (0 : Int32) u0)), .second, .val (.long (own_ord (0 : Int32) u1)), .second] [])) target
        refine XS.aload X_32.here hx rfl (hb hby at_106) rfl rfl ?_
        show Steps p.tables e below (T_32.setTop (mkF m 108 #[.val (.long u0), .second, .val (.long u1), .second, .val (.int fl), .val (.int (0 : Int32)), .val (.int (0 : Int32)), .val (.ref b_1), .val (.ref b_13), .val (.long (own_ord (0 : Int32) u0)), .second, .val (.long (own_ord (0 : Int32) u1)), .second] [(.ref b_13)])) target
        refine st_33 _ ?_
        show Steps p.tables e below (T_33.setTop (mkF m 111 #[.val (.long u0), .second, .val (.long u1), .second, .val (.int fl), .val (.int (0 : Int32)), .val (.int (0 : Int32)), .val (.ref b_1), .val (.ref b_13), .val (.long (own_ord (0 : Int32) u0)), .second, .val (.long (own_ord (0 : Int32) u1)), .second] [(.long u1)])) target
        refine XS.lloadN X_33.here hx rfl (hb hby at_111) rfl ?_
        show Steps p.tables e below (T_33.setTop (mkF m 112 #[.val (.long u0), .second, .val (.long u1), .second, .val (.int fl), .val (.int (0 : Int32)), .val (.int (0 : Int32)), .val (.ref b_1), .val (.ref b_13), .val (.long (own_ord (0 : Int32) u0)), .second, .val (.long (own_ord (0 : Int32) u1)), .second] [(.long u1), (.long u1)])) target
        refine XS.lcmp X_33.here hx rfl (hb hby at_112) rfl ?_
        show Steps p.tables e below (T_33.setTop (mkF m 113 #[.val (.long u0), .second, .val (.long u1), .second, .val (.int fl), .val (.int (0 : Int32)), .val (.int (0 : Int32)), .val (.ref b_1), .val (.ref b_13), .val (.long (own_ord (0 : Int32) u0)), .second, .val (.long (own_ord (0 : Int32) u1)), .second] [(.int (lcmpW u1 u1))])) target
        refine XS.ifNo X_33.here hx rfl (hb hby at_113) rfl ((if0 _ _).trans (teq (own_l1 (rfl : u1 = u1))).2) ?_
        show Steps p.tables e below (T_33.setTop (mkF m 116 #[.val (.long u0), .second, .val (.long u1), .second, .val (.int fl), .val (.int (0 : Int32)), .val (.int (0 : Int32)), .val (.ref b_1), .val (.ref b_13), .val (.long (own_ord (0 : Int32) u0)), .second, .val (.long (own_ord (0 : Int32) u1)), .second] [])) target
        refine XS.aload X_33.here hx rfl (hb hby at_116) rfl rfl ?_
        show Steps p.tables e below (T_33.setTop (mkF m 118 #[.val (.long u0), .second, .val (.long u1), .second, .val (.int fl), .val (.int (0 : Int32)), .val (.int (0 : Int32)), .val (.ref b_1), .val (.ref b_13), .val (.long (own_ord (0 : Int32) u0)), .second, .val (.long (own_ord (0 : Int32) u1)), .second] [(.ref b_13)])) target
        refine st_34 _ ?_
        show Steps p.tables e below (T_34.setTop (mkF m 121 #[.val (.long u0), .second, .val (.long u1), .second, .val (.int fl), .val (.int (0 : Int32)), .val (.int (0 : Int32)), .val (.ref b_1), .val (.ref b_13), .val (.long (own_ord (0 : Int32) u0)), .second, .val (.long (own_ord (0 : Int32) u1)), .second] [(.int (0 : Int32))])) target
        refine XS.iload X_34.here hx rfl (hb hby at_121) rfl ?_
        show Steps p.tables e below (T_34.setTop (mkF m 123 #[.val (.long u0), .second, .val (.long u1), .second, .val (.int fl), .val (.int (0 : Int32)), .val (.int (0 : Int32)), .val (.ref b_1), .val (.ref b_13), .val (.long (own_ord (0 : Int32) u0)), .second, .val (.long (own_ord (0 : Int32) u1)), .second] [(.int (0 : Int32)), (.int (0 : Int32))])) target
        refine XS.icmpYes X_34.here hx rfl (pc0 := 123) (pc' := 128) rfl (hb hby at_123) rfl (teq (by decide : (0 : Int32) = (0 : Int32))).1 (by decide) (by decide) ?_
        show Steps p.tables e below (T_34.setTop (mkF m 128 #[.val (.long u0), .second, .val (.long u1), .second, .val (.int fl), .val (.int (0 : Int32)), .val (.int (0 : Int32)), .val (.ref b_1), .val (.ref b_13), .val (.long (own_ord (0 : Int32) u0)), .second, .val (.long (own_ord (0 : Int32) u1)), .second] [])) target
        refine XS.iload X_34.here hx rfl (hb hby at_128) rfl ?_
        show Steps p.tables e below (T_34.setTop (mkF m 130 #[.val (.long u0), .second, .val (.long u1), .second, .val (.int fl), .val (.int (0 : Int32)), .val (.int (0 : Int32)), .val (.ref b_1), .val (.ref b_13), .val (.long (own_ord (0 : Int32) u0)), .second, .val (.long (own_ord (0 : Int32) u1)), .second] [(.int (0 : Int32))])) target
        refine XS.ifYes X_34.here hx rfl (pc0 := 130) (pc' := 144) rfl (hb hby at_130) rfl ((if0 _ _).trans (teq (by decide : (0 : Int32) = (0 : Int32))).1) (by decide) (by decide) ?_
        show Steps p.tables e below (T_34.setTop (mkF m 144 #[.val (.long u0), .second, .val (.long u1), .second, .val (.int fl), .val (.int (0 : Int32)), .val (.int (0 : Int32)), .val (.ref b_1), .val (.ref b_13), .val (.long (own_ord (0 : Int32) u0)), .second, .val (.long (own_ord (0 : Int32) u1)), .second] [])) target
        refine XS.lload X_34.here hx rfl (hb hby at_144) rfl ?_
        show Steps p.tables e below (T_34.setTop (mkF m 146 #[.val (.long u0), .second, .val (.long u1), .second, .val (.int fl), .val (.int (0 : Int32)), .val (.int (0 : Int32)), .val (.ref b_1), .val (.ref b_13), .val (.long (own_ord (0 : Int32) u0)), .second, .val (.long (own_ord (0 : Int32) u1)), .second] [(.long (own_ord (0 : Int32) u0))])) target
        refine XS.lloadN X_34.here hx rfl (hb hby at_146) rfl ?_
        show Steps p.tables e below (T_34.setTop (mkF m 147 #[.val (.long u0), .second, .val (.long u1), .second, .val (.int fl), .val (.int (0 : Int32)), .val (.int (0 : Int32)), .val (.ref b_1), .val (.ref b_13), .val (.long (own_ord (0 : Int32) u0)), .second, .val (.long (own_ord (0 : Int32) u1)), .second] [(.long u0), (.long (own_ord (0 : Int32) u0))])) target
        refine XS.lcmp X_34.here hx rfl (hb hby at_147) rfl ?_
        show Steps p.tables e below (T_34.setTop (mkF m 148 #[.val (.long u0), .second, .val (.long u1), .second, .val (.int fl), .val (.int (0 : Int32)), .val (.int (0 : Int32)), .val (.ref b_1), .val (.ref b_13), .val (.long (own_ord (0 : Int32) u0)), .second, .val (.long (own_ord (0 : Int32) u1)), .second] [(.int (lcmpW (own_ord (0 : Int32) u0) u0))])) target
        refine XS.ifYes X_34.here hx rfl (pc0 := 148) (pc' := 153) rfl (hb hby at_148) rfl ((if0 _ _).trans (teq (own_l1 (own_ord0 _ : (own_ord (0 : Int32) u0) = u0))).1) (by decide) (by decide) ?_
        show Steps p.tables e below (T_34.setTop (mkF m 153 #[.val (.long u0), .second, .val (.long u1), .second, .val (.int fl), .val (.int (0 : Int32)), .val (.int (0 : Int32)), .val (.ref b_1), .val (.ref b_13), .val (.long (own_ord (0 : Int32) u0)), .second, .val (.long (own_ord (0 : Int32) u1)), .second] [])) target
        refine XS.iload X_34.here hx rfl (hb hby at_153) rfl ?_
        show Steps p.tables e below (T_34.setTop (mkF m 155 #[.val (.long u0), .second, .val (.long u1), .second, .val (.int fl), .val (.int (0 : Int32)), .val (.int (0 : Int32)), .val (.ref b_1), .val (.ref b_13), .val (.long (own_ord (0 : Int32) u0)), .second, .val (.long (own_ord (0 : Int32) u1)), .second] [(.int (0 : Int32))])) target
        refine XS.ifYes X_34.here hx rfl (pc0 := 155) (pc' := 169) rfl (hb hby at_155) rfl ((if0 _ _).trans (teq (by decide : (0 : Int32) = (0 : Int32))).1) (by decide) (by decide) ?_
        show Steps p.tables e below (T_34.setTop (mkF m 169 #[.val (.long u0), .second, .val (.long u1), .second, .val (.int fl), .val (.int (0 : Int32)), .val (.int (0 : Int32)), .val (.ref b_1), .val (.ref b_13), .val (.long (own_ord (0 : Int32) u0)), .second, .val (.long (own_ord (0 : Int32) u1)), .second] [])) target
        refine XS.lload X_34.here hx rfl (hb hby at_169) rfl ?_
        show Steps p.tables e below (T_34.setTop (mkF m 171 #[.val (.long u0), .second, .val (.long u1), .second, .val (.int fl), .val (.int (0 : Int32)), .val (.int (0 : Int32)), .val (.ref b_1), .val (.ref b_13), .val (.long (own_ord (0 : Int32) u0)), .second, .val (.long (own_ord (0 : Int32) u1)), .second] [(.long (own_ord (0 : Int32) u1))])) target
        refine XS.lloadN X_34.here hx rfl (hb hby at_171) rfl ?_
        show Steps p.tables e below (T_34.setTop (mkF m 172 #[.val (.long u0), .second, .val (.long u1), .second, .val (.int fl), .val (.int (0 : Int32)), .val (.int (0 : Int32)), .val (.ref b_1), .val (.ref b_13), .val (.long (own_ord (0 : Int32) u0)), .second, .val (.long (own_ord (0 : Int32) u1)), .second] [(.long u1), (.long (own_ord (0 : Int32) u1))])) target
        refine XS.lcmp X_34.here hx rfl (hb hby at_172) rfl ?_
        show Steps p.tables e below (T_34.setTop (mkF m 173 #[.val (.long u0), .second, .val (.long u1), .second, .val (.int fl), .val (.int (0 : Int32)), .val (.int (0 : Int32)), .val (.ref b_1), .val (.ref b_13), .val (.long (own_ord (0 : Int32) u0)), .second, .val (.long (own_ord (0 : Int32) u1)), .second] [(.int (lcmpW (own_ord (0 : Int32) u1) u1))])) target
        refine XS.ifYes X_34.here hx rfl (pc0 := 173) (pc' := 178) rfl (hb hby at_173) rfl ((if0 _ _).trans (teq (own_l1 (own_ord0 _ : (own_ord (0 : Int32) u1) = u1))).1) (by decide) (by decide) ?_
        show Steps p.tables e below (T_34.setTop (mkF m 178 #[.val (.long u0), .second, .val (.long u1), .second, .val (.int fl), .val (.int (0 : Int32)), .val (.int (0 : Int32)), .val (.ref b_1), .val (.ref b_13), .val (.long (own_ord (0 : Int32) u0)), .second, .val (.long (own_ord (0 : Int32) u1)), .second] [])) target
        refine XS.iload X_34.here hx rfl (hb hby at_178) rfl ?_
        show Steps p.tables e below (T_34.setTop (mkF m 180 #[.val (.long u0), .second, .val (.long u1), .second, .val (.int fl), .val (.int (0 : Int32)), .val (.int (0 : Int32)), .val (.ref b_1), .val (.ref b_13), .val (.long (own_ord (0 : Int32) u0)), .second, .val (.long (own_ord (0 : Int32) u1)), .second] [(.int (0 : Int32))])) target
        refine XS.ifYes X_34.here hx rfl (pc0 := 180) (pc' := 193) rfl (hb hby at_180) rfl ((if0 _ _).trans (teq (by decide : (0 : Int32) = (0 : Int32))).1) (by decide) (by decide) ?_
        show Steps p.tables e below (T_34.setTop (mkF m 193 #[.val (.long u0), .second, .val (.long u1), .second, .val (.int fl), .val (.int (0 : Int32)), .val (.int (0 : Int32)), .val (.ref b_1), .val (.ref b_13), .val (.long (own_ord (0 : Int32) u0)), .second, .val (.long (own_ord (0 : Int32) u1)), .second] [])) target
        refine XS.iload X_34.here hx rfl (hb hby at_193) rfl ?_
        show Steps p.tables e below (T_34.setTop (mkF m 195 #[.val (.long u0), .second, .val (.long u1), .second, .val (.int fl), .val (.int (0 : Int32)), .val (.int (0 : Int32)), .val (.ref b_1), .val (.ref b_13), .val (.long (own_ord (0 : Int32) u0)), .second, .val (.long (own_ord (0 : Int32) u1)), .second] [(.int (0 : Int32))])) target
        refine XS.ifYes X_34.here hx rfl (pc0 := 195) (pc' := 208) rfl (hb hby at_195) rfl ((if0 _ _).trans (teq (by decide : (0 : Int32) = (0 : Int32))).1) (by decide) (by decide) ?_
        show Steps p.tables e below (T_34.setTop (mkF m 208 #[.val (.long u0), .second, .val (.long u1), .second, .val (.int fl), .val (.int (0 : Int32)), .val (.int (0 : Int32)), .val (.ref b_1), .val (.ref b_13), .val (.long (own_ord (0 : Int32) u0)), .second, .val (.long (own_ord (0 : Int32) u1)), .second] [])) target
        refine XS.iconst X_34.here hx rfl (hb hby at_208) ?_
        show Steps p.tables e below (T_34.setTop (mkF m 209 #[.val (.long u0), .second, .val (.long u1), .second, .val (.int fl), .val (.int (0 : Int32)), .val (.int (0 : Int32)), .val (.ref b_1), .val (.ref b_13), .val (.long (own_ord (0 : Int32) u0)), .second, .val (.long (own_ord (0 : Int32) u1)), .second] [(.int (1 : Int32))])) target
        exact kt
      obtain ⟨fs, hr, hrun, hended, hW, hsame⟩ := X_34.leave (v := some (.int (1 : Int32))) (fun h => by rw [Bd.returns] at h; cases h)
      refine ⟨_, _, retN X_34 hx (t := .boolean) Bd.returns (by simp) (hb hby at_209) hr, hrun, hended, _, _, rfl, ?_, ⟨_, rfl⟩, hW, hsame.mono (by decide) (by decide)⟩
      show Q_law Z u0 u1 fl h0 n0 _ T_34.heap _
      rw [e_34]
      exact ⟨rfl, N_29⟩
    · -- pc 18: no
      obtain ⟨T_35, h_35, X_35, e_35, E_35, A_35, D_35, -, st_35⟩ := newO X0 hx hZ hown (hw _ (List.mem_of_getElem? (i := 0) rfl)) (hw _ (List.mem_of_getElem? (i := 1) rfl)) (hw _ (List.mem_of_getElem? (i := 2) rfl)) e0 (g := (mkF m 28 #[.val (.long u0), .second, .val (.long u1), .second, .val (.int fl), .val (.int (0 : Int32)), .val (.int (1 : Int32)), .unset, .unset, .unset, .unset, .unset, .unset] [])) rfl (hb hby at_28) (by decide) (by decide)
      obtain ⟨b_35, g_35⟩ : ∃ z, z = h0.size := ⟨_, rfl⟩
      rw [← g_35] at A_35 D_35 st_35
      have gn_b_35 : n0 ≤ b_35 := Nat.le_trans Z0 (Nat.le_of_eq g_35.symm)
      have Z_36 : n0 ≤ h_35.size := Nat.le_trans Z0 E_35.1
      have F_35_when : Fld Z h_35 b_35 "com/example/carillon/carillon/Message" "when" "J" (.long (0 : Int64)) := D_35 (Or.inl (hw _ (List.mem_of_getElem? (i := 10) rfl))) (ty := .long) (by decide)
      have F_35_atFront : Fld Z h_35 b_35 "com/example/carillon/carillon/Message" "atFront" "Z" (.int (0 : Int32)) := D_35 (Or.inl (hw _ (List.mem_of_getElem? (i := 12) rfl))) (ty := .boolean) (by decide)
      obtain ⟨_, _, ⟨T_38, L_38, k_38, n_38⟩, -, X_38, ⟨Lc_38, hQ_38, l_38, y_38, z_38⟩, st_38⟩ := X_35.specialBack hx (y := (⟨"com/example/carillon/carillon/Message", "<init>", "()V"⟩ : MethodName)) rfl hown (mvT hZ (hw _ (List.mem_of_getElem? (i := 3) rfl))) (mvT hZ (hw _ (List.mem_of_getElem? (i := 4) rfl))) (mvT hZ (hw _ (List.mem_of_getElem? (i := 5) rfl))) (by decide) (backOf (W := 1) (rm_mi l Z a0 hw [] b_35  h_35 n0 Z_36 ) hZ (hw _ (List.mem_of_getElem? (i := 5) rfl)) (hw _ (List.mem_of_getElem? (i := 2) rfl)) (by decide) (by decide)) (g := (mkF m 32 #[.val (.long u0), .second, .val (.long u1), .second, .val (.int fl), .val (.int (0 : Int32)), .val (.int (1 : Int32)), .unset, .unset, .unset, .unset, .unset, .unset] [(.ref b_35), (.ref b_35)])) rfl (by rw [hml]; rfl) (Steps.refl _) (a := b_35) (argsL := []) (rest := [(.ref b_35)]) (lenOf pd__V rfl) rfl (by show 2 * 0 + _ ≤ _; exact Nat.le_of_eq rfl) (hb hby at_32) (fun _ _ => ⟨rfl, e_35, (by decide : 1 + 0 ≤ _), (by decide : 12 + 0 ≤ _)⟩)
      dsimp only [Pt.U, Pt.locs, Pt.cells, Pt.slots] at X_38 l_38 y_38 z_38 st_38 hQ_38
      subst l_38 y_38 z_38
      obtain ⟨rfl, N_38q, p_38_0⟩ := hQ_38
      have N_38 := Fr.app N0 N_38q
      obtain ⟨T_39, h_39, X_39, e_39, W_39, st_39⟩ := putF X_38 hx hZ hown (host := "") (Or.inl (hw _ (List.mem_of_getElem? (i := 9) rfl))) Via.refl p_38_0 F_35_when A_35 (Or.inl (hw _ (List.mem_of_getElem? (i := 10) rfl))) (hw _ (List.mem_of_getElem? (i := 1) rfl)) (ty := .long) (by decide) rfl rfl (g := (mkF m 40 #[.val (.long u0), .second, .val (.long u1), .second, .val (.int fl), .val (.int (0 : Int32)), .val (.int (1 : Int32)), .val (.ref b_35), .unset, .unset, .unset, .unset, .unset] [(.long u0), (.ref b_35)])) rfl rfl (hb hby at_40)
      have N_39 := Fr.snoc X_39 N_38 gn_b_35
      have F_39 := F_35_when.same W_39
      have Z_40 : n0 ≤ h_39.size := Nat.le_trans Z_36 (Keep.of_wr W_39).1
      have f_42 := (A_35.wr W_39)
      have f_43 := (F_35_atFront.other W_39 (Or.inr (slot_ne (Or.inl (hw _ (List.mem_of_getElem? (i := 12) rfl))) (Or.inl (hw _ (List.mem_of_getElem? (i := 10) rfl))) (by decide) (t := .boolean) (t' := .long) (by decide) (by decide))))
      obtain ⟨T_44, h_44, X_44, e_44, W_44, st_44⟩ := putFN X_39 hx hZ hown (hw _ (List.mem_of_getElem? (i := 11) rfl)) Via.refl e_39 f_43 f_42 (Or.inl (hw _ (List.mem_of_getElem? (i := 12) rfl))) (hw _ (List.mem_of_getElem? (i := 1) rfl)) (ty := .boolean) (v' := (.int (0 : Int32))) (by decide) rfl (by decide) (g := (mkF m 47 #[.val (.long u0), .second, .val (.long u1), .second, .val (.int fl), .val (.int (0 : Int32)), .val (.int (1 : Int32)), .val (.ref b_35), .unset, .unset, .unset, .unset, .unset] [(.int (0 : Int32)), (.ref b_35)])) rfl rfl (hb hby at_47)
      have N_44 := Fr.snoc X_44 N_39 gn_b_35
      have F_44 := f_43.same W_44
      have Z_45 : n0 ≤ h_44.size := Nat.le_trans Z_40 (Keep.of_wr W_44).1
      obtain ⟨T_47, h_47, X_47, e_47, E_47, A_47, D_47, -, st_47⟩ := newO X_44 hx hZ hown (hw _ (List.mem_of_getElem? (i := 0) rfl)) (hw _ (List.mem_of_getElem? (i := 1) rfl)) (hw _ (List.mem_of_getElem? (i := 2) rfl)) e_44 (g := (mkF m 50 #[.val (.long u0), .second, .val (.long u1), .second, .val (.int fl), .val (.int (0 : Int32)), .val (.int (1 : Int32)), .val (.ref b_35), .unset, .unset, .unset, .unset, .unset] [])) rfl (hb hby at_50) (by decide) (by decide)
      obtain ⟨b_47, g_47⟩ : ∃ z, z = h_44.size := ⟨_, rfl⟩
      rw [← g_47] at A_47 D_47 st_47
      have gn_b_47 : n0 ≤ b_47 := Nat.le_trans Z_45 (Nat.le_of_eq g_47.symm)
      have f_48 := (f_42.wr W_44)
      have ne_b_35_b_47 : b_35 ≠ b_47 := Nat.ne_of_lt (Nat.lt_of_lt_of_le f_48.lt (Nat.le_of_eq g_47.symm))
      have Z_49 : n0 ≤ h_47.size := Nat.le_trans Z_45 E_47.1
      have F_47_when : Fld Z h_47 b_47 "com/example/carillon/carillon/Message" "when" "J" (.long (0 : Int64)) := D_47 (Or.inl (hw _ (List.mem_of_getElem? (i := 10) rfl))) (ty := .long) (by decide)
      have F_47_atFront : Fld Z h_47 b_47 "com/example/carillon/carillon/Message" "atFront" "Z" (.int (0 : Int32)) := D_47 (Or.inl (hw _ (List.mem_of_getElem? (i := 12) rfl))) (ty := .boolean) (by decide)
      obtain ⟨_, _, ⟨T_51, L_51, k_51, n_51⟩, -, X_51, ⟨Lc_51, hQ_51, l_51, y_51, z_51⟩, st_51⟩ := X_47.specialBack hx (y := (⟨"com/example/carillon/carillon/Message", "<init>", "()V"⟩ : MethodName)) rfl hown (mvT hZ (hw _ (List.mem_of_getElem? (i := 3) rfl))) (mvT hZ (hw _ (List.mem_of_getElem? (i := 4) rfl))) (mvT hZ (hw _ (List.mem_of_getElem? (i := 5) rfl))) (by decide) (backOf (W := 1) (rm_mi l Z a0 hw [] b_47  h_47 n0 Z_49 ) hZ (hw _ (List.mem_of_getElem? (i := 5) rfl)) (hw _ (List.mem_of_getElem? (i := 2) rfl)) (by decide) (by decide)) (g := (mkF m 54 #[.val (.long u0), .second, .val (.long u1), .second, .val (.int fl), .val (.int (0 : Int32)), .val (.int (1 : Int32)), .val (.ref b_35), .unset, .unset, .unset, .unset, .unset] [(.ref b_47), (.ref b_47)])) rfl (by rw [hml]; rfl) (Steps.refl _) (a := b_47) (argsL := []) (rest := [(.ref b_47)]) (lenOf pd__V rfl) rfl (by show 2 * 0 + _ ≤ _; exact Nat.le_of_eq rfl) (hb hby at_54) (fun _ _ => ⟨rfl, e_47, (by decide : 2 + 0 ≤ _), (by decide : 24 + 0 ≤ _)⟩)
      dsimp only [Pt.U, Pt.locs, Pt.cells, Pt.slots] at X_51 l_51 y_51 z_51 st_51 hQ_51
      subst l_51 y_51 z_51
      obtain ⟨rfl, N_51q, p_51_0⟩ := hQ_51
      have N_51 := Fr.app N_44 N_51q
      obtain ⟨T_52, h_52, X_52, e_52, W_52, st_52⟩ := putF X_51 hx hZ hown (host := "") (Or.inl (hw _ (List.mem_of_getElem? (i := 9) rfl))) Via.refl p_51_0 F_47_when A_47 (Or.inl (hw _ (List.mem_of_getElem? (i := 10) rfl))) (hw _ (List.mem_of_getElem? (i := 1) rfl)) (ty := .long) (by decide) rfl rfl (g := (mkF m 62 #[.val (.long u0), .second, .val (.long u1), .second, .val (.int fl), .val (.int (0 : Int32)), .val (.int (1 : Int32)), .val (.ref b_35), .val (.ref b_47), .unset, .unset, .unset, .unset] [(.long u1), (.ref b_47)])) rfl rfl (hb hby at_62)
      have N_52 := Fr.snoc X_52 N_51 gn_b_47
      have F_52 := F_47_when.same W_52
      have Z_53 : n0 ≤ h_52.size := Nat.le_trans Z_49 (Keep.of_wr W_52).1
      have f_55 := (A_47.wr W_52)
      have f_56 := (F_47_atFront.other W_52 (Or.inr (slot_ne (Or.inl (hw _ (List.mem_of_getElem? (i := 12) rfl))) (Or.inl (hw _ (List.mem_of_getElem? (i := 10) rfl))) (by decide) (t := .boolean) (t' := .long) (by decide) (by decide))))
      obtain ⟨T_57, h_57, X_57, e_57, W_57, st_57⟩ := putFN X_52 hx hZ hown (hw _ (List.mem_of_getElem? (i := 11) rfl)) Via.refl e_52 f_56 f_55 (Or.inl (hw _ (List.mem_of_getElem? (i := 12) rfl))) (hw _ (List.mem_of_getElem? (i := 1) rfl)) (ty := .boolean) (v' := (.int (1 : Int32))) (by decide) rfl (by decide) (g := (mkF m 69 #[.val (.long u0), .second, .val (.long u1), .second, .val (.int fl), .val (.int (0 : Int32)), .val (.int (1 : Int32)), .val (.ref b_35), .val (.ref b_47), .unset, .unset, .unset, .unset] [(.int (1 : Int32)), (.ref b_47)])) rfl rfl (hb hby at_69)
      have N_57 := Fr.snoc X_57 N_52 gn_b_47
      have F_57 := f_56.same W_57
      have Z_58 : n0 ≤ h_57.size := Nat.le_trans Z_53 (Keep.of_wr W_57).1
      have f_61 := (((F_44.ext E_47).other W_52 (Or.inl ne_b_35_b_47)).other W_57 (Or.inl ne_b_35_b_47))
      have f_62 := ((((F_39.other W_44 (Or.inr (slot_ne (Or.inl (hw _ (List.mem_of_getElem? (i := 10) rfl))) (Or.inl (hw _ (List.mem_of_getElem? (i := 12) rfl))) (by decide) (t := .long) (t' := .boolean) (by decide) (by decide)))).ext E_47).other W_52 (Or.inl ne_b_35_b_47)).other W_57 (Or.inl ne_b_35_b_47))
      obtain ⟨_, _, ⟨T_60, L_60, k_60, n_60⟩, -, X_60, ⟨Lc_60, hQ_60, l_60, y_60, z_60⟩, st_60⟩ := Jvm.LawKit.callS X_57 hx (y := (⟨"com/example/carillon/carillon/Chain", "orderOf", "(Lcom/example/carillon/carillon/Message;)J"⟩ : MethodName)) hown (mvT hZ (hw _ (List.mem_of_getElem? (i := 13) rfl))) (mvT hZ (hw _ (List.mem_of_getElem? (i := 14) rfl))) (mvT hZ (hw _ (List.mem_of_getElem? (i := 15) rfl))) (mvT hZ (hw _ (List.mem_of_getElem? (i := 16) rfl))) (by decide) (backOf (W := 0) (rm_ord l Z a0 hw [] b_35 (0 : Int32) u0 h_57 n0 Z_58 f_61 f_62) hZ (hw _ (List.mem_of_getElem? (i := 16) rfl)) (hw _ (List.mem_of_getElem? (i := 15) rfl)) (by decide) (by decide)) (g := (mkF m 74 #[.val (.long u0), .second, .val (.long u1), .second, .val (.int fl), .val (.int (0 : Int32)), .val (.int (1 : Int32)), .val (.ref b_35), .val (.ref b_47), .unset, .unset, .unset, .unset] [(.ref b_35)])) rfl (by rw [hml]; rfl) (argsL := [(.ref b_35)]) (rest := []) (lenOf pd_LcomexamplecarilloncarillonMessage_J rfl) rfl (by show 2 * 0 + _ ≤ _; exact Nat.le_of_eq rfl) (hb hby at_74) (fun _ _ => ⟨rfl, e_57, (by decide : 2 + 0 ≤ _), (by decide : 24 + 0 ≤ _)⟩)
      dsimp only [Pt.U, Pt.locs, Pt.cells, Pt.slots] at X_60 l_60 y_60 z_60 st_60 hQ_60
      subst l_60 y_60 z_60
      obtain ⟨rfl, N_60q, p_60_0⟩ := hQ_60
      have N_60 := Fr.app N_57 N_60q
      have f_64 := (F_52.other W_57 (Or.inr (slot_ne (Or.inl (hw _ (List.mem_of_getElem? (i := 10) rfl))) (Or.inl (hw _ (List.mem_of_getElem? (i := 12) rfl))) (by decide) (t := .long) (t' := .boolean) (by decide) (by decide))))
      obtain ⟨_, _, ⟨T_63, L_63, k_63, n_63⟩, -, X_63, ⟨Lc_63, hQ_63, l_63, y_63, z_63⟩, st_63⟩ := Jvm.LawKit.callS X_60 hx (y := (⟨"com/example/carillon/carillon/Chain", "orderOf", "(Lcom/example/carillon/carillon/Message;)J"⟩ : MethodName)) hown (mvT hZ (hw _ (List.mem_of_getElem? (i := 13) rfl))) (mvT hZ (hw _ (List.mem_of_getElem? (i := 14) rfl))) (mvT hZ (hw _ (List.mem_of_getElem? (i := 15) rfl))) (mvT hZ (hw _ (List.mem_of_getElem? (i := 16) rfl))) (by decide) (backOf (W := 0) (rm_ord l Z a0 hw [] b_47 (1 : Int32) u1 h_57 n0 Z_58 F_57 f_64) hZ (hw _ (List.mem_of_getElem? (i := 16) rfl)) (hw _ (List.mem_of_getElem? (i := 15) rfl)) (by decide) (by decide)) (g := (mkF m 81 #[.val (.long u0), .second, .val (.long u1), .second, .val (.int fl), .val (.int (0 : Int32)), .val (.int (1 : Int32)), .val (.ref b_35), .val (.ref b_47), .val (.long (own_ord (0 : Int32) u0)), .second, .unset, .unset] [(.ref b_47)])) rfl (by rw [hml]; rfl) (argsL := [(.ref b_47)]) (rest := []) (lenOf pd_LcomexamplecarilloncarillonMessage_J rfl) rfl (by show 2 * 0 + _ ≤ _; exact Nat.le_of_eq rfl) (hb hby at_81) (fun _ _ => ⟨rfl, p_60_0, (by decide : 2 + 0 ≤ _), (by decide : 24 + 0 ≤ _)⟩)
      dsimp only [Pt.U, Pt.locs, Pt.cells, Pt.slots] at X_63 l_63 y_63 z_63 st_63 hQ_63
      subst l_63 y_63 z_63
      obtain ⟨rfl, N_63q, p_63_0⟩ := hQ_63
      have N_63 := Fr.app N_60 N_63q
      obtain ⟨T_65, X_65, e_65, st_65⟩ := getF X_63 hx hZ hown (host := "") (Or.inl (hw _ (List.mem_of_getElem? (i := 9) rfl))) Via.refl p_63_0 f_62 (g := (mkF m 88 #[.val (.long u0), .second, .val (.long u1), .second, .val (.int fl), .val (.int (0 : Int32)), .val (.int (1 : Int32)), .val (.ref b_35), .val (.ref b_47), .val (.long (own_ord (0 : Int32) u0)), .second, .val (.long (own_ord (1 : Int32) u1)), .second] [(.ref b_35)])) rfl rfl (hb hby at_88)
      obtain ⟨T_66, X_66, e_66, st_66⟩ := getF X_65 hx hZ hown (host := "") (Or.inl (hw _ (List.mem_of_getElem? (i := 11) rfl))) Via.refl e_65 f_61 (g := (mkF m 98 #[.val (.long u0), .second, .val (.long u1), .second, .val (.int fl), .val (.int (0 : Int32)), .val (.int (1 : Int32)), .val (.ref b_35), .val (.ref b_47), .val (.long (own_ord (0 : Int32) u0)), .second, .val (.long (own_ord (1 : Int32) u1)), .second] [(.ref b_35)])) rfl rfl (hb hby at_98)
      obtain ⟨T_67, X_67, e_67, st_67⟩ := getF X_66 hx hZ hown (host := "") (Or.inl (hw _ (List.mem_of_getElem? (i := 9) rfl))) Via.refl e_66 f_64 (g := (mkF m 108 #[.val (.long u0), .second, .val (.long u1), .second, .val (.int fl), .val (.int (0 : Int32)), .val (.int (1 : Int32)), .val (.ref b_35), .val (.ref b_47), .val (.long (own_ord (0 : Int32) u0)), .second, .val (.long (own_ord (1 : Int32) u1)), .second] [(.ref b_47)])) rfl rfl (hb hby at_108)
      obtain ⟨T_68, X_68, e_68, st_68⟩ := getF X_67 hx hZ hown (host := "") (Or.inl (hw _ (List.mem_of_getElem? (i := 11) rfl))) Via.refl e_67 F_57 (g := (mkF m 118 #[.val (.long u0), .second, .val (.long u1), .second, .val (.int fl), .val (.int (0 : Int32)), .val (.int (1 : Int32)), .val (.ref b_35), .val (.ref b_47), .val (.long (own_ord (0 : Int32) u0)), .second, .val (.long (own_ord (1 : Int32) u1)), .second] [(.ref b_47)])) rfl rfl (hb hby at_118)
      refine own_go (S' := T_68.setTop (mkF m 209 #[.val (.long u0), .second, .val (.long u1), .second, .val (.int fl), .val (.int (0 : Int32)), .val (.int (1 : Int32)), .val (.ref b_35), .val (.ref b_47), .val (.long (own_ord (0 : Int32) u0)), .second, .val (.long (own_ord (1 : Int32) u1)), .second] [(.int (1 : Int32))])) (fun target kt => ?_) ?_
      · show Steps p.tables e below (s₁.setTop (mkF m 18 #[.val (.long u0), .second, .val (.long u1), .second, .val (.int fl), .val (.int (0 : Int32)), .unset, .unset, .unset, .unset, .unset, .unset, .unset] [(.int (fl &&& (2 : Int32)))])) target
        refine XS.ifNo X0.here hx rfl (hb hby at_18) rfl ((if0 _ _).trans (feq hc18).1) ?_
        show Steps p.tables e below (s₁.setTop (mkF m 21 #[.val (.long u0), .second, .val (.long u1), .second, .val (.int fl), .val (.int (0 : Int32)), .unset, .unset, .unset, .unset, .unset, .unset, .unset] [])) target
        refine XS.iconst X0.here hx rfl (hb hby at_21) ?_
        show Steps p.tables e below (s₁.setTop (mkF m 22 #[.val (.long u0), .second, .val (.long u1), .second, .val (.int fl), .val (.int (0 : Int32)), .unset, .unset, .unset, .unset, .unset, .unset, .unset] [(.int (1 : Int32))])) target
        refine XS.goto X0.here hx rfl (pc0 := 22) (pc' := 26) rfl (hb hby at_22) (by decide) (by decide) ?_
        show Steps p.tables e below (s₁.setTop (mkF m 26 #[.val (.long u0), .second, .val (.long u1), .second, .val (.int fl), .val (.int (0 : Int32)), .unset, .unset, .unset, .unset, .unset, .unset, .unset] [(.int (1 : Int32))])) target
        refine XS.istore X0.here hx rfl (hb hby at_26) rfl (l' := #[.val (.long u0), .second, .val (.long u1), .second, .val (.int fl), .val (.int (0 : Int32)), .val (.int (1 : Int32)), .unset, .unset, .unset, .unset, .unset, .unset]) rfl ?_
        show Steps p.tables e below (s₁.setTop (mkF m 28 #[.val (.long u0), .second, .val (.long u1), .second, .val (.int fl), .val (.int (0 : Int32)), .val (.int (1 : Int32)), .unset, .unset, .unset, .unset, .unset, .unset] [])) target
        refine st_35 _ ?_
        show Steps p.tables e below (T_35.setTop (mkF m 31 #[.val (.long u0), .second, .val (.long u1), .second, .val (.int fl), .val (.int (0 : Int32)), .val (.int (1 : Int32)), .unset, .unset, .unset, .unset, .unset, .unset] [(.ref b_35)])) target
        refine XS.dup X_35.here hx rfl (hb hby at_31) rfl rfl ?_
        show Steps p.tables e below (T_35.setTop (mkF m 32 #[.val (.long u0), .second, .val (.long u1), .second, .val (.int fl), .val (.int (0 : Int32)), .val (.int (1 : Int32)), .unset, .unset, .unset, .unset, .unset, .unset] [(.ref b_35), (.ref b_35)])) target
        refine st_38.trans ?_
        show Steps p.tables e below (T_38.setTop (mkF m 35 #[.val (.long u0), .second, .val (.long u1), .second, .val (.int fl), .val (.int (0 : Int32)), .val (.int (1 : Int32)), .unset, .unset, .unset, .unset, .unset, .unset] [(.ref b_35)])) target
        refine XS.astore X_38.here hx rfl (hb hby at_35) rfl rfl (l' := #[.val (.long u0), .second, .val (.long u1), .second, .val (.int fl), .val (.int (0 : Int32)), .val (.int (1 : Int32)), .val (.ref b_35), .unset, .unset, .unset, .unset, .unset]) rfl ?_
        show Steps p.tables e below (T_38.setTop (mkF m 37 #[.val (.long u0), .second, .val (.long u1), .second, .val (.int fl), .val (.int (0 : Int32)), .val (.int (1 : Int32)), .val (.ref b_35), .unset, .unset, .unset, .unset, .unset] [])) target
        refine XS.aload X_38.here hx rfl (hb hby at_37) rfl rfl ?_
        show Steps p.tables e below (T_38.setTop (mkF m 39 #[.val (.long u0), .second, .val (.long u1), .second, .val (.int fl), .val (.int (0 : Int32)), .val (.int (1 : Int32)), .val (.ref b_35), .unset, .unset, .unset, .unset, .unset] [(.ref b_35)])) target
        refine XS.lloadN X_38.here hx rfl (hb hby at_39) rfl ?_
        show Steps p.tables e below (T_38.setTop (mkF m 40 #[.val (.long u0), .second, .val (.long u1), .second, .val (.int fl), .val (.int (0 : Int32)), .val (.int (1 : Int32)), .val (.ref b_35), .unset, .unset, .unset, .unset, .unset] [(.long u0), (.ref b_35)])) target
        refine st_39 _ ?_
        show Steps p.tables e below (T_39.setTop (mkF m 43 #[.val (.long u0), .second, .val (.long u1), .second, .val (.int fl), .val (.int (0 : Int32)), .val (.int (1 : Int32)), .val (.ref b_35), .unset, .unset, .unset, .unset, .unset] [])) target
        refine XS.aload X_39.here hx rfl (hb hby at_43) rfl rfl ?_
        show Steps p.tables e below (T_39.setTop (mkF m 45 #[.val (.long u0), .second, .val (.long u1), .second, .val (.int fl), .val (.int (0 : Int32)), .val (.int (1 : Int32)), .val (.ref b_35), .unset, .unset, .unset, .unset, .unset] [(.ref b_35)])) target
        refine XS.iload X_39.here hx rfl (hb hby at_45) rfl ?_
        show Steps p.tables e below (T_39.setTop (mkF m 47 #[.val (.long u0), .second, .val (.long u1), .second, .val (.int fl), .val (.int (0 : Int32)), .val (.int (1 : Int32)), .val (.ref b_35), .unset, .unset, .unset, .unset, .unset] [(.int (0 : Int32)), (.ref b_35)])) target
        refine st_44 _ ?_
        show Steps p.tables e below (T_44.setTop (mkF m 50 #[.val (.long u0), .second, .val (.long u1), .second, .val (.int fl), .val (.int (0 : Int32)), .val (.int (1 : Int32)), .val (.ref b_35), .unset, .unset, .unset, .unset, .unset] [])) target
        refine st_47 _ ?_
        show Steps p.tables e below (T_47.setTop (mkF m 53 #[.val (.long u0), .second, .val (.long u1), .second, .val (.int fl), .val (.int (0 : Int32)), .val (.int (1 : Int32)), .val (.ref b_35), .unset, .unset, .unset, .unset, .unset] [(.ref b_47)])) target
        refine XS.dup X_47.here hx rfl (hb hby at_53) rfl rfl ?_
        show Steps p.tables e below (T_47.setTop (mkF m 54 #[.val (.long u0), .second, .val (.long u1), .second, .val (.int fl), .val (.int (0 : Int32)), .val (.int (1 : Int32)), .val (.ref b_35), .unset, .unset, .unset, .unset, .unset] [(.ref b_47), (.ref b_47)])) target
        refine st_51.trans ?_
        show Steps p.tables e below (T_51.setTop (mkF m 57 #[.val (.long u0), .second, .val (.long u1), .second, .val (.int fl), .val (.int (0 : Int32)), .val (.int (1 : Int32)), .val (.ref b_35), .unset, .unset, .unset, .unset, .unset] [(.ref b_47)])) target
        refine XS.astore X_51.here hx rfl (hb hby at_57) rfl rfl (l' := #[.val (.long u0), .second, .val (.long u1), .second, .val (.int fl), .val (.int (0 : Int32)), .val (.int (1 : Int32)), .val (.ref b_35), .val (.ref b_47), .unset, .unset, .unset, .unset]) rfl ?_
        show Steps p.tables e below (T_51.setTop (mkF m 59 #[.val (.long u0), .second, .val (.long u1), .second, .val (.int fl), .val (.int (0 : Int32)), .val (.int (1 : Int32)), .val (.ref b_35), .val (.ref b_47), .unset, .unset, .unset, .unset] [])) target
        refine XS.aload X_51.here hx rfl (hb hby at_59) rfl rfl ?_
        show Steps p.tables e below (T_51.setTop (mkF m 61 #[.val (.long u0), .second, .val (.long u1), .second, .val (.int fl), .val (.int (0 : Int32)), .val (.int (1 : Int32)), .val (.ref b_35), .val (.ref b_47), .unset, .unset, .unset, .unset] [(.ref b_47)])) target
        refine XS.lloadN X_51.here hx rfl (hb hby at_61) rfl ?_
        show Steps p.tables e below (T_51.setTop (mkF m 62 #[.val (.long u0), .second, .val (.long u1), .second, .val (.int fl), .val (.int (0 : Int32)), .val (.int (1 : Int32)), .val (.ref b_35), .val (.ref b_47), .unset, .unset, .unset, .unset] [(.long u1), (.ref b_47)])) target
        refine st_52 _ ?_
        show Steps p.tables e below (T_52.setTop (mkF m 65 #[.val (.long u0), .second, .val (.long u1), .second, .val (.int fl), .val (.int (0 : Int32)), .val (.int (1 : Int32)), .val (.ref b_35), .val (.ref b_47), .unset, .unset, .unset, .unset] [])) target
        refine XS.aload X_52.here hx rfl (hb hby at_65) rfl rfl ?_
        show Steps p.tables e below (T_52.setTop (mkF m 67 #[.val (.long u0), .second, .val (.long u1), .second, .val (.int fl), .val (.int (0 : Int32)), .val (.int (1 : Int32)), .val (.ref b_35), .val (.ref b_47), .unset, .unset, .unset, .unset] [(.ref b_47)])) target
        refine XS.iload X_52.here hx rfl (hb hby at_67) rfl ?_
        show Steps p.tables e below (T_52.setTop (mkF m 69 #[.val (.long u0), .second, .val (.long u1), .second, .val (.int fl), .val (.int (0 : Int32)), .val (.int (1 : Int32)), .val (.ref b_35), .val (.ref b_47), .unset, .unset, .unset, .unset] [(.int (1 : Int32)), (.ref b_47)])) target
        refine st_57 _ ?_
        show Steps p.tables e below (T_57.setTop (mkF m 72 #[.val (.long u0), .second, .val (.long u1), .second, .val (.int fl), .val (.int (0 : Int32)), .val (.int (1 : Int32)), .val (.ref b_35), .val (.ref b_47), .unset, .unset, .unset, .unset] [])) target
        refine XS.aload X_57.here hx rfl (hb hby at_72) rfl rfl ?_
        show Steps p.tables e below (T_57.setTop (mkF m 74 #[.val (.long u0), .second, .val (.long u1), .second, .val (.int fl), .val (.int (0 : Int32)), .val (.int (1 : Int32)), .val (.ref b_35), .val (.ref b_47), .unset, .unset, .unset, .unset] [(.ref b_35)])) target
        refine st_60 _ ?_
        show Steps p.tables e below (T_60.setTop (mkF m 77 #[.val (.long u0), .second, .val (.long u1), .second, .val (.int fl), .val (.int (0 : Int32)), .val (.int (1 : Int32)), .val (.ref b_35), .val (.ref b_47), .unset, .unset, .unset, .unset] [(.long (own_ord (0 : Int32) u0))])) target
        refine XS.lstore X_60.here hx rfl (hb hby at_77) rfl (l' := #[.val (.long u0), .second, .val (.long u1), .second, .val (.int fl), .val (.int (0 : Int32)), .val (.int (1 : Int32)), .val (.ref b_35), .val (.ref b_47), .val (.long (own_ord (0 : Int32) u0)), .second, .unset, .unset]) rfl ?_
        show Steps p.tables e below (T_60.setTop (mkF m 79 #[.val (.long u0), .second, .val (.long u1), .second, .val (.int fl), .val (.int (0 : Int32)), .val (.int (1 : Int32)), .val (.ref b_35), .val (.ref b_47), .val (.long (own_ord (0 : Int32) u0)), .second, .unset, .unset] [])) target
        refine XS.aload X_60.here hx rfl (hb hby at_79) rfl rfl ?_
        show Steps p.tables e below (T_60.setTop (mkF m 81 #[.val (.long u0), .second, .val (.long u1), .second, .val (.int fl), .val (.int (0 : Int32)), .val (.int (1 : Int32)), .val (.ref b_35), .val (.ref b_47), .val (.long (own_ord (0 : Int32) u0)), .second, .unset, .unset] [(.ref b_47)])) target
        refine st_63 _ ?_
        show Steps p.tables e below (T_63.setTop (mkF m 84 #[.val (.long u0), .second, .val (.long u1), .second, .val (.int fl), .val (.int (0 : Int32)), .val (.int (1 : Int32)), .val (.ref b_35), .val (.ref b_47), .val (.long (own_ord (0 : Int32) u0)), .second, .unset, .unset] [(.long (own_ord (1 : Int32) u1))])) target
        refine XS.lstore X_63.here hx rfl (hb hby at_84) rfl (l' := #[.val (.long u0), .second, .val (.long u1), .second, .val (.int fl), .val (.int (0 : Int32)), .val (.int (1 : Int32)), .val (.ref b_35), .val (.ref b_47), .val (.long (own_ord (0 : Int32) u0)), .second, .val (.long (own_ord (1 : Int32) u1)), .second]) rfl ?_
        show Steps p.tables e below (T_63.setTop (mkF m 86 #[.val (.long u0), .second, .val (.long u1), .second, .val (.int fl), .val (.int (0 : Int32)), .val (.int (1 : Int32)), .val (.ref b_35), .val (.ref b_47), .val (.long (own_ord (0 : Int32) u0)), .second, .val (.long (own_ord (1 : Int32) u1)), .second] [])) target
        refine XS.aload X_63.here hx rfl (hb hby at_86) rfl rfl ?_
        show Steps p.tables e below (T_63.setTop (mkF m 88 #[.val (.long u0), .second, .val (.long u1), .second, .val (.int fl), .val (.int (0 : Int32)), .val (.int (1 : Int32)), .val (.ref b_35), .val (.ref b_47), .val (.long (own_ord (0 : Int32) u0)), .second, .val (.long (own_ord (1 : Int32) u1)), .second] [(.ref b_35)])) target
        refine st_65 _ ?_
        show Steps p.tables e below (T_65.setTop (mkF m 91 #[.val (.long u0), .second, .val (.long u1), .second, .val (.int fl), .val (.int (0 : Int32)), .val (.int (1 : Int32)), .val (.ref b_35), .val (.ref b_47), .val (.long (own_ord (0 : Int32) u0)), .second, .val (.long (own_ord (1 : Int32) u1)), .second] [(.long u0)])) target
        refine XS.lloadN X_65.here hx rfl (hb hby at_91) rfl ?_
        show Steps p.tables e below (T_65.setTop (mkF m 92 #[.val (.long u0), .second, .val (.long u1), .second, .val (.int fl), .val (.int (0 : Int32)), .val (.int (1 : Int32)), .val (.ref b_35), .val (.ref b_47), .val (.long (own_ord (0 : Int32) u0)), .second, .val (.long (own_ord (1 : Int32) u1)), .second] [(.long u0), (.long u0)])) target
        refine XS.lcmp X_65.here hx rfl (hb hby at_92) rfl ?_
        show Steps p.tables e below (T_65.setTop (mkF m 93 #[.val (.long u0), .second, .val (.long u1), .second, .val (.int fl), .val (.int (0 : Int32)), .val (.int (1 : Int32)), .val (.ref b_35), .val (.ref b_47), .val (.long (own_ord (0 : Int32) u0)), .second, .val (.long (own_ord (1 : Int32) u1)), .second] [(.int (lcmpW u0 u0))])) target
        refine XS.ifNo X_65.here hx rfl (hb hby at_93) rfl ((if0 _ _).trans (teq (own_l1 (rfl : u0 = u0))).2) ?_
        show Steps p.tables e below (T_65.setTop (mkF m 96 #[.val (.long u0), .second, .val (.long u1), .second, .val (.int fl), .val (.int (0 : Int32)), .val (.int (1 : Int32)), .val (.ref b_35), .val (.ref b_47), .val (.long (own_ord (0 : Int32) u0)), .second, .val (.long (own_ord (1 : Int32) u1)), .second] [])) target
        refine XS.aload X_65.here hx rfl (hb hby at_96) rfl rfl ?_
        show Steps p.tables e below (T_65.setTop (mkF m 98 #[.val (.long u0), .second, .val (.long u1), .second, .val (.int fl), .val (.int (0 : Int32)), .val (.int (1 : Int32)), .val (.ref b_35), .val (.ref b_47), .val (.long (own_ord (0 : Int32) u0)), .second, .val (.long (own_ord (1 : Int32) u1)), .second] [(.ref b_35)])) target
        refine st_66 _ ?_
        show Steps p.tables e below (T_66.setTop (mkF m 101 #[.val (.long u0), .second, .val (.long u1), .second, .val (.int fl), .val (.int (0 : Int32)), .val (.int (1 : Int32)), .val (.ref b_35), .val (.ref b_47), .val (.long (own_ord (0 : Int32) u0)), .second, .val (.long (own_ord (1 : Int32) u1)), .second] [(.int (0 : Int32))])) target
        refine XS.iload X_66.here hx rfl (hb hby at_101) rfl ?_
        show Steps p.tables e below (T_66.setTop (mkF m 103 #[.val (.long u0), .second, .val (.long u1), .second, .val (.int fl), .val (.int (0 : Int32)), .val (.int (1 : Int32)), .val (.ref b_35), .val (.ref b_47), .val (.long (own_ord (0 : Int32) u0)), .second, .val (.long (own_ord (1 : Int32) u1)), .second] [(.int (0 : Int32)), (.int (0 : Int32))])) target
        refine XS.icmpNo X_66.here hx rfl (hb hby at_103) rfl (teq (by decide : (0 : Int32) = (0 : Int32))).2 ?_
        show Steps p.tables e below (T_66.setTop (mkF m 106 #[.val (.long u0), .second, .val (.long u1), .second, .val (.int fl), .val (.int (0 : Int32)), .val (.int (1 : Int32)), .val (.ref b_35), .val (.ref b_47), .val (.long (own_ord (0 : Int32) u0)), .second, .val (.long (own_ord (1 : Int32) u1)), .second] [])) target
        refine XS.aload X_66.here hx rfl (hb hby at_106) rfl rfl ?_
        show Steps p.tables e below (T_66.setTop (mkF m 108 #[.val (.long u0), .second, .val (.long u1), .second, .val (.int fl), .val (.int (0 : Int32)), .val (.int (1 : Int32)), .val (.ref b_35), .val (.ref b_47), .val (.long (own_ord (0 : Int32) u0)), .second, .val (.long (own_ord (1 : Int32) u1)), .second] [(.ref b_47)])) target
        refine st_67 _ ?_
        show Steps p.tables e below (T_67.setTop (mkF m 111 #[.val (.long u0), .second, .val (.long u1), .second, .val (.int fl), .val (.int (0 : Int32)), .val (.int (1 : Int32)), .val (.ref b_35), .val (.ref b_47), .val (.long (own_ord (0 : Int32) u0)), .second, .val (.long (own_ord (1 : Int32) u1)), .second] [(.long u1)])) target
        refine XS.lloadN X_67.here hx rfl (hb hby at_111) rfl ?_
        show Steps p.tables e below (T_67.setTop (mkF m 112 #[.val (.long u0), .second, .val (.long u1), .second, .val (.int fl), .val (.int (0 : Int32)), .val (.int (1 : Int32)), .val (.ref b_35), .val (.ref b_47), .val (.long (own_ord (0 : Int32) u0)), .second, .val (.long (own_ord (1 : Int32) u1)), .second] [(.long u1), (.long u1)])) target
        refine XS.lcmp X_67.here hx rfl (hb hby at_112) rfl ?_
        show Steps p.tables e below (T_67.setTop (mkF m 113 #[.val (.long u0), .second, .val (.long u1), .second, .val (.int fl), .val (.int (0 : Int32)), .val (.int (1 : Int32)), .val (.ref b_35), .val (.ref b_47), .val (.long (own_ord (0 : Int32) u0)), .second, .val (.long (own_ord (1 : Int32) u1)), .second] [(.int (lcmpW u1 u1))])) target
        refine XS.ifNo X_67.here hx rfl (hb hby at_113) rfl ((if0 _ _).trans (teq (own_l1 (rfl : u1 = u1))).2) ?_
        show Steps p.tables e below (T_67.setTop (mkF m 116 #[.val (.long u0), .second, .val (.long u1), .second, .val (.int fl), .val (.int (0 : Int32)), .val (.int (1 : Int32)), .val (.ref b_35), .val (.ref b_47), .val (.long (own_ord (0 : Int32) u0)), .second, .val (.long (own_ord (1 : Int32) u1)), .second] [])) target
        refine XS.aload X_67.here hx rfl (hb hby at_116) rfl rfl ?_
        show Steps p.tables e below (T_67.setTop (mkF m 118 #[.val (.long u0), .second, .val (.long u1), .second, .val (.int fl), .val (.int (0 : Int32)), .val (.int (1 : Int32)), .val (.ref b_35), .val (.ref b_47), .val (.long (own_ord (0 : Int32) u0)), .second, .val (.long (own_ord (1 : Int32) u1)), .second] [(.ref b_47)])) target
        refine st_68 _ ?_
        show Steps p.tables e below (T_68.setTop (mkF m 121 #[.val (.long u0), .second, .val (.long u1), .second, .val (.int fl), .val (.int (0 : Int32)), .val (.int (1 : Int32)), .val (.ref b_35), .val (.ref b_47), .val (.long (own_ord (0 : Int32) u0)), .second, .val (.long (own_ord (1 : Int32) u1)), .second] [(.int (1 : Int32))])) target
        refine XS.iload X_68.here hx rfl (hb hby at_121) rfl ?_
        show Steps p.tables e below (T_68.setTop (mkF m 123 #[.val (.long u0), .second, .val (.long u1), .second, .val (.int fl), .val (.int (0 : Int32)), .val (.int (1 : Int32)), .val (.ref b_35), .val (.ref b_47), .val (.long (own_ord (0 : Int32) u0)), .second, .val (.long (own_ord (1 : Int32) u1)), .second] [(.int (1 : Int32)), (.int (1 : Int32))])) target
        refine XS.icmpYes X_68.here hx rfl (pc0 := 123) (pc' := 128) rfl (hb hby at_123) rfl (teq (by decide : (1 : Int32) = (1 : Int32))).1 (by decide) (by decide) ?_
        show Steps p.tables e below (T_68.setTop (mkF m 128 #[.val (.long u0), .second, .val (.long u1), .second, .val (.int fl), .val (.int (0 : Int32)), .val (.int (1 : Int32)), .val (.ref b_35), .val (.ref b_47), .val (.long (own_ord (0 : Int32) u0)), .second, .val (.long (own_ord (1 : Int32) u1)), .second] [])) target
        refine XS.iload X_68.here hx rfl (hb hby at_128) rfl ?_
        show Steps p.tables e below (T_68.setTop (mkF m 130 #[.val (.long u0), .second, .val (.long u1), .second, .val (.int fl), .val (.int (0 : Int32)), .val (.int (1 : Int32)), .val (.ref b_35), .val (.ref b_47), .val (.long (own_ord (0 : Int32) u0)), .second, .val (.long (own_ord (1 : Int32) u1)), .second] [(.int (0 : Int32))])) target
        refine XS.ifYes X_68.here hx rfl (pc0 := 130) (pc' := 144) rfl (hb hby at_130) rfl ((if0 _ _).trans (teq (by decide : (0 : Int32) = (0 : Int32))).1) (by decide) (by decide) ?_
        show Steps p.tables e below (T_68.setTop (mkF m 144 #[.val (.long u0), .second, .val (.long u1), .second, .val (.int fl), .val (.int (0 : Int32)), .val (.int (1 : Int32)), .val (.ref b_35), .val (.ref b_47), .val (.long (own_ord (0 : Int32) u0)), .second, .val (.long (own_ord (1 : Int32) u1)), .second] [])) target
        refine XS.lload X_68.here hx rfl (hb hby at_144) rfl ?_
        show Steps p.tables e below (T_68.setTop (mkF m 146 #[.val (.long u0), .second, .val (.long u1), .second, .val (.int fl), .val (.int (0 : Int32)), .val (.int (1 : Int32)), .val (.ref b_35), .val (.ref b_47), .val (.long (own_ord (0 : Int32) u0)), .second, .val (.long (own_ord (1 : Int32) u1)), .second] [(.long (own_ord (0 : Int32) u0))])) target
        refine XS.lloadN X_68.here hx rfl (hb hby at_146) rfl ?_
        show Steps p.tables e below (T_68.setTop (mkF m 147 #[.val (.long u0), .second, .val (.long u1), .second, .val (.int fl), .val (.int (0 : Int32)), .val (.int (1 : Int32)), .val (.ref b_35), .val (.ref b_47), .val (.long (own_ord (0 : Int32) u0)), .second, .val (.long (own_ord (1 : Int32) u1)), .second] [(.long u0), (.long (own_ord (0 : Int32) u0))])) target
        refine XS.lcmp X_68.here hx rfl (hb hby at_147) rfl ?_
        show Steps p.tables e below (T_68.setTop (mkF m 148 #[.val (.long u0), .second, .val (.long u1), .second, .val (.int fl), .val (.int (0 : Int32)), .val (.int (1 : Int32)), .val (.ref b_35), .val (.ref b_47), .val (.long (own_ord (0 : Int32) u0)), .second, .val (.long (own_ord (1 : Int32) u1)), .second] [(.int (lcmpW (own_ord (0 : Int32) u0) u0))])) target
        refine XS.ifYes X_68.here hx rfl (pc0 := 148) (pc' := 153) rfl (hb hby at_148) rfl ((if0 _ _).trans (teq (own_l1 (own_ord0 _ : (own_ord (0 : Int32) u0) = u0))).1) (by decide) (by decide) ?_
        show Steps p.tables e below (T_68.setTop (mkF m 153 #[.val (.long u0), .second, .val (.long u1), .second, .val (.int fl), .val (.int (0 : Int32)), .val (.int (1 : Int32)), .val (.ref b_35), .val (.ref b_47), .val (.long (own_ord (0 : Int32) u0)), .second, .val (.long (own_ord (1 : Int32) u1)), .second] [])) target
        refine XS.iload X_68.here hx rfl (hb hby at_153) rfl ?_
        show Steps p.tables e below (T_68.setTop (mkF m 155 #[.val (.long u0), .second, .val (.long u1), .second, .val (.int fl), .val (.int (0 : Int32)), .val (.int (1 : Int32)), .val (.ref b_35), .val (.ref b_47), .val (.long (own_ord (0 : Int32) u0)), .second, .val (.long (own_ord (1 : Int32) u1)), .second] [(.int (1 : Int32))])) target
        refine XS.ifNo X_68.here hx rfl (hb hby at_155) rfl ((if0 _ _).trans (feq (by decide : ¬ ((1 : Int32) = (0 : Int32)))).1) ?_
        show Steps p.tables e below (T_68.setTop (mkF m 158 #[.val (.long u0), .second, .val (.long u1), .second, .val (.int fl), .val (.int (0 : Int32)), .val (.int (1 : Int32)), .val (.ref b_35), .val (.ref b_47), .val (.long (own_ord (0 : Int32) u0)), .second, .val (.long (own_ord (1 : Int32) u1)), .second] [])) target
        refine XS.lload X_68.here hx rfl (hb hby at_158) rfl ?_
        show Steps p.tables e below (T_68.setTop (mkF m 160 #[.val (.long u0), .second, .val (.long u1), .second, .val (.int fl), .val (.int (0 : Int32)), .val (.int (1 : Int32)), .val (.ref b_35), .val (.ref b_47), .val (.long (own_ord (0 : Int32) u0)), .second, .val (.long (own_ord (1 : Int32) u1)), .second] [(.long (own_ord (1 : Int32) u1))])) target
        refine X_68.ldc2Long hx hown (mvT hZ (hw _ (List.mem_of_getElem? (i := 20) rfl))) (g := (mkF m 160 #[.val (.long u0), .second, .val (.long u1), .second, .val (.int fl), .val (.int (0 : Int32)), .val (.int (1 : Int32)), .val (.ref b_35), .val (.ref b_47), .val (.long (own_ord (0 : Int32) u0)), .second, .val (.long (own_ord (1 : Int32) u1)), .second] [(.long (own_ord (1 : Int32) u1))])) rfl (hb hby at_160) _ ?_
        show Steps p.tables e below (T_68.setTop (mkF m 163 #[.val (.long u0), .second, .val (.long u1), .second, .val (.int fl), .val (.int (0 : Int32)), .val (.int (1 : Int32)), .val (.ref b_35), .val (.ref b_47), .val (.long (own_ord (0 : Int32) u0)), .second, .val (.long (own_ord (1 : Int32) u1)), .second] [(.long (-9223372036854775808 : Int64)), (.long (own_ord (1 : Int32) u1))])) target
        refine XS.lcmp X_68.here hx rfl (hb hby at_163) rfl ?_
        show Steps p.tables e below (T_68.setTop (mkF m 164 #[.val (.long u0), .second, .val (.long u1), .second, .val (.int fl), .val (.int (0 : Int32)), .val (.int (1 : Int32)), .val (.ref b_35), .val (.ref b_47), .val (.long (own_ord (0 : Int32) u0)), .second, .val (.long (own_ord (1 : Int32) u1)), .second] [(.int (lcmpW (own_ord (1 : Int32) u1) (-9223372036854775808 : Int64)))])) target
        refine XS.ifYes X_68.here hx rfl (pc0 := 164) (pc' := 178) rfl (hb hby at_164) rfl ((if0 _ _).trans (teq (own_l1 (own_ord1 _ : (own_ord (1 : Int32) u1) = (-9223372036854775808 : Int64)))).1) (by decide) (by decide) ?_
        show Steps p.tables e below (T_68.setTop (mkF m 178 #[.val (.long u0), .second, .val (.long u1), .second, .val (.int fl), .val (.int (0 : Int32)), .val (.int (1 : Int32)), .val (.ref b_35), .val (.ref b_47), .val (.long (own_ord (0 : Int32) u0)), .second, .val (.long (own_ord (1 : Int32) u1)), .second] [])) target
        refine XS.iload X_68.here hx rfl (hb hby at_178) rfl ?_
        show Steps p.tables e below (T_68.setTop (mkF m 180 #[.val (.long u0), .second, .val (.long u1), .second, .val (.int fl), .val (.int (0 : Int32)), .val (.int (1 : Int32)), .val (.ref b_35), .val (.ref b_47), .val (.long (own_ord (0 : Int32) u0)), .second, .val (.long (own_ord (1 : Int32) u1)), .second] [(.int (0 : Int32))])) target
        refine XS.ifYes X_68.here hx rfl (pc0 := 180) (pc' := 193) rfl (hb hby at_180) rfl ((if0 _ _).trans (teq (by decide : (0 : Int32) = (0 : Int32))).1) (by decide) (by decide) ?_
        show Steps p.tables e below (T_68.setTop (mkF m 193 #[.val (.long u0), .second, .val (.long u1), .second, .val (.int fl), .val (.int (0 : Int32)), .val (.int (1 : Int32)), .val (.ref b_35), .val (.ref b_47), .val (.long (own_ord (0 : Int32) u0)), .second, .val (.long (own_ord (1 : Int32) u1)), .second] [])) target
        refine XS.iload X_68.here hx rfl (hb hby at_193) rfl ?_
        show Steps p.tables e below (T_68.setTop (mkF m 195 #[.val (.long u0), .second, .val (.long u1), .second, .val (.int fl), .val (.int (0 : Int32)), .val (.int (1 : Int32)), .val (.ref b_35), .val (.ref b_47), .val (.long (own_ord (0 : Int32) u0)), .second, .val (.long (own_ord (1 : Int32) u1)), .second] [(.int (1 : Int32))])) target
        refine XS.ifNo X_68.here hx rfl (hb hby at_195) rfl ((if0 _ _).trans (feq (by decide : ¬ ((1 : Int32) = (0 : Int32)))).1) ?_
        show Steps p.tables e below (T_68.setTop (mkF m 198 #[.val (.long u0), .second, .val (.long u1), .second, .val (.int fl), .val (.int (0 : Int32)), .val (.int (1 : Int32)), .val (.ref b_35), .val (.ref b_47), .val (.long (own_ord (0 : Int32) u0)), .second, .val (.long (own_ord (1 : Int32) u1)), .second] [])) target
        refine XS.lload X_68.here hx rfl (hb hby at_198) rfl ?_
        show Steps p.tables e below (T_68.setTop (mkF m 200 #[.val (.long u0), .second, .val (.long u1), .second, .val (.int fl), .val (.int (0 : Int32)), .val (.int (1 : Int32)), .val (.ref b_35), .val (.ref b_47), .val (.long (own_ord (0 : Int32) u0)), .second, .val (.long (own_ord (1 : Int32) u1)), .second] [(.long (own_ord (1 : Int32) u1))])) target
        refine XS.lload X_68.here hx rfl (hb hby at_200) rfl ?_
        show Steps p.tables e below (T_68.setTop (mkF m 202 #[.val (.long u0), .second, .val (.long u1), .second, .val (.int fl), .val (.int (0 : Int32)), .val (.int (1 : Int32)), .val (.ref b_35), .val (.ref b_47), .val (.long (own_ord (0 : Int32) u0)), .second, .val (.long (own_ord (1 : Int32) u1)), .second] [(.long (own_ord (0 : Int32) u0)), (.long (own_ord (1 : Int32) u1))])) target
        refine XS.lcmp X_68.here hx rfl (hb hby at_202) rfl ?_
        show Steps p.tables e below (T_68.setTop (mkF m 203 #[.val (.long u0), .second, .val (.long u1), .second, .val (.int fl), .val (.int (0 : Int32)), .val (.int (1 : Int32)), .val (.ref b_35), .val (.ref b_47), .val (.long (own_ord (0 : Int32) u0)), .second, .val (.long (own_ord (1 : Int32) u1)), .second] [(.int (lcmpW (own_ord (1 : Int32) u1) (own_ord (0 : Int32) u0)))])) target
        refine XS.ifYes X_68.here hx rfl (pc0 := 203) (pc' := 208) rfl (hb hby at_203) rfl ((if0 _ _).trans (flt (own_l6 (own_nlt _ _ : ¬ ((own_ord (0 : Int32) u0) < (own_ord (1 : Int32) u1))))).2.2.2) (by decide) (by decide) ?_
        show Steps p.tables e below (T_68.setTop (mkF m 208 #[.val (.long u0), .second, .val (.long u1), .second, .val (.int fl), .val (.int (0 : Int32)), .val (.int (1 : Int32)), .val (.ref b_35), .val (.ref b_47), .val (.long (own_ord (0 : Int32) u0)), .second, .val (.long (own_ord (1 : Int32) u1)), .second] [])) target
        refine XS.iconst X_68.here hx rfl (hb hby at_208) ?_
        show Steps p.tables e below (T_68.setTop (mkF m 209 #[.val (.long u0), .second, .val (.long u1), .second, .val (.int fl), .val (.int (0 : Int32)), .val (.int (1 : Int32)), .val (.ref b_35), .val (.ref b_47), .val (.long (own_ord (0 : Int32) u0)), .second, .val (.long (own_ord (1 : Int32) u1)), .second] [(.int (1 : Int32))])) target
        exact kt
      obtain ⟨fs, hr, hrun, hended, hW, hsame⟩ := X_68.leave (v := some (.int (1 : Int32))) (fun h => by rw [Bd.returns] at h; cases h)
      refine ⟨_, _, retN X_68 hx (t := .boolean) Bd.returns (by simp) (hb hby at_209) hr, hrun, hended, _, _, rfl, ?_, ⟨_, rfl⟩, hW, hsame.mono (by decide) (by decide)⟩
      show Q_law Z u0 u1 fl h0 n0 _ T_68.heap _
      rw [e_68]
      exact ⟨rfl, N_63⟩
  · -- pc 4: no
    refine own_go (S' := s₁.setTop (mkF m 18 #[.val (.long u0), .second, .val (.long u1), .second, .val (.int fl), .val (.int (1 : Int32)), .unset, .unset, .unset, .unset, .unset, .unset, .unset] [(.int (fl &&& (2 : Int32)))])) (fun target kt => ?_) ?_
    · show Steps p.tables e below (s₁.setTop (mkF m 4 #[.val (.long u0), .second, .val (.long u1), .second, .val (.int fl), .unset, .unset, .unset, .unset, .unset, .unset, .unset, .unset] [(.int (fl &&& (1 : Int32)))])) target
      refine XS.ifNo X0.here hx rfl (hb hby at_4) rfl ((if0 _ _).trans (feq hc4).1) ?_
      show Steps p.tables e below (s₁.setTop (mkF m 7 #[.val (.long u0), .second, .val (.long u1), .second, .val (.int fl), .unset, .unset, .unset, .unset, .unset, .unset, .unset, .unset] [])) target
      refine XS.iconst X0.here hx rfl (hb hby at_7) ?_
      show Steps p.tables e below (s₁.setTop (mkF m 8 #[.val (.long u0), .second, .val (.long u1), .second, .val (.int fl), .unset, .unset, .unset, .unset, .unset, .unset, .unset, .unset] [(.int (1 : Int32))])) target
      refine XS.goto X0.here hx rfl (pc0 := 8) (pc' := 12) rfl (hb hby at_8) (by decide) (by decide) ?_
      show Steps p.tables e below (s₁.setTop (mkF m 12 #[.val (.long u0), .second, .val (.long u1), .second, .val (.int fl), .unset, .unset, .unset, .unset, .unset, .unset, .unset, .unset] [(.int (1 : Int32))])) target
      refine XS.istore X0.here hx rfl (hb hby at_12) rfl (l' := #[.val (.long u0), .second, .val (.long u1), .second, .val (.int fl), .val (.int (1 : Int32)), .unset, .unset, .unset, .unset, .unset, .unset, .unset]) rfl ?_
      show Steps p.tables e below (s₁.setTop (mkF m 14 #[.val (.long u0), .second, .val (.long u1), .second, .val (.int fl), .val (.int (1 : Int32)), .unset, .unset, .unset, .unset, .unset, .unset, .unset] [])) target
      refine XS.iload X0.here hx rfl (hb hby at_14) rfl ?_
      show Steps p.tables e below (s₁.setTop (mkF m 16 #[.val (.long u0), .second, .val (.long u1), .second, .val (.int fl), .val (.int (1 : Int32)), .unset, .unset, .unset, .unset, .unset, .unset, .unset] [(.int fl)])) target
      refine XS.iconst X0.here hx rfl (hb hby at_16) ?_
      show Steps p.tables e below (s₁.setTop (mkF m 17 #[.val (.long u0), .second, .val (.long u1), .second, .val (.int fl), .val (.int (1 : Int32)), .unset, .unset, .unset, .unset, .unset, .unset, .unset] [(.int (2 : Int32)), (.int fl)])) target
      refine XS.iand X0.here hx rfl (hb hby at_17) rfl ?_
      show Steps p.tables e below (s₁.setTop (mkF m 18 #[.val (.long u0), .second, .val (.long u1), .second, .val (.int fl), .val (.int (1 : Int32)), .unset, .unset, .unset, .unset, .unset, .unset, .unset] [(.int (fl &&& (2 : Int32)))])) target
      exact kt
    by_cases hc18 : (fl &&& (2 : Int32)) = (0 : Int32)
    · -- pc 18: yes
      obtain ⟨T_69, h_69, X_69, e_69, E_69, A_69, D_69, -, st_69⟩ := newO X0 hx hZ hown (hw _ (List.mem_of_getElem? (i := 0) rfl)) (hw _ (List.mem_of_getElem? (i := 1) rfl)) (hw _ (List.mem_of_getElem? (i := 2) rfl)) e0 (g := (mkF m 28 #[.val (.long u0), .second, .val (.long u1), .second, .val (.int fl), .val (.int (1 : Int32)), .val (.int (0 : Int32)), .unset, .unset, .unset, .unset, .unset, .unset] [])) rfl (hb hby at_28) (by decide) (by decide)
      obtain ⟨b_69, g_69⟩ : ∃ z, z = h0.size := ⟨_, rfl⟩
      rw [← g_69] at A_69 D_69 st_69
      have gn_b_69 : n0 ≤ b_69 := Nat.le_trans Z0 (Nat.le_of_eq g_69.symm)
      have Z_70 : n0 ≤ h_69.size := Nat.le_trans Z0 E_69.1
      have F_69_when : Fld Z h_69 b_69 "com/example/carillon/carillon/Message" "when" "J" (.long (0 : Int64)) := D_69 (Or.inl (hw _ (List.mem_of_getElem? (i := 10) rfl))) (ty := .long) (by decide)
      have F_69_atFront : Fld Z h_69 b_69 "com/example/carillon/carillon/Message" "atFront" "Z" (.int (0 : Int32)) := D_69 (Or.inl (hw _ (List.mem_of_getElem? (i := 12) rfl))) (ty := .boolean) (by decide)
      obtain ⟨_, _, ⟨T_72, L_72, k_72, n_72⟩, -, X_72, ⟨Lc_72, hQ_72, l_72, y_72, z_72⟩, st_72⟩ := X_69.specialBack hx (y := (⟨"com/example/carillon/carillon/Message", "<init>", "()V"⟩ : MethodName)) rfl hown (mvT hZ (hw _ (List.mem_of_getElem? (i := 3) rfl))) (mvT hZ (hw _ (List.mem_of_getElem? (i := 4) rfl))) (mvT hZ (hw _ (List.mem_of_getElem? (i := 5) rfl))) (by decide) (backOf (W := 1) (rm_mi l Z a0 hw [] b_69  h_69 n0 Z_70 ) hZ (hw _ (List.mem_of_getElem? (i := 5) rfl)) (hw _ (List.mem_of_getElem? (i := 2) rfl)) (by decide) (by decide)) (g := (mkF m 32 #[.val (.long u0), .second, .val (.long u1), .second, .val (.int fl), .val (.int (1 : Int32)), .val (.int (0 : Int32)), .unset, .unset, .unset, .unset, .unset, .unset] [(.ref b_69), (.ref b_69)])) rfl (by rw [hml]; rfl) (Steps.refl _) (a := b_69) (argsL := []) (rest := [(.ref b_69)]) (lenOf pd__V rfl) rfl (by show 2 * 0 + _ ≤ _; exact Nat.le_of_eq rfl) (hb hby at_32) (fun _ _ => ⟨rfl, e_69, (by decide : 1 + 0 ≤ _), (by decide : 12 + 0 ≤ _)⟩)
      dsimp only [Pt.U, Pt.locs, Pt.cells, Pt.slots] at X_72 l_72 y_72 z_72 st_72 hQ_72
      subst l_72 y_72 z_72
      obtain ⟨rfl, N_72q, p_72_0⟩ := hQ_72
      have N_72 := Fr.app N0 N_72q
      obtain ⟨T_73, h_73, X_73, e_73, W_73, st_73⟩ := putF X_72 hx hZ hown (host := "") (Or.inl (hw _ (List.mem_of_getElem? (i := 9) rfl))) Via.refl p_72_0 F_69_when A_69 (Or.inl (hw _ (List.mem_of_getElem? (i := 10) rfl))) (hw _ (List.mem_of_getElem? (i := 1) rfl)) (ty := .long) (by decide) rfl rfl (g := (mkF m 40 #[.val (.long u0), .second, .val (.long u1), .second, .val (.int fl), .val (.int (1 : Int32)), .val (.int (0 : Int32)), .val (.ref b_69), .unset, .unset, .unset, .unset, .unset] [(.long u0), (.ref b_69)])) rfl rfl (hb hby at_40)
      have N_73 := Fr.snoc X_73 N_72 gn_b_69
      have F_73 := F_69_when.same W_73
      have Z_74 : n0 ≤ h_73.size := Nat.le_trans Z_70 (Keep.of_wr W_73).1
      have f_76 := (A_69.wr W_73)
      have f_77 := (F_69_atFront.other W_73 (Or.inr (slot_ne (Or.inl (hw _ (List.mem_of_getElem? (i := 12) rfl))) (Or.inl (hw _ (List.mem_of_getElem? (i := 10) rfl))) (by decide) (t := .boolean) (t' := .long) (by decide) (by decide))))
      obtain ⟨T_78, h_78, X_78, e_78, W_78, st_78⟩ := putFN X_73 hx hZ hown (hw _ (List.mem_of_getElem? (i := 11) rfl)) Via.refl e_73 f_77 f_76 (Or.inl (hw _ (List.mem_of_getElem? (i := 12) rfl))) (hw _ (List.mem_of_getElem? (i := 1) rfl)) (ty := .boolean) (v' := (.int (1 : Int32))) (by decide) rfl (by decide) (g := (mkF m 47 #[.val (.long u0), .second, .val (.long u1), .second, .val (.int fl), .val (.int (1 : Int32)), .val (.int (0 : Int32)), .val (.ref b_69), .unset, .unset, .unset, .unset, .unset] [(.int (1 : Int32)), (.ref b_69)])) rfl rfl (hb hby at_47)
      have N_78 := Fr.snoc X_78 N_73 gn_b_69
      have F_78 := f_77.same W_78
      have Z_79 : n0 ≤ h_78.size := Nat.le_trans Z_74 (Keep.of_wr W_78).1
      obtain ⟨T_81, h_81, X_81, e_81, E_81, A_81, D_81, -, st_81⟩ := newO X_78 hx hZ hown (hw _ (List.mem_of_getElem? (i := 0) rfl)) (hw _ (List.mem_of_getElem? (i := 1) rfl)) (hw _ (List.mem_of_getElem? (i := 2) rfl)) e_78 (g := (mkF m 50 #[.val (.long u0), .second, .val (.long u1), .second, .val (.int fl), .val (.int (1 : Int32)), .val (.int (0 : Int32)), .val (.ref b_69), .unset, .unset, .unset, .unset, .unset] [])) rfl (hb hby at_50) (by decide) (by decide)
      obtain ⟨b_81, g_81⟩ : ∃ z, z = h_78.size := ⟨_, rfl⟩
      rw [← g_81] at A_81 D_81 st_81
      have gn_b_81 : n0 ≤ b_81 := Nat.le_trans Z_79 (Nat.le_of_eq g_81.symm)
      have f_82 := (f_76.wr W_78)
      have ne_b_69_b_81 : b_69 ≠ b_81 := Nat.ne_of_lt (Nat.lt_of_lt_of_le f_82.lt (Nat.le_of_eq g_81.symm))
      have Z_83 : n0 ≤ h_81.size := Nat.le_trans Z_79 E_81.1
      have F_81_when : Fld Z h_81 b_81 "com/example/carillon/carillon/Message" "when" "J" (.long (0 : Int64)) := D_81 (Or.inl (hw _ (List.mem_of_getElem? (i := 10) rfl))) (ty := .long) (by decide)
      have F_81_atFront : Fld Z h_81 b_81 "com/example/carillon/carillon/Message" "atFront" "Z" (.int (0 : Int32)) := D_81 (Or.inl (hw _ (List.mem_of_getElem? (i := 12) rfl))) (ty := .boolean) (by decide)
      obtain ⟨_, _, ⟨T_85, L_85, k_85, n_85⟩, -, X_85, ⟨Lc_85, hQ_85, l_85, y_85, z_85⟩, st_85⟩ := X_81.specialBack hx (y := (⟨"com/example/carillon/carillon/Message", "<init>", "()V"⟩ : MethodName)) rfl hown (mvT hZ (hw _ (List.mem_of_getElem? (i := 3) rfl))) (mvT hZ (hw _ (List.mem_of_getElem? (i := 4) rfl))) (mvT hZ (hw _ (List.mem_of_getElem? (i := 5) rfl))) (by decide) (backOf (W := 1) (rm_mi l Z a0 hw [] b_81  h_81 n0 Z_83 ) hZ (hw _ (List.mem_of_getElem? (i := 5) rfl)) (hw _ (List.mem_of_getElem? (i := 2) rfl)) (by decide) (by decide)) (g := (mkF m 54 #[.val (.long u0), .second, .val (.long u1), .second, .val (.int fl), .val (.int (1 : Int32)), .val (.int (0 : Int32)), .val (.ref b_69), .unset, .unset, .unset, .unset, .unset] [(.ref b_81), (.ref b_81)])) rfl (by rw [hml]; rfl) (Steps.refl _) (a := b_81) (argsL := []) (rest := [(.ref b_81)]) (lenOf pd__V rfl) rfl (by show 2 * 0 + _ ≤ _; exact Nat.le_of_eq rfl) (hb hby at_54) (fun _ _ => ⟨rfl, e_81, (by decide : 2 + 0 ≤ _), (by decide : 24 + 0 ≤ _)⟩)
      dsimp only [Pt.U, Pt.locs, Pt.cells, Pt.slots] at X_85 l_85 y_85 z_85 st_85 hQ_85
      subst l_85 y_85 z_85
      obtain ⟨rfl, N_85q, p_85_0⟩ := hQ_85
      have N_85 := Fr.app N_78 N_85q
      obtain ⟨T_86, h_86, X_86, e_86, W_86, st_86⟩ := putF X_85 hx hZ hown (host := "") (Or.inl (hw _ (List.mem_of_getElem? (i := 9) rfl))) Via.refl p_85_0 F_81_when A_81 (Or.inl (hw _ (List.mem_of_getElem? (i := 10) rfl))) (hw _ (List.mem_of_getElem? (i := 1) rfl)) (ty := .long) (by decide) rfl rfl (g := (mkF m 62 #[.val (.long u0), .second, .val (.long u1), .second, .val (.int fl), .val (.int (1 : Int32)), .val (.int (0 : Int32)), .val (.ref b_69), .val (.ref b_81), .unset, .unset, .unset, .unset] [(.long u1), (.ref b_81)])) rfl rfl (hb hby at_62)
      have N_86 := Fr.snoc X_86 N_85 gn_b_81
      have F_86 := F_81_when.same W_86
      have Z_87 : n0 ≤ h_86.size := Nat.le_trans Z_83 (Keep.of_wr W_86).1
      have f_89 := (A_81.wr W_86)
      have f_90 := (F_81_atFront.other W_86 (Or.inr (slot_ne (Or.inl (hw _ (List.mem_of_getElem? (i := 12) rfl))) (Or.inl (hw _ (List.mem_of_getElem? (i := 10) rfl))) (by decide) (t := .boolean) (t' := .long) (by decide) (by decide))))
      obtain ⟨T_91, h_91, X_91, e_91, W_91, st_91⟩ := putFN X_86 hx hZ hown (hw _ (List.mem_of_getElem? (i := 11) rfl)) Via.refl e_86 f_90 f_89 (Or.inl (hw _ (List.mem_of_getElem? (i := 12) rfl))) (hw _ (List.mem_of_getElem? (i := 1) rfl)) (ty := .boolean) (v' := (.int (0 : Int32))) (by decide) rfl (by decide) (g := (mkF m 69 #[.val (.long u0), .second, .val (.long u1), .second, .val (.int fl), .val (.int (1 : Int32)), .val (.int (0 : Int32)), .val (.ref b_69), .val (.ref b_81), .unset, .unset, .unset, .unset] [(.int (0 : Int32)), (.ref b_81)])) rfl rfl (hb hby at_69)
      have N_91 := Fr.snoc X_91 N_86 gn_b_81
      have F_91 := f_90.same W_91
      have Z_92 : n0 ≤ h_91.size := Nat.le_trans Z_87 (Keep.of_wr W_91).1
      have f_95 := (((F_78.ext E_81).other W_86 (Or.inl ne_b_69_b_81)).other W_91 (Or.inl ne_b_69_b_81))
      have f_96 := ((((F_73.other W_78 (Or.inr (slot_ne (Or.inl (hw _ (List.mem_of_getElem? (i := 10) rfl))) (Or.inl (hw _ (List.mem_of_getElem? (i := 12) rfl))) (by decide) (t := .long) (t' := .boolean) (by decide) (by decide)))).ext E_81).other W_86 (Or.inl ne_b_69_b_81)).other W_91 (Or.inl ne_b_69_b_81))
      obtain ⟨_, _, ⟨T_94, L_94, k_94, n_94⟩, -, X_94, ⟨Lc_94, hQ_94, l_94, y_94, z_94⟩, st_94⟩ := Jvm.LawKit.callS X_91 hx (y := (⟨"com/example/carillon/carillon/Chain", "orderOf", "(Lcom/example/carillon/carillon/Message;)J"⟩ : MethodName)) hown (mvT hZ (hw _ (List.mem_of_getElem? (i := 13) rfl))) (mvT hZ (hw _ (List.mem_of_getElem? (i := 14) rfl))) (mvT hZ (hw _ (List.mem_of_getElem? (i := 15) rfl))) (mvT hZ (hw _ (List.mem_of_getElem? (i := 16) rfl))) (by decide) (backOf (W := 0) (rm_ord l Z a0 hw [] b_69 (1 : Int32) u0 h_91 n0 Z_92 f_95 f_96) hZ (hw _ (List.mem_of_getElem? (i := 16) rfl)) (hw _ (List.mem_of_getElem? (i := 15) rfl)) (by decide) (by decide)) (g := (mkF m 74 #[.val (.long u0), .second, .val (.long u1), .second, .val (.int fl), .val (.int (1 : Int32)), .val (.int (0 : Int32)), .val (.ref b_69), .val (.ref b_81), .unset, .unset, .unset, .unset] [(.ref b_69)])) rfl (by rw [hml]; rfl) (argsL := [(.ref b_69)]) (rest := []) (lenOf pd_LcomexamplecarilloncarillonMessage_J rfl) rfl (by show 2 * 0 + _ ≤ _; exact Nat.le_of_eq rfl) (hb hby at_74) (fun _ _ => ⟨rfl, e_91, (by decide : 2 + 0 ≤ _), (by decide : 24 + 0 ≤ _)⟩)
      dsimp only [Pt.U, Pt.locs, Pt.cells, Pt.slots] at X_94 l_94 y_94 z_94 st_94 hQ_94
      subst l_94 y_94 z_94
      obtain ⟨rfl, N_94q, p_94_0⟩ := hQ_94
      have N_94 := Fr.app N_91 N_94q
      have f_98 := (F_86.other W_91 (Or.inr (slot_ne (Or.inl (hw _ (List.mem_of_getElem? (i := 10) rfl))) (Or.inl (hw _ (List.mem_of_getElem? (i := 12) rfl))) (by decide) (t := .long) (t' := .boolean) (by decide) (by decide))))
      obtain ⟨_, _, ⟨T_97, L_97, k_97, n_97⟩, -, X_97, ⟨Lc_97, hQ_97, l_97, y_97, z_97⟩, st_97⟩ := Jvm.LawKit.callS X_94 hx (y := (⟨"com/example/carillon/carillon/Chain", "orderOf", "(Lcom/example/carillon/carillon/Message;)J"⟩ : MethodName)) hown (mvT hZ (hw _ (List.mem_of_getElem? (i := 13) rfl))) (mvT hZ (hw _ (List.mem_of_getElem? (i := 14) rfl))) (mvT hZ (hw _ (List.mem_of_getElem? (i := 15) rfl))) (mvT hZ (hw _ (List.mem_of_getElem? (i := 16) rfl))) (by decide) (backOf (W := 0) (rm_ord l Z a0 hw [] b_81 (0 : Int32) u1 h_91 n0 Z_92 F_91 f_98) hZ (hw _ (List.mem_of_getElem? (i := 16) rfl)) (hw _ (List.mem_of_getElem? (i := 15) rfl)) (by decide) (by decide)) (g := (mkF m 81 #[.val (.long u0), .second, .val (.long u1), .second, .val (.int fl), .val (.int (1 : Int32)), .val (.int (0 : Int32)), .val (.ref b_69), .val (.ref b_81), .val (.long (own_ord (1 : Int32) u0)), .second, .unset, .unset] [(.ref b_81)])) rfl (by rw [hml]; rfl) (argsL := [(.ref b_81)]) (rest := []) (lenOf pd_LcomexamplecarilloncarillonMessage_J rfl) rfl (by show 2 * 0 + _ ≤ _; exact Nat.le_of_eq rfl) (hb hby at_81) (fun _ _ => ⟨rfl, p_94_0, (by decide : 2 + 0 ≤ _), (by decide : 24 + 0 ≤ _)⟩)
      dsimp only [Pt.U, Pt.locs, Pt.cells, Pt.slots] at X_97 l_97 y_97 z_97 st_97 hQ_97
      subst l_97 y_97 z_97
      obtain ⟨rfl, N_97q, p_97_0⟩ := hQ_97
      have N_97 := Fr.app N_94 N_97q
      obtain ⟨T_99, X_99, e_99, st_99⟩ := getF X_97 hx hZ hown (host := "") (Or.inl (hw _ (List.mem_of_getElem? (i := 9) rfl))) Via.refl p_97_0 f_96 (g := (mkF m 88 #[.val (.long u0), .second, .val (.long u1), .second, .val (.int fl), .val (.int (1 : Int32)), .val (.int (0 : Int32)), .val (.ref b_69), .val (.ref b_81), .val (.long (own_ord (1 : Int32) u0)), .second, .val (.long (own_ord (0 : Int32) u1)), .second] [(.ref b_69)])) rfl rfl (hb hby at_88)
      obtain ⟨T_100, X_100, e_100, st_100⟩ := getF X_99 hx hZ hown (host := "") (Or.inl (hw _ (List.mem_of_getElem? (i := 11) rfl))) Via.refl e_99 f_95 (g := (mkF m 98 #[.val (.long u0), .second, .val (.long u1), .second, .val (.int fl), .val (.int (1 : Int32)), .val (.int (0 : Int32)), .val (.ref b_69), .val (.ref b_81), .val (.long (own_ord (1 : Int32) u0)), .second, .val (.long (own_ord (0 : Int32) u1)), .second] [(.ref b_69)])) rfl rfl (hb hby at_98)
      obtain ⟨T_101, X_101, e_101, st_101⟩ := getF X_100 hx hZ hown (host := "") (Or.inl (hw _ (List.mem_of_getElem? (i := 9) rfl))) Via.refl e_100 f_98 (g := (mkF m 108 #[.val (.long u0), .second, .val (.long u1), .second, .val (.int fl), .val (.int (1 : Int32)), .val (.int (0 : Int32)), .val (.ref b_69), .val (.ref b_81), .val (.long (own_ord (1 : Int32) u0)), .second, .val (.long (own_ord (0 : Int32) u1)), .second] [(.ref b_81)])) rfl rfl (hb hby at_108)
      obtain ⟨T_102, X_102, e_102, st_102⟩ := getF X_101 hx hZ hown (host := "") (Or.inl (hw _ (List.mem_of_getElem? (i := 11) rfl))) Via.refl e_101 F_91 (g := (mkF m 118 #[.val (.long u0), .second, .val (.long u1), .second, .val (.int fl), .val (.int (1 : Int32)), .val (.int (0 : Int32)), .val (.ref b_69), .val (.ref b_81), .val (.long (own_ord (1 : Int32) u0)), .second, .val (.long (own_ord (0 : Int32) u1)), .second] [(.ref b_81)])) rfl rfl (hb hby at_118)
      refine own_go (S' := T_102.setTop (mkF m 209 #[.val (.long u0), .second, .val (.long u1), .second, .val (.int fl), .val (.int (1 : Int32)), .val (.int (0 : Int32)), .val (.ref b_69), .val (.ref b_81), .val (.long (own_ord (1 : Int32) u0)), .second, .val (.long (own_ord (0 : Int32) u1)), .second] [(.int (1 : Int32))])) (fun target kt => ?_) ?_
      · show Steps p.tables e below (s₁.setTop (mkF m 18 #[.val (.long u0), .second, .val (.long u1), .second, .val (.int fl), .val (.int (1 : Int32)), .unset, .unset, .unset, .unset, .unset, .unset, .unset] [(.int (fl &&& (2 : Int32)))])) target
        refine XS.ifYes X0.here hx rfl (pc0 := 18) (pc' := 25) rfl (hb hby at_18) rfl ((if0 _ _).trans (teq hc18).1) (by decide) (by decide) ?_
        show Steps p.tables e below (s₁.setTop (mkF m 25 #[.val (.long u0), .second, .val (.long u1), .second, .val (.int fl), .val (.int (1 : Int32)), .unset, .unset, .unset, .unset, .unset, .unset, .unset] [])) target
        refine XS.iconst X0.here hx rfl (hb hby at_25) ?_
        show Steps p.tables e below (s₁.setTop (mkF m 26 #[.val (.long u0), .second, .val (.long u1), .second, .val (.int fl), .val (.int (1 : Int32)), .unset, .unset, .unset, .unset, .unset, .unset, .unset] [(.int (0 : Int32))])) target
        refine XS.istore X0.here hx rfl (hb hby at_26) rfl (l' := #[.val (.long u0), .second, .val (.long u1), .second, .val (.int fl), .val (.int (1 : Int32)), .val (.int (0 : Int32)), .unset, .unset, .unset, .unset, .unset, .unset]) rfl ?_
        show Steps p.tables e below (s₁.setTop (mkF m 28 #[.val (.long u0), .second, .val (.long u1), .second, .val (.int fl), .val (.int (1 : Int32)), .val (.int (0 : Int32)), .unset, .unset, .unset, .unset, .unset, .unset] [])) target
        refine st_69 _ ?_
        show Steps p.tables e below (T_69.setTop (mkF m 31 #[.val (.long u0), .second, .val (.long u1), .second, .val (.int fl), .val (.int (1 : Int32)), .val (.int (0 : Int32)), .unset, .unset, .unset, .unset, .unset, .unset] [(.ref b_69)])) target
        refine XS.dup X_69.here hx rfl (hb hby at_31) rfl rfl ?_
        show Steps p.tables e below (T_69.setTop (mkF m 32 #[.val (.long u0), .second, .val (.long u1), .second, .val (.int fl), .val (.int (1 : Int32)), .val (.int (0 : Int32)), .unset, .unset, .unset, .unset, .unset, .unset] [(.ref b_69), (.ref b_69)])) target
        refine st_72.trans ?_
        show Steps p.tables e below (T_72.setTop (mkF m 35 #[.val (.long u0), .second, .val (.long u1), .second, .val (.int fl), .val (.int (1 : Int32)), .val (.int (0 : Int32)), .unset, .unset, .unset, .unset, .unset, .unset] [(.ref b_69)])) target
        refine XS.astore X_72.here hx rfl (hb hby at_35) rfl rfl (l' := #[.val (.long u0), .second, .val (.long u1), .second, .val (.int fl), .val (.int (1 : Int32)), .val (.int (0 : Int32)), .val (.ref b_69), .unset, .unset, .unset, .unset, .unset]) rfl ?_
        show Steps p.tables e below (T_72.setTop (mkF m 37 #[.val (.long u0), .second, .val (.long u1), .second, .val (.int fl), .val (.int (1 : Int32)), .val (.int (0 : Int32)), .val (.ref b_69), .unset, .unset, .unset, .unset, .unset] [])) target
        refine XS.aload X_72.here hx rfl (hb hby at_37) rfl rfl ?_
        show Steps p.tables e below (T_72.setTop (mkF m 39 #[.val (.long u0), .second, .val (.long u1), .second, .val (.int fl), .val (.int (1 : Int32)), .val (.int (0 : Int32)), .val (.ref b_69), .unset, .unset, .unset, .unset, .unset] [(.ref b_69)])) target
        refine XS.lloadN X_72.here hx rfl (hb hby at_39) rfl ?_
        show Steps p.tables e below (T_72.setTop (mkF m 40 #[.val (.long u0), .second, .val (.long u1), .second, .val (.int fl), .val (.int (1 : Int32)), .val (.int (0 : Int32)), .val (.ref b_69), .unset, .unset, .unset, .unset, .unset] [(.long u0), (.ref b_69)])) target
        refine st_73 _ ?_
        show Steps p.tables e below (T_73.setTop (mkF m 43 #[.val (.long u0), .second, .val (.long u1), .second, .val (.int fl), .val (.int (1 : Int32)), .val (.int (0 : Int32)), .val (.ref b_69), .unset, .unset, .unset, .unset, .unset] [])) target
        refine XS.aload X_73.here hx rfl (hb hby at_43) rfl rfl ?_
        show Steps p.tables e below (T_73.setTop (mkF m 45 #[.val (.long u0), .second, .val (.long u1), .second, .val (.int fl), .val (.int (1 : Int32)), .val (.int (0 : Int32)), .val (.ref b_69), .unset, .unset, .unset, .unset, .unset] [(.ref b_69)])) target
        refine XS.iload X_73.here hx rfl (hb hby at_45) rfl ?_
        show Steps p.tables e below (T_73.setTop (mkF m 47 #[.val (.long u0), .second, .val (.long u1), .second, .val (.int fl), .val (.int (1 : Int32)), .val (.int (0 : Int32)), .val (.ref b_69), .unset, .unset, .unset, .unset, .unset] [(.int (1 : Int32)), (.ref b_69)])) target
        refine st_78 _ ?_
        show Steps p.tables e below (T_78.setTop (mkF m 50 #[.val (.long u0), .second, .val (.long u1), .second, .val (.int fl), .val (.int (1 : Int32)), .val (.int (0 : Int32)), .val (.ref b_69), .unset, .unset, .unset, .unset, .unset] [])) target
        refine st_81 _ ?_
        show Steps p.tables e below (T_81.setTop (mkF m 53 #[.val (.long u0), .second, .val (.long u1), .second, .val (.int fl), .val (.int (1 : Int32)), .val (.int (0 : Int32)), .val (.ref b_69), .unset, .unset, .unset, .unset, .unset] [(.ref b_81)])) target
        refine XS.dup X_81.here hx rfl (hb hby at_53) rfl rfl ?_
        show Steps p.tables e below (T_81.setTop (mkF m 54 #[.val (.long u0), .second, .val (.long u1), .second, .val (.int fl), .val (.int (1 : Int32)), .val (.int (0 : Int32)), .val (.ref b_69), .unset, .unset, .unset, .unset, .unset] [(.ref b_81), (.ref b_81)])) target
        refine st_85.trans ?_
        show Steps p.tables e below (T_85.setTop (mkF m 57 #[.val (.long u0), .second, .val (.long u1), .second, .val (.int fl), .val (.int (1 : Int32)), .val (.int (0 : Int32)), .val (.ref b_69), .unset, .unset, .unset, .unset, .unset] [(.ref b_81)])) target
        refine XS.astore X_85.here hx rfl (hb hby at_57) rfl rfl (l' := #[.val (.long u0), .second, .val (.long u1), .second, .val (.int fl), .val (.int (1 : Int32)), .val (.int (0 : Int32)), .val (.ref b_69), .val (.ref b_81), .unset, .unset, .unset, .unset]) rfl ?_
        show Steps p.tables e below (T_85.setTop (mkF m 59 #[.val (.long u0), .second, .val (.long u1), .second, .val (.int fl), .val (.int (1 : Int32)), .val (.int (0 : Int32)), .val (.ref b_69), .val (.ref b_81), .unset, .unset, .unset, .unset] [])) target
        refine XS.aload X_85.here hx rfl (hb hby at_59) rfl rfl ?_
        show Steps p.tables e below (T_85.setTop (mkF m 61 #[.val (.long u0), .second, .val (.long u1), .second, .val (.int fl), .val (.int (1 : Int32)), .val (.int (0 : Int32)), .val (.ref b_69), .val (.ref b_81), .unset, .unset, .unset, .unset] [(.ref b_81)])) target
        refine XS.lloadN X_85.here hx rfl (hb hby at_61) rfl ?_
        show Steps p.tables e below (T_85.setTop (mkF m 62 #[.val (.long u0), .second, .val (.long u1), .second, .val (.int fl), .val (.int (1 : Int32)), .val (.int (0 : Int32)), .val (.ref b_69), .val (.ref b_81), .unset, .unset, .unset, .unset] [(.long u1), (.ref b_81)])) target
        refine st_86 _ ?_
        show Steps p.tables e below (T_86.setTop (mkF m 65 #[.val (.long u0), .second, .val (.long u1), .second, .val (.int fl), .val (.int (1 : Int32)), .val (.int (0 : Int32)), .val (.ref b_69), .val (.ref b_81), .unset, .unset, .unset, .unset] [])) target
        refine XS.aload X_86.here hx rfl (hb hby at_65) rfl rfl ?_
        show Steps p.tables e below (T_86.setTop (mkF m 67 #[.val (.long u0), .second, .val (.long u1), .second, .val (.int fl), .val (.int (1 : Int32)), .val (.int (0 : Int32)), .val (.ref b_69), .val (.ref b_81), .unset, .unset, .unset, .unset] [(.ref b_81)])) target
        refine XS.iload X_86.here hx rfl (hb hby at_67) rfl ?_
        show Steps p.tables e below (T_86.setTop (mkF m 69 #[.val (.long u0), .second, .val (.long u1), .second, .val (.int fl), .val (.int (1 : Int32)), .val (.int (0 : Int32)), .val (.ref b_69), .val (.ref b_81), .unset, .unset, .unset, .unset] [(.int (0 : Int32)), (.ref b_81)])) target
        refine st_91 _ ?_
        show Steps p.tables e below (T_91.setTop (mkF m 72 #[.val (.long u0), .second, .val (.long u1), .second, .val (.int fl), .val (.int (1 : Int32)), .val (.int (0 : Int32)), .val (.ref b_69), .val (.ref b_81), .unset, .unset, .unset, .unset] [])) target
        refine XS.aload X_91.here hx rfl (hb hby at_72) rfl rfl ?_
        show Steps p.tables e below (T_91.setTop (mkF m 74 #[.val (.long u0), .second, .val (.long u1), .second, .val (.int fl), .val (.int (1 : Int32)), .val (.int (0 : Int32)), .val (.ref b_69), .val (.ref b_81), .unset, .unset, .unset, .unset] [(.ref b_69)])) target
        refine st_94 _ ?_
        show Steps p.tables e below (T_94.setTop (mkF m 77 #[.val (.long u0), .second, .val (.long u1), .second, .val (.int fl), .val (.int (1 : Int32)), .val (.int (0 : Int32)), .val (.ref b_69), .val (.ref b_81), .unset, .unset, .unset, .unset] [(.long (own_ord (1 : Int32) u0))])) target
        refine XS.lstore X_94.here hx rfl (hb hby at_77) rfl (l' := #[.val (.long u0), .second, .val (.long u1), .second, .val (.int fl), .val (.int (1 : Int32)), .val (.int (0 : Int32)), .val (.ref b_69), .val (.ref b_81), .val (.long (own_ord (1 : Int32) u0)), .second, .unset, .unset]) rfl ?_
        show Steps p.tables e below (T_94.setTop (mkF m 79 #[.val (.long u0), .second, .val (.long u1), .second, .val (.int fl), .val (.int (1 : Int32)), .val (.int (0 : Int32)), .val (.ref b_69), .val (.ref b_81), .val (.long (own_ord (1 : Int32) u0)), .second, .unset, .unset] [])) target
        refine XS.aload X_94.here hx rfl (hb hby at_79) rfl rfl ?_
        show Steps p.tables e below (T_94.setTop (mkF m 81 #[.val (.long u0), .second, .val (.long u1), .second, .val (.int fl), .val (.int (1 : Int32)), .val (.int (0 : Int32)), .val (.ref b_69), .val (.ref b_81), .val (.long (own_ord (1 : Int32) u0)), .second, .unset, .unset] [(.ref b_81)])) target
        refine st_97 _ ?_
        show Steps p.tables e below (T_97.setTop (mkF m 84 #[.val (.long u0), .second, .val (.long u1), .second, .val (.int fl), .val (.int (1 : Int32)), .val (.int (0 : Int32)), .val (.ref b_69), .val (.ref b_81), .val (.long (own_ord (1 : Int32) u0)), .second, .unset, .unset] [(.long (own_ord (0 : Int32) u1))])) target
        refine XS.lstore X_97.here hx rfl (hb hby at_84) rfl (l' := #[.val (.long u0), .second, .val (.long u1), .second, .val (.int fl), .val (.int (1 : Int32)), .val (.int (0 : Int32)), .val (.ref b_69), .val (.ref b_81), .val (.long (own_ord (1 : Int32) u0)), .second, .val (.long (own_ord (0 : Int32) u1)), .second]) rfl ?_
        show Steps p.tables e below (T_97.setTop (mkF m 86 #[.val (.long u0), .second, .val (.long u1), .second, .val (.int fl), .val (.int (1 : Int32)), .val (.int (0 : Int32)), .val (.ref b_69), .val (.ref b_81), .val (.long (own_ord (1 : Int32) u0)), .second, .val (.long (own_ord (0 : Int32) u1)), .second] [])) target
        refine XS.aload X_97.here hx rfl (hb hby at_86) rfl rfl ?_
        show Steps p.tables e below (T_97.setTop (mkF m 88 #[.val (.long u0), .second, .val (.long u1), .second, .val (.int fl), .val (.int (1 : Int32)), .val (.int (0 : Int32)), .val (.ref b_69), .val (.ref b_81), .val (.long (own_ord (1 : Int32) u0)), .second, .val (.long (own_ord (0 : Int32) u1)), .second] [(.ref b_69)])) target
        refine st_99 _ ?_
        show Steps p.tables e below (T_99.setTop (mkF m 91 #[.val (.long u0), .second, .val (.long u1), .second, .val (.int fl), .val (.int (1 : Int32)), .val (.int (0 : Int32)), .val (.ref b_69), .val (.ref b_81), .val (.long (own_ord (1 : Int32) u0)), .second, .val (.long (own_ord (0 : Int32) u1)), .second] [(.long u0)])) target
        refine XS.lloadN X_99.here hx rfl (hb hby at_91) rfl ?_
        show Steps p.tables e below (T_99.setTop (mkF m 92 #[.val (.long u0), .second, .val (.long u1), .second, .val (.int fl), .val (.int (1 : Int32)), .val (.int (0 : Int32)), .val (.ref b_69), .val (.ref b_81), .val (.long (own_ord (1 : Int32) u0)), .second, .val (.long (own_ord (0 : Int32) u1)), .second] [(.long u0), (.long u0)])) target
        refine XS.lcmp X_99.here hx rfl (hb hby at_92) rfl ?_
        show Steps p.tables e below (T_99.setTop (mkF m 93 #[.val (.long u0), .second, .val (.long u1), .second, .val (.int fl), .val (.int (1 : Int32)), .val (.int (0 : Int32)), .val (.ref b_69), .val (.ref b_81), .val (.long (own_ord (1 : Int32) u0)), .second, .val (.long (own_ord (0 : Int32) u1)), .second] [(.int (lcmpW u0 u0))])) target
        refine XS.ifNo X_99.here hx rfl (hb hby at_93) rfl ((if0 _ _).trans (teq (own_l1 (rfl : u0 = u0))).2) ?_
        show Steps p.tables e below (T_99.setTop (mkF m 96 #[.val (.long u0), .second, .val (.long u1), .second, .val (.int fl), .val (.int (1 : Int32)), .val (.int (0 : Int32)), .val (.ref b_69), .val (.ref b_81), .val (.long (own_ord (1 : Int32) u0)), .second, .val (.long (own_ord (0 : Int32) u1)), .second] [])) target
        refine XS.aload X_99.here hx rfl (hb hby at_96) rfl rfl ?_
        show Steps p.tables e below (T_99.setTop (mkF m 98 #[.val (.long u0), .second, .val (.long u1), .second, .val (.int fl), .val (.int (1 : Int32)), .val (.int (0 : Int32)), .val (.ref b_69), .val (.ref b_81), .val (.long (own_ord (1 : Int32) u0)), .second, .val (.long (own_ord (0 : Int32) u1)), .second] [(.ref b_69)])) target
        refine st_100 _ ?_
        show Steps p.tables e below (T_100.setTop (mkF m 101 #[.val (.long u0), .second, .val (.long u1), .second, .val (.int fl), .val (.int (1 : Int32)), .val (.int (0 : Int32)), .val (.ref b_69), .val (.ref b_81), .val (.long (own_ord (1 : Int32) u0)), .second, .val (.long (own_ord (0 : Int32) u1)), .second] [(.int (1 : Int32))])) target
        refine XS.iload X_100.here hx rfl (hb hby at_101) rfl ?_
        show Steps p.tables e below (T_100.setTop (mkF m 103 #[.val (.long u0), .second, .val (.long u1), .second, .val (.int fl), .val (.int (1 : Int32)), .val (.int (0 : Int32)), .val (.ref b_69), .val (.ref b_81), .val (.long (own_ord (1 : Int32) u0)), .second, .val (.long (own_ord (0 : Int32) u1)), .second] [(.int (1 : Int32)), (.int (1 : Int32))])) target
        refine XS.icmpNo X_100.here hx rfl (hb hby at_103) rfl (teq (by decide : (1 : Int32) = (1 : Int32))).2 ?_
        show Steps p.tables e below (T_100.setTop (mkF m 106 #[.val (.long u0), .second, .val (.long u1), .second, .val (.int fl), .val (.int (1 : Int32)), .val (.int (0 : Int32)), .val (.ref b_69), .val (.ref b_81), .val (.long (own_ord (1 : Int32) u0)), .second, .val (.long (own_ord (0 : Int32) u1)), .second] [])) target
        refine XS.aload X_100.here hx rfl (hb hby at_106) rfl rfl ?_
        show Steps p.tables e below (T_100.setTop (mkF m 108 #[.val (.long u0), .second, .val (.long u1), .second, .val (.int fl), .val (.int (1 : Int32)), .val (.int (0 : Int32)), .val (.ref b_69), .val (.ref b_81), .val (.long (own_ord (1 : Int32) u0)), .second, .val (.long (own_ord (0 : Int32) u1)), .second] [(.ref b_81)])) target
        refine st_101 _ ?_
        show Steps p.tables e below (T_101.setTop (mkF m 111 #[.val (.long u0), .second, .val (.long u1), .second, .val (.int fl), .val (.int (1 : Int32)), .val (.int (0 : Int32)), .val (.ref b_69), .val (.ref b_81), .val (.long (own_ord (1 : Int32) u0)), .second, .val (.long (own_ord (0 : Int32) u1)), .second] [(.long u1)])) target
        refine XS.lloadN X_101.here hx rfl (hb hby at_111) rfl ?_
        show Steps p.tables e below (T_101.setTop (mkF m 112 #[.val (.long u0), .second, .val (.long u1), .second, .val (.int fl), .val (.int (1 : Int32)), .val (.int (0 : Int32)), .val (.ref b_69), .val (.ref b_81), .val (.long (own_ord (1 : Int32) u0)), .second, .val (.long (own_ord (0 : Int32) u1)), .second] [(.long u1), (.long u1)])) target
        refine XS.lcmp X_101.here hx rfl (hb hby at_112) rfl ?_
        show Steps p.tables e below (T_101.setTop (mkF m 113 #[.val (.long u0), .second, .val (.long u1), .second, .val (.int fl), .val (.int (1 : Int32)), .val (.int (0 : Int32)), .val (.ref b_69), .val (.ref b_81), .val (.long (own_ord (1 : Int32) u0)), .second, .val (.long (own_ord (0 : Int32) u1)), .second] [(.int (lcmpW u1 u1))])) target
        refine XS.ifNo X_101.here hx rfl (hb hby at_113) rfl ((if0 _ _).trans (teq (own_l1 (rfl : u1 = u1))).2) ?_
        show Steps p.tables e below (T_101.setTop (mkF m 116 #[.val (.long u0), .second, .val (.long u1), .second, .val (.int fl), .val (.int (1 : Int32)), .val (.int (0 : Int32)), .val (.ref b_69), .val (.ref b_81), .val (.long (own_ord (1 : Int32) u0)), .second, .val (.long (own_ord (0 : Int32) u1)), .second] [])) target
        refine XS.aload X_101.here hx rfl (hb hby at_116) rfl rfl ?_
        show Steps p.tables e below (T_101.setTop (mkF m 118 #[.val (.long u0), .second, .val (.long u1), .second, .val (.int fl), .val (.int (1 : Int32)), .val (.int (0 : Int32)), .val (.ref b_69), .val (.ref b_81), .val (.long (own_ord (1 : Int32) u0)), .second, .val (.long (own_ord (0 : Int32) u1)), .second] [(.ref b_81)])) target
        refine st_102 _ ?_
        show Steps p.tables e below (T_102.setTop (mkF m 121 #[.val (.long u0), .second, .val (.long u1), .second, .val (.int fl), .val (.int (1 : Int32)), .val (.int (0 : Int32)), .val (.ref b_69), .val (.ref b_81), .val (.long (own_ord (1 : Int32) u0)), .second, .val (.long (own_ord (0 : Int32) u1)), .second] [(.int (0 : Int32))])) target
        refine XS.iload X_102.here hx rfl (hb hby at_121) rfl ?_
        show Steps p.tables e below (T_102.setTop (mkF m 123 #[.val (.long u0), .second, .val (.long u1), .second, .val (.int fl), .val (.int (1 : Int32)), .val (.int (0 : Int32)), .val (.ref b_69), .val (.ref b_81), .val (.long (own_ord (1 : Int32) u0)), .second, .val (.long (own_ord (0 : Int32) u1)), .second] [(.int (0 : Int32)), (.int (0 : Int32))])) target
        refine XS.icmpYes X_102.here hx rfl (pc0 := 123) (pc' := 128) rfl (hb hby at_123) rfl (teq (by decide : (0 : Int32) = (0 : Int32))).1 (by decide) (by decide) ?_
        show Steps p.tables e below (T_102.setTop (mkF m 128 #[.val (.long u0), .second, .val (.long u1), .second, .val (.int fl), .val (.int (1 : Int32)), .val (.int (0 : Int32)), .val (.ref b_69), .val (.ref b_81), .val (.long (own_ord (1 : Int32) u0)), .second, .val (.long (own_ord (0 : Int32) u1)), .second] [])) target
        refine XS.iload X_102.here hx rfl (hb hby at_128) rfl ?_
        show Steps p.tables e below (T_102.setTop (mkF m 130 #[.val (.long u0), .second, .val (.long u1), .second, .val (.int fl), .val (.int (1 : Int32)), .val (.int (0 : Int32)), .val (.ref b_69), .val (.ref b_81), .val (.long (own_ord (1 : Int32) u0)), .second, .val (.long (own_ord (0 : Int32) u1)), .second] [(.int (1 : Int32))])) target
        refine XS.ifNo X_102.here hx rfl (hb hby at_130) rfl ((if0 _ _).trans (feq (by decide : ¬ ((1 : Int32) = (0 : Int32)))).1) ?_
        show Steps p.tables e below (T_102.setTop (mkF m 133 #[.val (.long u0), .second, .val (.long u1), .second, .val (.int fl), .val (.int (1 : Int32)), .val (.int (0 : Int32)), .val (.ref b_69), .val (.ref b_81), .val (.long (own_ord (1 : Int32) u0)), .second, .val (.long (own_ord (0 : Int32) u1)), .second] [])) target
        refine XS.lload X_102.here hx rfl (hb hby at_133) rfl ?_
        show Steps p.tables e below (T_102.setTop (mkF m 135 #[.val (.long u0), .second, .val (.long u1), .second, .val (.int fl), .val (.int (1 : Int32)), .val (.int (0 : Int32)), .val (.ref b_69), .val (.ref b_81), .val (.long (own_ord (1 : Int32) u0)), .second, .val (.long (own_ord (0 : Int32) u1)), .second] [(.long (own_ord (1 : Int32) u0))])) target
        refine X_102.ldc2Long hx hown (mvT hZ (hw _ (List.mem_of_getElem? (i := 20) rfl))) (g := (mkF m 135 #[.val (.long u0), .second, .val (.long u1), .second, .val (.int fl), .val (.int (1 : Int32)), .val (.int (0 : Int32)), .val (.ref b_69), .val (.ref b_81), .val (.long (own_ord (1 : Int32) u0)), .second, .val (.long (own_ord (0 : Int32) u1)), .second] [(.long (own_ord (1 : Int32) u0))])) rfl (hb hby at_135) _ ?_
        show Steps p.tables e below (T_102.setTop (mkF m 138 #[.val (.long u0), .second, .val (.long u1), .second, .val (.int fl), .val (.int (1 : Int32)), .val (.int (0 : Int32)), .val (.ref b_69), .val (.ref b_81), .val (.long (own_ord (1 : Int32) u0)), .second, .val (.long (own_ord (0 : Int32) u1)), .second] [(.long (-9223372036854775808 : Int64)), (.long (own_ord (1 : Int32) u0))])) target
        refine XS.lcmp X_102.here hx rfl (hb hby at_138) rfl ?_
        show Steps p.tables e below (T_102.setTop (mkF m 139 #[.val (.long u0), .second, .val (.long u1), .second, .val (.int fl), .val (.int (1 : Int32)), .val (.int (0 : Int32)), .val (.ref b_69), .val (.ref b_81), .val (.long (own_ord (1 : Int32) u0)), .second, .val (.long (own_ord (0 : Int32) u1)), .second] [(.int (lcmpW (own_ord (1 : Int32) u0) (-9223372036854775808 : Int64)))])) target
        refine XS.ifYes X_102.here hx rfl (pc0 := 139) (pc' := 153) rfl (hb hby at_139) rfl ((if0 _ _).trans (teq (own_l1 (own_ord1 _ : (own_ord (1 : Int32) u0) = (-9223372036854775808 : Int64)))).1) (by decide) (by decide) ?_
        show Steps p.tables e below (T_102.setTop (mkF m 153 #[.val (.long u0), .second, .val (.long u1), .second, .val (.int fl), .val (.int (1 : Int32)), .val (.int (0 : Int32)), .val (.ref b_69), .val (.ref b_81), .val (.long (own_ord (1 : Int32) u0)), .second, .val (.long (own_ord (0 : Int32) u1)), .second] [])) target
        refine XS.iload X_102.here hx rfl (hb hby at_153) rfl ?_
        show Steps p.tables e below (T_102.setTop (mkF m 155 #[.val (.long u0), .second, .val (.long u1), .second, .val (.int fl), .val (.int (1 : Int32)), .val (.int (0 : Int32)), .val (.ref b_69), .val (.ref b_81), .val (.long (own_ord (1 : Int32) u0)), .second, .val (.long (own_ord (0 : Int32) u1)), .second] [(.int (0 : Int32))])) target
        refine XS.ifYes X_102.here hx rfl (pc0 := 155) (pc' := 169) rfl (hb hby at_155) rfl ((if0 _ _).trans (teq (by decide : (0 : Int32) = (0 : Int32))).1) (by decide) (by decide) ?_
        show Steps p.tables e below (T_102.setTop (mkF m 169 #[.val (.long u0), .second, .val (.long u1), .second, .val (.int fl), .val (.int (1 : Int32)), .val (.int (0 : Int32)), .val (.ref b_69), .val (.ref b_81), .val (.long (own_ord (1 : Int32) u0)), .second, .val (.long (own_ord (0 : Int32) u1)), .second] [])) target
        refine XS.lload X_102.here hx rfl (hb hby at_169) rfl ?_
        show Steps p.tables e below (T_102.setTop (mkF m 171 #[.val (.long u0), .second, .val (.long u1), .second, .val (.int fl), .val (.int (1 : Int32)), .val (.int (0 : Int32)), .val (.ref b_69), .val (.ref b_81), .val (.long (own_ord (1 : Int32) u0)), .second, .val (.long (own_ord (0 : Int32) u1)), .second] [(.long (own_ord (0 : Int32) u1))])) target
        refine XS.lloadN X_102.here hx rfl (hb hby at_171) rfl ?_
        show Steps p.tables e below (T_102.setTop (mkF m 172 #[.val (.long u0), .second, .val (.long u1), .second, .val (.int fl), .val (.int (1 : Int32)), .val (.int (0 : Int32)), .val (.ref b_69), .val (.ref b_81), .val (.long (own_ord (1 : Int32) u0)), .second, .val (.long (own_ord (0 : Int32) u1)), .second] [(.long u1), (.long (own_ord (0 : Int32) u1))])) target
        refine XS.lcmp X_102.here hx rfl (hb hby at_172) rfl ?_
        show Steps p.tables e below (T_102.setTop (mkF m 173 #[.val (.long u0), .second, .val (.long u1), .second, .val (.int fl), .val (.int (1 : Int32)), .val (.int (0 : Int32)), .val (.ref b_69), .val (.ref b_81), .val (.long (own_ord (1 : Int32) u0)), .second, .val (.long (own_ord (0 : Int32) u1)), .second] [(.int (lcmpW (own_ord (0 : Int32) u1) u1))])) target
        refine XS.ifYes X_102.here hx rfl (pc0 := 173) (pc' := 178) rfl (hb hby at_173) rfl ((if0 _ _).trans (teq (own_l1 (own_ord0 _ : (own_ord (0 : Int32) u1) = u1))).1) (by decide) (by decide) ?_
        show Steps p.tables e below (T_102.setTop (mkF m 178 #[.val (.long u0), .second, .val (.long u1), .second, .val (.int fl), .val (.int (1 : Int32)), .val (.int (0 : Int32)), .val (.ref b_69), .val (.ref b_81), .val (.long (own_ord (1 : Int32) u0)), .second, .val (.long (own_ord (0 : Int32) u1)), .second] [])) target
        refine XS.iload X_102.here hx rfl (hb hby at_178) rfl ?_
        show Steps p.tables e below (T_102.setTop (mkF m 180 #[.val (.long u0), .second, .val (.long u1), .second, .val (.int fl), .val (.int (1 : Int32)), .val (.int (0 : Int32)), .val (.ref b_69), .val (.ref b_81), .val (.long (own_ord (1 : Int32) u0)), .second, .val (.long (own_ord (0 : Int32) u1)), .second] [(.int (1 : Int32))])) target
        refine XS.ifNo X_102.here hx rfl (hb hby at_180) rfl ((if0 _ _).trans (feq (by decide : ¬ ((1 : Int32) = (0 : Int32)))).1) ?_
        show Steps p.tables e below (T_102.setTop (mkF m 183 #[.val (.long u0), .second, .val (.long u1), .second, .val (.int fl), .val (.int (1 : Int32)), .val (.int (0 : Int32)), .val (.ref b_69), .val (.ref b_81), .val (.long (own_ord (1 : Int32) u0)), .second, .val (.long (own_ord (0 : Int32) u1)), .second] [])) target
        refine XS.lload X_102.here hx rfl (hb hby at_183) rfl ?_
        show Steps p.tables e below (T_102.setTop (mkF m 185 #[.val (.long u0), .second, .val (.long u1), .second, .val (.int fl), .val (.int (1 : Int32)), .val (.int (0 : Int32)), .val (.ref b_69), .val (.ref b_81), .val (.long (own_ord (1 : Int32) u0)), .second, .val (.long (own_ord (0 : Int32) u1)), .second] [(.long (own_ord (1 : Int32) u0))])) target
        refine XS.lload X_102.here hx rfl (hb hby at_185) rfl ?_
        show Steps p.tables e below (T_102.setTop (mkF m 187 #[.val (.long u0), .second, .val (.long u1), .second, .val (.int fl), .val (.int (1 : Int32)), .val (.int (0 : Int32)), .val (.ref b_69), .val (.ref b_81), .val (.long (own_ord (1 : Int32) u0)), .second, .val (.long (own_ord (0 : Int32) u1)), .second] [(.long (own_ord (0 : Int32) u1)), (.long (own_ord (1 : Int32) u0))])) target
        refine XS.lcmp X_102.here hx rfl (hb hby at_187) rfl ?_
        show Steps p.tables e below (T_102.setTop (mkF m 188 #[.val (.long u0), .second, .val (.long u1), .second, .val (.int fl), .val (.int (1 : Int32)), .val (.int (0 : Int32)), .val (.ref b_69), .val (.ref b_81), .val (.long (own_ord (1 : Int32) u0)), .second, .val (.long (own_ord (0 : Int32) u1)), .second] [(.int (lcmpW (own_ord (1 : Int32) u0) (own_ord (0 : Int32) u1)))])) target
        refine XS.ifYes X_102.here hx rfl (pc0 := 188) (pc' := 193) rfl (hb hby at_188) rfl ((if0 _ _).trans (flt (own_l6 (own_nlt _ _ : ¬ ((own_ord (0 : Int32) u1) < (own_ord (1 : Int32) u0))))).2.2.2) (by decide) (by decide) ?_
        show Steps p.tables e below (T_102.setTop (mkF m 193 #[.val (.long u0), .second, .val (.long u1), .second, .val (.int fl), .val (.int (1 : Int32)), .val (.int (0 : Int32)), .val (.ref b_69), .val (.ref b_81), .val (.long (own_ord (1 : Int32) u0)), .second, .val (.long (own_ord (0 : Int32) u1)), .second] [])) target
        refine XS.iload X_102.here hx rfl (hb hby at_193) rfl ?_
        show Steps p.tables e below (T_102.setTop (mkF m 195 #[.val (.long u0), .second, .val (.long u1), .second, .val (.int fl), .val (.int (1 : Int32)), .val (.int (0 : Int32)), .val (.ref b_69), .val (.ref b_81), .val (.long (own_ord (1 : Int32) u0)), .second, .val (.long (own_ord (0 : Int32) u1)), .second] [(.int (0 : Int32))])) target
        refine XS.ifYes X_102.here hx rfl (pc0 := 195) (pc' := 208) rfl (hb hby at_195) rfl ((if0 _ _).trans (teq (by decide : (0 : Int32) = (0 : Int32))).1) (by decide) (by decide) ?_
        show Steps p.tables e below (T_102.setTop (mkF m 208 #[.val (.long u0), .second, .val (.long u1), .second, .val (.int fl), .val (.int (1 : Int32)), .val (.int (0 : Int32)), .val (.ref b_69), .val (.ref b_81), .val (.long (own_ord (1 : Int32) u0)), .second, .val (.long (own_ord (0 : Int32) u1)), .second] [])) target
        refine XS.iconst X_102.here hx rfl (hb hby at_208) ?_
        show Steps p.tables e below (T_102.setTop (mkF m 209 #[.val (.long u0), .second, .val (.long u1), .second, .val (.int fl), .val (.int (1 : Int32)), .val (.int (0 : Int32)), .val (.ref b_69), .val (.ref b_81), .val (.long (own_ord (1 : Int32) u0)), .second, .val (.long (own_ord (0 : Int32) u1)), .second] [(.int (1 : Int32))])) target
        exact kt
      obtain ⟨fs, hr, hrun, hended, hW, hsame⟩ := X_102.leave (v := some (.int (1 : Int32))) (fun h => by rw [Bd.returns] at h; cases h)
      refine ⟨_, _, retN X_102 hx (t := .boolean) Bd.returns (by simp) (hb hby at_209) hr, hrun, hended, _, _, rfl, ?_, ⟨_, rfl⟩, hW, hsame.mono (by decide) (by decide)⟩
      show Q_law Z u0 u1 fl h0 n0 _ T_102.heap _
      rw [e_102]
      exact ⟨rfl, N_97⟩
    · -- pc 18: no
      obtain ⟨T_103, h_103, X_103, e_103, E_103, A_103, D_103, -, st_103⟩ := newO X0 hx hZ hown (hw _ (List.mem_of_getElem? (i := 0) rfl)) (hw _ (List.mem_of_getElem? (i := 1) rfl)) (hw _ (List.mem_of_getElem? (i := 2) rfl)) e0 (g := (mkF m 28 #[.val (.long u0), .second, .val (.long u1), .second, .val (.int fl), .val (.int (1 : Int32)), .val (.int (1 : Int32)), .unset, .unset, .unset, .unset, .unset, .unset] [])) rfl (hb hby at_28) (by decide) (by decide)
      obtain ⟨b_103, g_103⟩ : ∃ z, z = h0.size := ⟨_, rfl⟩
      rw [← g_103] at A_103 D_103 st_103
      have gn_b_103 : n0 ≤ b_103 := Nat.le_trans Z0 (Nat.le_of_eq g_103.symm)
      have Z_104 : n0 ≤ h_103.size := Nat.le_trans Z0 E_103.1
      have F_103_when : Fld Z h_103 b_103 "com/example/carillon/carillon/Message" "when" "J" (.long (0 : Int64)) := D_103 (Or.inl (hw _ (List.mem_of_getElem? (i := 10) rfl))) (ty := .long) (by decide)
      have F_103_atFront : Fld Z h_103 b_103 "com/example/carillon/carillon/Message" "atFront" "Z" (.int (0 : Int32)) := D_103 (Or.inl (hw _ (List.mem_of_getElem? (i := 12) rfl))) (ty := .boolean) (by decide)
      obtain ⟨_, _, ⟨T_106, L_106, k_106, n_106⟩, -, X_106, ⟨Lc_106, hQ_106, l_106, y_106, z_106⟩, st_106⟩ := X_103.specialBack hx (y := (⟨"com/example/carillon/carillon/Message", "<init>", "()V"⟩ : MethodName)) rfl hown (mvT hZ (hw _ (List.mem_of_getElem? (i := 3) rfl))) (mvT hZ (hw _ (List.mem_of_getElem? (i := 4) rfl))) (mvT hZ (hw _ (List.mem_of_getElem? (i := 5) rfl))) (by decide) (backOf (W := 1) (rm_mi l Z a0 hw [] b_103  h_103 n0 Z_104 ) hZ (hw _ (List.mem_of_getElem? (i := 5) rfl)) (hw _ (List.mem_of_getElem? (i := 2) rfl)) (by decide) (by decide)) (g := (mkF m 32 #[.val (.long u0), .second, .val (.long u1), .second, .val (.int fl), .val (.int (1 : Int32)), .val (.int (1 : Int32)), .unset, .unset, .unset, .unset, .unset, .unset] [(.ref b_103), (.ref b_103)])) rfl (by rw [hml]; rfl) (Steps.refl _) (a := b_103) (argsL := []) (rest := [(.ref b_103)]) (lenOf pd__V rfl) rfl (by show 2 * 0 + _ ≤ _; exact Nat.le_of_eq rfl) (hb hby at_32) (fun _ _ => ⟨rfl, e_103, (by decide : 1 + 0 ≤ _), (by decide : 12 + 0 ≤ _)⟩)
      dsimp only [Pt.U, Pt.locs, Pt.cells, Pt.slots] at X_106 l_106 y_106 z_106 st_106 hQ_106
      subst l_106 y_106 z_106
      obtain ⟨rfl, N_106q, p_106_0⟩ := hQ_106
      have N_106 := Fr.app N0 N_106q
      obtain ⟨T_107, h_107, X_107, e_107, W_107, st_107⟩ := putF X_106 hx hZ hown (host := "") (Or.inl (hw _ (List.mem_of_getElem? (i := 9) rfl))) Via.refl p_106_0 F_103_when A_103 (Or.inl (hw _ (List.mem_of_getElem? (i := 10) rfl))) (hw _ (List.mem_of_getElem? (i := 1) rfl)) (ty := .long) (by decide) rfl rfl (g := (mkF m 40 #[.val (.long u0), .second, .val (.long u1), .second, .val (.int fl), .val (.int (1 : Int32)), .val (.int (1 : Int32)), .val (.ref b_103), .unset, .unset, .unset, .unset, .unset] [(.long u0), (.ref b_103)])) rfl rfl (hb hby at_40)
      have N_107 := Fr.snoc X_107 N_106 gn_b_103
      have F_107 := F_103_when.same W_107
      have Z_108 : n0 ≤ h_107.size := Nat.le_trans Z_104 (Keep.of_wr W_107).1
      have f_110 := (A_103.wr W_107)
      have f_111 := (F_103_atFront.other W_107 (Or.inr (slot_ne (Or.inl (hw _ (List.mem_of_getElem? (i := 12) rfl))) (Or.inl (hw _ (List.mem_of_getElem? (i := 10) rfl))) (by decide) (t := .boolean) (t' := .long) (by decide) (by decide))))
      obtain ⟨T_112, h_112, X_112, e_112, W_112, st_112⟩ := putFN X_107 hx hZ hown (hw _ (List.mem_of_getElem? (i := 11) rfl)) Via.refl e_107 f_111 f_110 (Or.inl (hw _ (List.mem_of_getElem? (i := 12) rfl))) (hw _ (List.mem_of_getElem? (i := 1) rfl)) (ty := .boolean) (v' := (.int (1 : Int32))) (by decide) rfl (by decide) (g := (mkF m 47 #[.val (.long u0), .second, .val (.long u1), .second, .val (.int fl), .val (.int (1 : Int32)), .val (.int (1 : Int32)), .val (.ref b_103), .unset, .unset, .unset, .unset, .unset] [(.int (1 : Int32)), (.ref b_103)])) rfl rfl (hb hby at_47)
      have N_112 := Fr.snoc X_112 N_107 gn_b_103
      have F_112 := f_111.same W_112
      have Z_113 : n0 ≤ h_112.size := Nat.le_trans Z_108 (Keep.of_wr W_112).1
      obtain ⟨T_115, h_115, X_115, e_115, E_115, A_115, D_115, -, st_115⟩ := newO X_112 hx hZ hown (hw _ (List.mem_of_getElem? (i := 0) rfl)) (hw _ (List.mem_of_getElem? (i := 1) rfl)) (hw _ (List.mem_of_getElem? (i := 2) rfl)) e_112 (g := (mkF m 50 #[.val (.long u0), .second, .val (.long u1), .second, .val (.int fl), .val (.int (1 : Int32)), .val (.int (1 : Int32)), .val (.ref b_103), .unset, .unset, .unset, .unset, .unset] [])) rfl (hb hby at_50) (by decide) (by decide)
      obtain ⟨b_115, g_115⟩ : ∃ z, z = h_112.size := ⟨_, rfl⟩
      rw [← g_115] at A_115 D_115 st_115
      have gn_b_115 : n0 ≤ b_115 := Nat.le_trans Z_113 (Nat.le_of_eq g_115.symm)
      have f_116 := (f_110.wr W_112)
      have ne_b_103_b_115 : b_103 ≠ b_115 := Nat.ne_of_lt (Nat.lt_of_lt_of_le f_116.lt (Nat.le_of_eq g_115.symm))
      have Z_117 : n0 ≤ h_115.size := Nat.le_trans Z_113 E_115.1
      have F_115_when : Fld Z h_115 b_115 "com/example/carillon/carillon/Message" "when" "J" (.long (0 : Int64)) := D_115 (Or.inl (hw _ (List.mem_of_getElem? (i := 10) rfl))) (ty := .long) (by decide)
      have F_115_atFront : Fld Z h_115 b_115 "com/example/carillon/carillon/Message" "atFront" "Z" (.int (0 : Int32)) := D_115 (Or.inl (hw _ (List.mem_of_getElem? (i := 12) rfl))) (ty := .boolean) (by decide)
      obtain ⟨_, _, ⟨T_119, L_119, k_119, n_119⟩, -, X_119, ⟨Lc_119, hQ_119, l_119, y_119, z_119⟩, st_119⟩ := X_115.specialBack hx (y := (⟨"com/example/carillon/carillon/Message", "<init>", "()V"⟩ : MethodName)) rfl hown (mvT hZ (hw _ (List.mem_of_getElem? (i := 3) rfl))) (mvT hZ (hw _ (List.mem_of_getElem? (i := 4) rfl))) (mvT hZ (hw _ (List.mem_of_getElem? (i := 5) rfl))) (by decide) (backOf (W := 1) (rm_mi l Z a0 hw [] b_115  h_115 n0 Z_117 ) hZ (hw _ (List.mem_of_getElem? (i := 5) rfl)) (hw _ (List.mem_of_getElem? (i := 2) rfl)) (by decide) (by decide)) (g := (mkF m 54 #[.val (.long u0), .second, .val (.long u1), .second, .val (.int fl), .val (.int (1 : Int32)), .val (.int (1 : Int32)), .val (.ref b_103), .unset, .unset, .unset, .unset, .unset] [(.ref b_115), (.ref b_115)])) rfl (by rw [hml]; rfl) (Steps.refl _) (a := b_115) (argsL := []) (rest := [(.ref b_115)]) (lenOf pd__V rfl) rfl (by show 2 * 0 + _ ≤ _; exact Nat.le_of_eq rfl) (hb hby at_54) (fun _ _ => ⟨rfl, e_115, (by decide : 2 + 0 ≤ _), (by decide : 24 + 0 ≤ _)⟩)
      dsimp only [Pt.U, Pt.locs, Pt.cells, Pt.slots] at X_119 l_119 y_119 z_119 st_119 hQ_119
      subst l_119 y_119 z_119
      obtain ⟨rfl, N_119q, p_119_0⟩ := hQ_119
      have N_119 := Fr.app N_112 N_119q
      obtain ⟨T_120, h_120, X_120, e_120, W_120, st_120⟩ := putF X_119 hx hZ hown (host := "") (Or.inl (hw _ (List.mem_of_getElem? (i := 9) rfl))) Via.refl p_119_0 F_115_when A_115 (Or.inl (hw _ (List.mem_of_getElem? (i := 10) rfl))) (hw _ (List.mem_of_getElem? (i := 1) rfl)) (ty := .long) (by decide) rfl rfl (g := (mkF m 62 #[.val (.long u0), .second, .val (.long u1), .second, .val (.int fl), .val (.int (1 : Int32)), .val (.int (1 : Int32)), .val (.ref b_103), .val (.ref b_115), .unset, .unset, .unset, .unset] [(.long u1), (.ref b_115)])) rfl rfl (hb hby at_62)
      have N_120 := Fr.snoc X_120 N_119 gn_b_115
      have F_120 := F_115_when.same W_120
      have Z_121 : n0 ≤ h_120.size := Nat.le_trans Z_117 (Keep.of_wr W_120).1
      have f_123 := (A_115.wr W_120)
      have f_124 := (F_115_atFront.other W_120 (Or.inr (slot_ne (Or.inl (hw _ (List.mem_of_getElem? (i := 12) rfl))) (Or.inl (hw _ (List.mem_of_getElem? (i := 10) rfl))) (by decide) (t := .boolean) (t' := .long) (by decide) (by decide))))
      obtain ⟨T_125, h_125, X_125, e_125, W_125, st_125⟩ := putFN X_120 hx hZ hown (hw _ (List.mem_of_getElem? (i := 11) rfl)) Via.refl e_120 f_124 f_123 (Or.inl (hw _ (List.mem_of_getElem? (i := 12) rfl))) (hw _ (List.mem_of_getElem? (i := 1) rfl)) (ty := .boolean) (v' := (.int (1 : Int32))) (by decide) rfl (by decide) (g := (mkF m 69 #[.val (.long u0), .second, .val (.long u1), .second, .val (.int fl), .val (.int (1 : Int32)), .val (.int (1 : Int32)), .val (.ref b_103), .val (.ref b_115), .unset, .unset, .unset, .unset] [(.int (1 : Int32)), (.ref b_115)])) rfl rfl (hb hby at_69)
      have N_125 := Fr.snoc X_125 N_120 gn_b_115
      have F_125 := f_124.same W_125
      have Z_126 : n0 ≤ h_125.size := Nat.le_trans Z_121 (Keep.of_wr W_125).1
      have f_129 := (((F_112.ext E_115).other W_120 (Or.inl ne_b_103_b_115)).other W_125 (Or.inl ne_b_103_b_115))
      have f_130 := ((((F_107.other W_112 (Or.inr (slot_ne (Or.inl (hw _ (List.mem_of_getElem? (i := 10) rfl))) (Or.inl (hw _ (List.mem_of_getElem? (i := 12) rfl))) (by decide) (t := .long) (t' := .boolean) (by decide) (by decide)))).ext E_115).other W_120 (Or.inl ne_b_103_b_115)).other W_125 (Or.inl ne_b_103_b_115))
      obtain ⟨_, _, ⟨T_128, L_128, k_128, n_128⟩, -, X_128, ⟨Lc_128, hQ_128, l_128, y_128, z_128⟩, st_128⟩ := Jvm.LawKit.callS X_125 hx (y := (⟨"com/example/carillon/carillon/Chain", "orderOf", "(Lcom/example/carillon/carillon/Message;)J"⟩ : MethodName)) hown (mvT hZ (hw _ (List.mem_of_getElem? (i := 13) rfl))) (mvT hZ (hw _ (List.mem_of_getElem? (i := 14) rfl))) (mvT hZ (hw _ (List.mem_of_getElem? (i := 15) rfl))) (mvT hZ (hw _ (List.mem_of_getElem? (i := 16) rfl))) (by decide) (backOf (W := 0) (rm_ord l Z a0 hw [] b_103 (1 : Int32) u0 h_125 n0 Z_126 f_129 f_130) hZ (hw _ (List.mem_of_getElem? (i := 16) rfl)) (hw _ (List.mem_of_getElem? (i := 15) rfl)) (by decide) (by decide)) (g := (mkF m 74 #[.val (.long u0), .second, .val (.long u1), .second, .val (.int fl), .val (.int (1 : Int32)), .val (.int (1 : Int32)), .val (.ref b_103), .val (.ref b_115), .unset, .unset, .unset, .unset] [(.ref b_103)])) rfl (by rw [hml]; rfl) (argsL := [(.ref b_103)]) (rest := []) (lenOf pd_LcomexamplecarilloncarillonMessage_J rfl) rfl (by show 2 * 0 + _ ≤ _; exact Nat.le_of_eq rfl) (hb hby at_74) (fun _ _ => ⟨rfl, e_125, (by decide : 2 + 0 ≤ _), (by decide : 24 + 0 ≤ _)⟩)
      dsimp only [Pt.U, Pt.locs, Pt.cells, Pt.slots] at X_128 l_128 y_128 z_128 st_128 hQ_128
      subst l_128 y_128 z_128
      obtain ⟨rfl, N_128q, p_128_0⟩ := hQ_128
      have N_128 := Fr.app N_125 N_128q
      have f_132 := (F_120.other W_125 (Or.inr (slot_ne (Or.inl (hw _ (List.mem_of_getElem? (i := 10) rfl))) (Or.inl (hw _ (List.mem_of_getElem? (i := 12) rfl))) (by decide) (t := .long) (t' := .boolean) (by decide) (by decide))))
      obtain ⟨_, _, ⟨T_131, L_131, k_131, n_131⟩, -, X_131, ⟨Lc_131, hQ_131, l_131, y_131, z_131⟩, st_131⟩ := Jvm.LawKit.callS X_128 hx (y := (⟨"com/example/carillon/carillon/Chain", "orderOf", "(Lcom/example/carillon/carillon/Message;)J"⟩ : MethodName)) hown (mvT hZ (hw _ (List.mem_of_getElem? (i := 13) rfl))) (mvT hZ (hw _ (List.mem_of_getElem? (i := 14) rfl))) (mvT hZ (hw _ (List.mem_of_getElem? (i := 15) rfl))) (mvT hZ (hw _ (List.mem_of_getElem? (i := 16) rfl))) (by decide) (backOf (W := 0) (rm_ord l Z a0 hw [] b_115 (1 : Int32) u1 h_125 n0 Z_126 F_125 f_132) hZ (hw _ (List.mem_of_getElem? (i := 16) rfl)) (hw _ (List.mem_of_getElem? (i := 15) rfl)) (by decide) (by decide)) (g := (mkF m 81 #[.val (.long u0), .second, .val (.long u1), .second, .val (.int fl), .val (.int (1 : Int32)), .val (.int (1 : Int32)), .val (.ref b_103), .val (.ref b_115), .val (.long (own_ord (1 : Int32) u0)), .second, .unset, .unset] [(.ref b_115)])) rfl (by rw [hml]; rfl) (argsL := [(.ref b_115)]) (rest := []) (lenOf pd_LcomexamplecarilloncarillonMessage_J rfl) rfl (by show 2 * 0 + _ ≤ _; exact Nat.le_of_eq rfl) (hb hby at_81) (fun _ _ => ⟨rfl, p_128_0, (by decide : 2 + 0 ≤ _), (by decide : 24 + 0 ≤ _)⟩)
      dsimp only [Pt.U, Pt.locs, Pt.cells, Pt.slots] at X_131 l_131 y_131 z_131 st_131 hQ_131
      subst l_131 y_131 z_131
      obtain ⟨rfl, N_131q, p_131_0⟩ := hQ_131
      have N_131 := Fr.app N_128 N_131q
      obtain ⟨T_133, X_133, e_133, st_133⟩ := getF X_131 hx hZ hown (host := "") (Or.inl (hw _ (List.mem_of_getElem? (i := 9) rfl))) Via.refl p_131_0 f_130 (g := (mkF m 88 #[.val (.long u0), .second, .val (.long u1), .second, .val (.int fl), .val (.int (1 : Int32)), .val (.int (1 : Int32)), .val (.ref b_103), .val (.ref b_115), .val (.long (own_ord (1 : Int32) u0)), .second, .val (.long (own_ord (1 : Int32) u1)), .second] [(.ref b_103)])) rfl rfl (hb hby at_88)
      obtain ⟨T_134, X_134, e_134, st_134⟩ := getF X_133 hx hZ hown (host := "") (Or.inl (hw _ (List.mem_of_getElem? (i := 11) rfl))) Via.refl e_133 f_129 (g := (mkF m 98 #[.val (.long u0), .second, .val (.long u1), .second, .val (.int fl), .val (.int (1 : Int32)), .val (.int (1 : Int32)), .val (.ref b_103), .val (.ref b_115), .val (.long (own_ord (1 : Int32) u0)), .second, .val (.long (own_ord (1 : Int32) u1)), .second] [(.ref b_103)])) rfl rfl (hb hby at_98)
      obtain ⟨T_135, X_135, e_135, st_135⟩ := getF X_134 hx hZ hown (host := "") (Or.inl (hw _ (List.mem_of_getElem? (i := 9) rfl))) Via.refl e_134 f_132 (g := (mkF m 108 #[.val (.long u0), .second, .val (.long u1), .second, .val (.int fl), .val (.int (1 : Int32)), .val (.int (1 : Int32)), .val (.ref b_103), .val (.ref b_115), .val (.long (own_ord (1 : Int32) u0)), .second, .val (.long (own_ord (1 : Int32) u1)), .second] [(.ref b_115)])) rfl rfl (hb hby at_108)
      obtain ⟨T_136, X_136, e_136, st_136⟩ := getF X_135 hx hZ hown (host := "") (Or.inl (hw _ (List.mem_of_getElem? (i := 11) rfl))) Via.refl e_135 F_125 (g := (mkF m 118 #[.val (.long u0), .second, .val (.long u1), .second, .val (.int fl), .val (.int (1 : Int32)), .val (.int (1 : Int32)), .val (.ref b_103), .val (.ref b_115), .val (.long (own_ord (1 : Int32) u0)), .second, .val (.long (own_ord (1 : Int32) u1)), .second] [(.ref b_115)])) rfl rfl (hb hby at_118)
      refine own_go (S' := T_136.setTop (mkF m 209 #[.val (.long u0), .second, .val (.long u1), .second, .val (.int fl), .val (.int (1 : Int32)), .val (.int (1 : Int32)), .val (.ref b_103), .val (.ref b_115), .val (.long (own_ord (1 : Int32) u0)), .second, .val (.long (own_ord (1 : Int32) u1)), .second] [(.int (1 : Int32))])) (fun target kt => ?_) ?_
      · show Steps p.tables e below (s₁.setTop (mkF m 18 #[.val (.long u0), .second, .val (.long u1), .second, .val (.int fl), .val (.int (1 : Int32)), .unset, .unset, .unset, .unset, .unset, .unset, .unset] [(.int (fl &&& (2 : Int32)))])) target
        refine XS.ifNo X0.here hx rfl (hb hby at_18) rfl ((if0 _ _).trans (feq hc18).1) ?_
        show Steps p.tables e below (s₁.setTop (mkF m 21 #[.val (.long u0), .second, .val (.long u1), .second, .val (.int fl), .val (.int (1 : Int32)), .unset, .unset, .unset, .unset, .unset, .unset, .unset] [])) target
        refine XS.iconst X0.here hx rfl (hb hby at_21) ?_
        show Steps p.tables e below (s₁.setTop (mkF m 22 #[.val (.long u0), .second, .val (.long u1), .second, .val (.int fl), .val (.int (1 : Int32)), .unset, .unset, .unset, .unset, .unset, .unset, .unset] [(.int (1 : Int32))])) target
        refine XS.goto X0.here hx rfl (pc0 := 22) (pc' := 26) rfl (hb hby at_22) (by decide) (by decide) ?_
        show Steps p.tables e below (s₁.setTop (mkF m 26 #[.val (.long u0), .second, .val (.long u1), .second, .val (.int fl), .val (.int (1 : Int32)), .unset, .unset, .unset, .unset, .unset, .unset, .unset] [(.int (1 : Int32))])) target
        refine XS.istore X0.here hx rfl (hb hby at_26) rfl (l' := #[.val (.long u0), .second, .val (.long u1), .second, .val (.int fl), .val (.int (1 : Int32)), .val (.int (1 : Int32)), .unset, .unset, .unset, .unset, .unset, .unset]) rfl ?_
        show Steps p.tables e below (s₁.setTop (mkF m 28 #[.val (.long u0), .second, .val (.long u1), .second, .val (.int fl), .val (.int (1 : Int32)), .val (.int (1 : Int32)), .unset, .unset, .unset, .unset, .unset, .unset] [])) target
        refine st_103 _ ?_
        show Steps p.tables e below (T_103.setTop (mkF m 31 #[.val (.long u0), .second, .val (.long u1), .second, .val (.int fl), .val (.int (1 : Int32)), .val (.int (1 : Int32)), .unset, .unset, .unset, .unset, .unset, .unset] [(.ref b_103)])) target
        refine XS.dup X_103.here hx rfl (hb hby at_31) rfl rfl ?_
        show Steps p.tables e below (T_103.setTop (mkF m 32 #[.val (.long u0), .second, .val (.long u1), .second, .val (.int fl), .val (.int (1 : Int32)), .val (.int (1 : Int32)), .unset, .unset, .unset, .unset, .unset, .unset] [(.ref b_103), (.ref b_103)])) target
        refine st_106.trans ?_
        show Steps p.tables e below (T_106.setTop (mkF m 35 #[.val (.long u0), .second, .val (.long u1), .second, .val (.int fl), .val (.int (1 : Int32)), .val (.int (1 : Int32)), .unset, .unset, .unset, .unset, .unset, .unset] [(.ref b_103)])) target
        refine XS.astore X_106.here hx rfl (hb hby at_35) rfl rfl (l' := #[.val (.long u0), .second, .val (.long u1), .second, .val (.int fl), .val (.int (1 : Int32)), .val (.int (1 : Int32)), .val (.ref b_103), .unset, .unset, .unset, .unset, .unset]) rfl ?_
        show Steps p.tables e below (T_106.setTop (mkF m 37 #[.val (.long u0), .second, .val (.long u1), .second, .val (.int fl), .val (.int (1 : Int32)), .val (.int (1 : Int32)), .val (.ref b_103), .unset, .unset, .unset, .unset, .unset] [])) target
        refine XS.aload X_106.here hx rfl (hb hby at_37) rfl rfl ?_
        show Steps p.tables e below (T_106.setTop (mkF m 39 #[.val (.long u0), .second, .val (.long u1), .second, .val (.int fl), .val (.int (1 : Int32)), .val (.int (1 : Int32)), .val (.ref b_103), .unset, .unset, .unset, .unset, .unset] [(.ref b_103)])) target
        refine XS.lloadN X_106.here hx rfl (hb hby at_39) rfl ?_
        show Steps p.tables e below (T_106.setTop (mkF m 40 #[.val (.long u0), .second, .val (.long u1), .second, .val (.int fl), .val (.int (1 : Int32)), .val (.int (1 : Int32)), .val (.ref b_103), .unset, .unset, .unset, .unset, .unset] [(.long u0), (.ref b_103)])) target
        refine st_107 _ ?_
        show Steps p.tables e below (T_107.setTop (mkF m 43 #[.val (.long u0), .second, .val (.long u1), .second, .val (.int fl), .val (.int (1 : Int32)), .val (.int (1 : Int32)), .val (.ref b_103), .unset, .unset, .unset, .unset, .unset] [])) target
        refine XS.aload X_107.here hx rfl (hb hby at_43) rfl rfl ?_
        show Steps p.tables e below (T_107.setTop (mkF m 45 #[.val (.long u0), .second, .val (.long u1), .second, .val (.int fl), .val (.int (1 : Int32)), .val (.int (1 : Int32)), .val (.ref b_103), .unset, .unset, .unset, .unset, .unset] [(.ref b_103)])) target
        refine XS.iload X_107.here hx rfl (hb hby at_45) rfl ?_
        show Steps p.tables e below (T_107.setTop (mkF m 47 #[.val (.long u0), .second, .val (.long u1), .second, .val (.int fl), .val (.int (1 : Int32)), .val (.int (1 : Int32)), .val (.ref b_103), .unset, .unset, .unset, .unset, .unset] [(.int (1 : Int32)), (.ref b_103)])) target
        refine st_112 _ ?_
        show Steps p.tables e below (T_112.setTop (mkF m 50 #[.val (.long u0), .second, .val (.long u1), .second, .val (.int fl), .val (.int (1 : Int32)), .val (.int (1 : Int32)), .val (.ref b_103), .unset, .unset, .unset, .unset, .unset] [])) target
        refine st_115 _ ?_
        show Steps p.tables e below (T_115.setTop (mkF m 53 #[.val (.long u0), .second, .val (.long u1), .second, .val (.int fl), .val (.int (1 : Int32)), .val (.int (1 : Int32)), .val (.ref b_103), .unset, .unset, .unset, .unset, .unset] [(.ref b_115)])) target
        refine XS.dup X_115.here hx rfl (hb hby at_53) rfl rfl ?_
        show Steps p.tables e below (T_115.setTop (mkF m 54 #[.val (.long u0), .second, .val (.long u1), .second, .val (.int fl), .val (.int (1 : Int32)), .val (.int (1 : Int32)), .val (.ref b_103), .unset, .unset, .unset, .unset, .unset] [(.ref b_115), (.ref b_115)])) target
        refine st_119.trans ?_
        show Steps p.tables e below (T_119.setTop (mkF m 57 #[.val (.long u0), .second, .val (.long u1), .second, .val (.int fl), .val (.int (1 : Int32)), .val (.int (1 : Int32)), .val (.ref b_103), .unset, .unset, .unset, .unset, .unset] [(.ref b_115)])) target
        refine XS.astore X_119.here hx rfl (hb hby at_57) rfl rfl (l' := #[.val (.long u0), .second, .val (.long u1), .second, .val (.int fl), .val (.int (1 : Int32)), .val (.int (1 : Int32)), .val (.ref b_103), .val (.ref b_115), .unset, .unset, .unset, .unset]) rfl ?_
        show Steps p.tables e below (T_119.setTop (mkF m 59 #[.val (.long u0), .second, .val (.long u1), .second, .val (.int fl), .val (.int (1 : Int32)), .val (.int (1 : Int32)), .val (.ref b_103), .val (.ref b_115), .unset, .unset, .unset, .unset] [])) target
        refine XS.aload X_119.here hx rfl (hb hby at_59) rfl rfl ?_
        show Steps p.tables e below (T_119.setTop (mkF m 61 #[.val (.long u0), .second, .val (.long u1), .second, .val (.int fl), .val (.int (1 : Int32)), .val (.int (1 : Int32)), .val (.ref b_103), .val (.ref b_115), .unset, .unset, .unset, .unset] [(.ref b_115)])) target
        refine XS.lloadN X_119.here hx rfl (hb hby at_61) rfl ?_
        show Steps p.tables e below (T_119.setTop (mkF m 62 #[.val (.long u0), .second, .val (.long u1), .second, .val (.int fl), .val (.int (1 : Int32)), .val (.int (1 : Int32)), .val (.ref b_103), .val (.ref b_115), .unset, .unset, .unset, .unset] [(.long u1), (.ref b_115)])) target
        refine st_120 _ ?_
        show Steps p.tables e below (T_120.setTop (mkF m 65 #[.val (.long u0), .second, .val (.long u1), .second, .val (.int fl), .val (.int (1 : Int32)), .val (.int (1 : Int32)), .val (.ref b_103), .val (.ref b_115), .unset, .unset, .unset, .unset] [])) target
        refine XS.aload X_120.here hx rfl (hb hby at_65) rfl rfl ?_
        show Steps p.tables e below (T_120.setTop (mkF m 67 #[.val (.long u0), .second, .val (.long u1), .second, .val (.int fl), .val (.int (1 : Int32)), .val (.int (1 : Int32)), .val (.ref b_103), .val (.ref b_115), .unset, .unset, .unset, .unset] [(.ref b_115)])) target
        refine XS.iload X_120.here hx rfl (hb hby at_67) rfl ?_
        show Steps p.tables e below (T_120.setTop (mkF m 69 #[.val (.long u0), .second, .val (.long u1), .second, .val (.int fl), .val (.int (1 : Int32)), .val (.int (1 : Int32)), .val (.ref b_103), .val (.ref b_115), .unset, .unset, .unset, .unset] [(.int (1 : Int32)), (.ref b_115)])) target
        refine st_125 _ ?_
        show Steps p.tables e below (T_125.setTop (mkF m 72 #[.val (.long u0), .second, .val (.long u1), .second, .val (.int fl), .val (.int (1 : Int32)), .val (.int (1 : Int32)), .val (.ref b_103), .val (.ref b_115), .unset, .unset, .unset, .unset] [])) target
        refine XS.aload X_125.here hx rfl (hb hby at_72) rfl rfl ?_
        show Steps p.tables e below (T_125.setTop (mkF m 74 #[.val (.long u0), .second, .val (.long u1), .second, .val (.int fl), .val (.int (1 : Int32)), .val (.int (1 : Int32)), .val (.ref b_103), .val (.ref b_115), .unset, .unset, .unset, .unset] [(.ref b_103)])) target
        refine st_128 _ ?_
        show Steps p.tables e below (T_128.setTop (mkF m 77 #[.val (.long u0), .second, .val (.long u1), .second, .val (.int fl), .val (.int (1 : Int32)), .val (.int (1 : Int32)), .val (.ref b_103), .val (.ref b_115), .unset, .unset, .unset, .unset] [(.long (own_ord (1 : Int32) u0))])) target
        refine XS.lstore X_128.here hx rfl (hb hby at_77) rfl (l' := #[.val (.long u0), .second, .val (.long u1), .second, .val (.int fl), .val (.int (1 : Int32)), .val (.int (1 : Int32)), .val (.ref b_103), .val (.ref b_115), .val (.long (own_ord (1 : Int32) u0)), .second, .unset, .unset]) rfl ?_
        show Steps p.tables e below (T_128.setTop (mkF m 79 #[.val (.long u0), .second, .val (.long u1), .second, .val (.int fl), .val (.int (1 : Int32)), .val (.int (1 : Int32)), .val (.ref b_103), .val (.ref b_115), .val (.long (own_ord (1 : Int32) u0)), .second, .unset, .unset] [])) target
        refine XS.aload X_128.here hx rfl (hb hby at_79) rfl rfl ?_
        show Steps p.tables e below (T_128.setTop (mkF m 81 #[.val (.long u0), .second, .val (.long u1), .second, .val (.int fl), .val (.int (1 : Int32)), .val (.int (1 : Int32)), .val (.ref b_103), .val (.ref b_115), .val (.long (own_ord (1 : Int32) u0)), .second, .unset, .unset] [(.ref b_115)])) target
        refine st_131 _ ?_
        show Steps p.tables e below (T_131.setTop (mkF m 84 #[.val (.long u0), .second, .val (.long u1), .second, .val (.int fl), .val (.int (1 : Int32)), .val (.int (1 : Int32)), .val (.ref b_103), .val (.ref b_115), .val (.long (own_ord (1 : Int32) u0)), .second, .unset, .unset] [(.long (own_ord (1 : Int32) u1))])) target
        refine XS.lstore X_131.here hx rfl (hb hby at_84) rfl (l' := #[.val (.long u0), .second, .val (.long u1), .second, .val (.int fl), .val (.int (1 : Int32)), .val (.int (1 : Int32)), .val (.ref b_103), .val (.ref b_115), .val (.long (own_ord (1 : Int32) u0)), .second, .val (.long (own_ord (1 : Int32) u1)), .second]) rfl ?_
        show Steps p.tables e below (T_131.setTop (mkF m 86 #[.val (.long u0), .second, .val (.long u1), .second, .val (.int fl), .val (.int (1 : Int32)), .val (.int (1 : Int32)), .val (.ref b_103), .val (.ref b_115), .val (.long (own_ord (1 : Int32) u0)), .second, .val (.long (own_ord (1 : Int32) u1)), .second] [])) target
        refine XS.aload X_131.here hx rfl (hb hby at_86) rfl rfl ?_
        show Steps p.tables e below (T_131.setTop (mkF m 88 #[.val (.long u0), .second, .val (.long u1), .second, .val (.int fl), .val (.int (1 : Int32)), .val (.int (1 : Int32)), .val (.ref b_103), .val (.ref b_115), .val (.long (own_ord (1 : Int32) u0)), .second, .val (.long (own_ord (1 : Int32) u1)), .second] [(.ref b_103)])) target
        refine st_133 _ ?_
        show Steps p.tables e below (T_133.setTop (mkF m 91 #[.val (.long u0), .second, .val (.long u1), .second, .val (.int fl), .val (.int (1 : Int32)), .val (.int (1 : Int32)), .val (.ref b_103), .val (.ref b_115), .val (.long (own_ord (1 : Int32) u0)), .second, .val (.long (own_ord (1 : Int32) u1)), .second] [(.long u0)])) target
        refine XS.lloadN X_133.here hx rfl (hb hby at_91) rfl ?_
        show Steps p.tables e below (T_133.setTop (mkF m 92 #[.val (.long u0), .second, .val (.long u1), .second, .val (.int fl), .val (.int (1 : Int32)), .val (.int (1 : Int32)), .val (.ref b_103), .val (.ref b_115), .val (.long (own_ord (1 : Int32) u0)), .second, .val (.long (own_ord (1 : Int32) u1)), .second] [(.long u0), (.long u0)])) target
        refine XS.lcmp X_133.here hx rfl (hb hby at_92) rfl ?_
        show Steps p.tables e below (T_133.setTop (mkF m 93 #[.val (.long u0), .second, .val (.long u1), .second, .val (.int fl), .val (.int (1 : Int32)), .val (.int (1 : Int32)), .val (.ref b_103), .val (.ref b_115), .val (.long (own_ord (1 : Int32) u0)), .second, .val (.long (own_ord (1 : Int32) u1)), .second] [(.int (lcmpW u0 u0))])) target
        refine XS.ifNo X_133.here hx rfl (hb hby at_93) rfl ((if0 _ _).trans (teq (own_l1 (rfl : u0 = u0))).2) ?_
        show Steps p.tables e below (T_133.setTop (mkF m 96 #[.val (.long u0), .second, .val (.long u1), .second, .val (.int fl), .val (.int (1 : Int32)), .val (.int (1 : Int32)), .val (.ref b_103), .val (.ref b_115), .val (.long (own_ord (1 : Int32) u0)), .second, .val (.long (own_ord (1 : Int32) u1)), .second] [])) target
        refine XS.aload X_133.here hx rfl (hb hby at_96) rfl rfl ?_
        show Steps p.tables e below (T_133.setTop (mkF m 98 #[.val (.long u0), .second, .val (.long u1), .second, .val (.int fl), .val (.int (1 : Int32)), .val (.int (1 : Int32)), .val (.ref b_103), .val (.ref b_115), .val (.long (own_ord (1 : Int32) u0)), .second, .val (.long (own_ord (1 : Int32) u1)), .second] [(.ref b_103)])) target
        refine st_134 _ ?_
        show Steps p.tables e below (T_134.setTop (mkF m 101 #[.val (.long u0), .second, .val (.long u1), .second, .val (.int fl), .val (.int (1 : Int32)), .val (.int (1 : Int32)), .val (.ref b_103), .val (.ref b_115), .val (.long (own_ord (1 : Int32) u0)), .second, .val (.long (own_ord (1 : Int32) u1)), .second] [(.int (1 : Int32))])) target
        refine XS.iload X_134.here hx rfl (hb hby at_101) rfl ?_
        show Steps p.tables e below (T_134.setTop (mkF m 103 #[.val (.long u0), .second, .val (.long u1), .second, .val (.int fl), .val (.int (1 : Int32)), .val (.int (1 : Int32)), .val (.ref b_103), .val (.ref b_115), .val (.long (own_ord (1 : Int32) u0)), .second, .val (.long (own_ord (1 : Int32) u1)), .second] [(.int (1 : Int32)), (.int (1 : Int32))])) target
        refine XS.icmpNo X_134.here hx rfl (hb hby at_103) rfl (teq (by decide : (1 : Int32) = (1 : Int32))).2 ?_
        show Steps p.tables e below (T_134.setTop (mkF m 106 #[.val (.long u0), .second, .val (.long u1), .second, .val (.int fl), .val (.int (1 : Int32)), .val (.int (1 : Int32)), .val (.ref b_103), .val (.ref b_115), .val (.long (own_ord (1 : Int32) u0)), .second, .val (.long (own_ord (1 : Int32) u1)), .second] [])) target
        refine XS.aload X_134.here hx rfl (hb hby at_106) rfl rfl ?_
        show Steps p.tables e below (T_134.setTop (mkF m 108 #[.val (.long u0), .second, .val (.long u1), .second, .val (.int fl), .val (.int (1 : Int32)), .val (.int (1 : Int32)), .val (.ref b_103), .val (.ref b_115), .val (.long (own_ord (1 : Int32) u0)), .second, .val (.long (own_ord (1 : Int32) u1)), .second] [(.ref b_115)])) target
        refine st_135 _ ?_
        show Steps p.tables e below (T_135.setTop (mkF m 111 #[.val (.long u0), .second, .val (.long u1), .second, .val (.int fl), .val (.int (1 : Int32)), .val (.int (1 : Int32)), .val (.ref b_103), .val (.ref b_115), .val (.long (own_ord (1 : Int32) u0)), .second, .val (.long (own_ord (1 : Int32) u1)), .second] [(.long u1)])) target
        refine XS.lloadN X_135.here hx rfl (hb hby at_111) rfl ?_
        show Steps p.tables e below (T_135.setTop (mkF m 112 #[.val (.long u0), .second, .val (.long u1), .second, .val (.int fl), .val (.int (1 : Int32)), .val (.int (1 : Int32)), .val (.ref b_103), .val (.ref b_115), .val (.long (own_ord (1 : Int32) u0)), .second, .val (.long (own_ord (1 : Int32) u1)), .second] [(.long u1), (.long u1)])) target
        refine XS.lcmp X_135.here hx rfl (hb hby at_112) rfl ?_
        show Steps p.tables e below (T_135.setTop (mkF m 113 #[.val (.long u0), .second, .val (.long u1), .second, .val (.int fl), .val (.int (1 : Int32)), .val (.int (1 : Int32)), .val (.ref b_103), .val (.ref b_115), .val (.long (own_ord (1 : Int32) u0)), .second, .val (.long (own_ord (1 : Int32) u1)), .second] [(.int (lcmpW u1 u1))])) target
        refine XS.ifNo X_135.here hx rfl (hb hby at_113) rfl ((if0 _ _).trans (teq (own_l1 (rfl : u1 = u1))).2) ?_
        show Steps p.tables e below (T_135.setTop (mkF m 116 #[.val (.long u0), .second, .val (.long u1), .second, .val (.int fl), .val (.int (1 : Int32)), .val (.int (1 : Int32)), .val (.ref b_103), .val (.ref b_115), .val (.long (own_ord (1 : Int32) u0)), .second, .val (.long (own_ord (1 : Int32) u1)), .second] [])) target
        refine XS.aload X_135.here hx rfl (hb hby at_116) rfl rfl ?_
        show Steps p.tables e below (T_135.setTop (mkF m 118 #[.val (.long u0), .second, .val (.long u1), .second, .val (.int fl), .val (.int (1 : Int32)), .val (.int (1 : Int32)), .val (.ref b_103), .val (.ref b_115), .val (.long (own_ord (1 : Int32) u0)), .second, .val (.long (own_ord (1 : Int32) u1)), .second] [(.ref b_115)])) target
        refine st_136 _ ?_
        show Steps p.tables e below (T_136.setTop (mkF m 121 #[.val (.long u0), .second, .val (.long u1), .second, .val (.int fl), .val (.int (1 : Int32)), .val (.int (1 : Int32)), .val (.ref b_103), .val (.ref b_115), .val (.long (own_ord (1 : Int32) u0)), .second, .val (.long (own_ord (1 : Int32) u1)), .second] [(.int (1 : Int32))])) target
        refine XS.iload X_136.here hx rfl (hb hby at_121) rfl ?_
        show Steps p.tables e below (T_136.setTop (mkF m 123 #[.val (.long u0), .second, .val (.long u1), .second, .val (.int fl), .val (.int (1 : Int32)), .val (.int (1 : Int32)), .val (.ref b_103), .val (.ref b_115), .val (.long (own_ord (1 : Int32) u0)), .second, .val (.long (own_ord (1 : Int32) u1)), .second] [(.int (1 : Int32)), (.int (1 : Int32))])) target
        refine XS.icmpYes X_136.here hx rfl (pc0 := 123) (pc' := 128) rfl (hb hby at_123) rfl (teq (by decide : (1 : Int32) = (1 : Int32))).1 (by decide) (by decide) ?_
        show Steps p.tables e below (T_136.setTop (mkF m 128 #[.val (.long u0), .second, .val (.long u1), .second, .val (.int fl), .val (.int (1 : Int32)), .val (.int (1 : Int32)), .val (.ref b_103), .val (.ref b_115), .val (.long (own_ord (1 : Int32) u0)), .second, .val (.long (own_ord (1 : Int32) u1)), .second] [])) target
        refine XS.iload X_136.here hx rfl (hb hby at_128) rfl ?_
        show Steps p.tables e below (T_136.setTop (mkF m 130 #[.val (.long u0), .second, .val (.long u1), .second, .val (.int fl), .val (.int (1 : Int32)), .val (.int (1 : Int32)), .val (.ref b_103), .val (.ref b_115), .val (.long (own_ord (1 : Int32) u0)), .second, .val (.long (own_ord (1 : Int32) u1)), .second] [(.int (1 : Int32))])) target
        refine XS.ifNo X_136.here hx rfl (hb hby at_130) rfl ((if0 _ _).trans (feq (by decide : ¬ ((1 : Int32) = (0 : Int32)))).1) ?_
        show Steps p.tables e below (T_136.setTop (mkF m 133 #[.val (.long u0), .second, .val (.long u1), .second, .val (.int fl), .val (.int (1 : Int32)), .val (.int (1 : Int32)), .val (.ref b_103), .val (.ref b_115), .val (.long (own_ord (1 : Int32) u0)), .second, .val (.long (own_ord (1 : Int32) u1)), .second] [])) target
        refine XS.lload X_136.here hx rfl (hb hby at_133) rfl ?_
        show Steps p.tables e below (T_136.setTop (mkF m 135 #[.val (.long u0), .second, .val (.long u1), .second, .val (.int fl), .val (.int (1 : Int32)), .val (.int (1 : Int32)), .val (.ref b_103), .val (.ref b_115), .val (.long (own_ord (1 : Int32) u0)), .second, .val (.long (own_ord (1 : Int32) u1)), .second] [(.long (own_ord (1 : Int32) u0))])) target
        refine X_136.ldc2Long hx hown (mvT hZ (hw _ (List.mem_of_getElem? (i := 20) rfl))) (g := (mkF m 135 #[.val (.long u0), .second, .val (.long u1), .second, .val (.int fl), .val (.int (1 : Int32)), .val (.int (1 : Int32)), .val (.ref b_103), .val (.ref b_115), .val (.long (own_ord (1 : Int32) u0)), .second, .val (.long (own_ord (1 : Int32) u1)), .second] [(.long (own_ord (1 : Int32) u0))])) rfl (hb hby at_135) _ ?_
        show Steps p.tables e below (T_136.setTop (mkF m 138 #[.val (.long u0), .second, .val (.long u1), .second, .val (.int fl), .val (.int (1 : Int32)), .val (.int (1 : Int32)), .val (.ref b_103), .val (.ref b_115), .val (.long (own_ord (1 : Int32) u0)), .second, .val (.long (own_ord (1 : Int32) u1)), .second] [(.long (-9223372036854775808 : Int64)), (.long (own_ord (1 : Int32) u0))])) target
        refine XS.lcmp X_136.here hx rfl (hb hby at_138) rfl ?_
        show Steps p.tables e below (T_136.setTop (mkF m 139 #[.val (.long u0), .second, .val (.long u1), .second, .val (.int fl), .val (.int (1 : Int32)), .val (.int (1 : Int32)), .val (.ref b_103), .val (.ref b_115), .val (.long (own_ord (1 : Int32) u0)), .second, .val (.long (own_ord (1 : Int32) u1)), .second] [(.int (lcmpW (own_ord (1 : Int32) u0) (-9223372036854775808 : Int64)))])) target
        refine XS.ifYes X_136.here hx rfl (pc0 := 139) (pc' := 153) rfl (hb hby at_139) rfl ((if0 _ _).trans (teq (own_l1 (own_ord1 _ : (own_ord (1 : Int32) u0) = (-9223372036854775808 : Int64)))).1) (by decide) (by decide) ?_
        show Steps p.tables e below (T_136.setTop (mkF m 153 #[.val (.long u0), .second, .val (.long u1), .second, .val (.int fl), .val (.int (1 : Int32)), .val (.int (1 : Int32)), .val (.ref b_103), .val (.ref b_115), .val (.long (own_ord (1 : Int32) u0)), .second, .val (.long (own_ord (1 : Int32) u1)), .second] [])) target
        refine XS.iload X_136.here hx rfl (hb hby at_153) rfl ?_
        show Steps p.tables e below (T_136.setTop (mkF m 155 #[.val (.long u0), .second, .val (.long u1), .second, .val (.int fl), .val (.int (1 : Int32)), .val (.int (1 : Int32)), .val (.ref b_103), .val (.ref b_115), .val (.long (own_ord (1 : Int32) u0)), .second, .val (.long (own_ord (1 : Int32) u1)), .second] [(.int (1 : Int32))])) target
        refine XS.ifNo X_136.here hx rfl (hb hby at_155) rfl ((if0 _ _).trans (feq (by decide : ¬ ((1 : Int32) = (0 : Int32)))).1) ?_
        show Steps p.tables e below (T_136.setTop (mkF m 158 #[.val (.long u0), .second, .val (.long u1), .second, .val (.int fl), .val (.int (1 : Int32)), .val (.int (1 : Int32)), .val (.ref b_103), .val (.ref b_115), .val (.long (own_ord (1 : Int32) u0)), .second, .val (.long (own_ord (1 : Int32) u1)), .second] [])) target
        refine XS.lload X_136.here hx rfl (hb hby at_158) rfl ?_
        show Steps p.tables e below (T_136.setTop (mkF m 160 #[.val (.long u0), .second, .val (.long u1), .second, .val (.int fl), .val (.int (1 : Int32)), .val (.int (1 : Int32)), .val (.ref b_103), .val (.ref b_115), .val (.long (own_ord (1 : Int32) u0)), .second, .val (.long (own_ord (1 : Int32) u1)), .second] [(.long (own_ord (1 : Int32) u1))])) target
        refine X_136.ldc2Long hx hown (mvT hZ (hw _ (List.mem_of_getElem? (i := 20) rfl))) (g := (mkF m 160 #[.val (.long u0), .second, .val (.long u1), .second, .val (.int fl), .val (.int (1 : Int32)), .val (.int (1 : Int32)), .val (.ref b_103), .val (.ref b_115), .val (.long (own_ord (1 : Int32) u0)), .second, .val (.long (own_ord (1 : Int32) u1)), .second] [(.long (own_ord (1 : Int32) u1))])) rfl (hb hby at_160) _ ?_
        show Steps p.tables e below (T_136.setTop (mkF m 163 #[.val (.long u0), .second, .val (.long u1), .second, .val (.int fl), .val (.int (1 : Int32)), .val (.int (1 : Int32)), .val (.ref b_103), .val (.ref b_115), .val (.long (own_ord (1 : Int32) u0)), .second, .val (.long (own_ord (1 : Int32) u1)), .second] [(.long (-9223372036854775808 : Int64)), (.long (own_ord (1 : Int32) u1))])) target
        refine XS.lcmp X_136.here hx rfl (hb hby at_163) rfl ?_
        show Steps p.tables e below (T_136.setTop (mkF m 164 #[.val (.long u0), .second, .val (.long u1), .second, .val (.int fl), .val (.int (1 : Int32)), .val (.int (1 : Int32)), .val (.ref b_103), .val (.ref b_115), .val (.long (own_ord (1 : Int32) u0)), .second, .val (.long (own_ord (1 : Int32) u1)), .second] [(.int (lcmpW (own_ord (1 : Int32) u1) (-9223372036854775808 : Int64)))])) target
        refine XS.ifYes X_136.here hx rfl (pc0 := 164) (pc' := 178) rfl (hb hby at_164) rfl ((if0 _ _).trans (teq (own_l1 (own_ord1 _ : (own_ord (1 : Int32) u1) = (-9223372036854775808 : Int64)))).1) (by decide) (by decide) ?_
        show Steps p.tables e below (T_136.setTop (mkF m 178 #[.val (.long u0), .second, .val (.long u1), .second, .val (.int fl), .val (.int (1 : Int32)), .val (.int (1 : Int32)), .val (.ref b_103), .val (.ref b_115), .val (.long (own_ord (1 : Int32) u0)), .second, .val (.long (own_ord (1 : Int32) u1)), .second] [])) target
        refine XS.iload X_136.here hx rfl (hb hby at_178) rfl ?_
        show Steps p.tables e below (T_136.setTop (mkF m 180 #[.val (.long u0), .second, .val (.long u1), .second, .val (.int fl), .val (.int (1 : Int32)), .val (.int (1 : Int32)), .val (.ref b_103), .val (.ref b_115), .val (.long (own_ord (1 : Int32) u0)), .second, .val (.long (own_ord (1 : Int32) u1)), .second] [(.int (1 : Int32))])) target
        refine XS.ifNo X_136.here hx rfl (hb hby at_180) rfl ((if0 _ _).trans (feq (by decide : ¬ ((1 : Int32) = (0 : Int32)))).1) ?_
        show Steps p.tables e below (T_136.setTop (mkF m 183 #[.val (.long u0), .second, .val (.long u1), .second, .val (.int fl), .val (.int (1 : Int32)), .val (.int (1 : Int32)), .val (.ref b_103), .val (.ref b_115), .val (.long (own_ord (1 : Int32) u0)), .second, .val (.long (own_ord (1 : Int32) u1)), .second] [])) target
        refine XS.lload X_136.here hx rfl (hb hby at_183) rfl ?_
        show Steps p.tables e below (T_136.setTop (mkF m 185 #[.val (.long u0), .second, .val (.long u1), .second, .val (.int fl), .val (.int (1 : Int32)), .val (.int (1 : Int32)), .val (.ref b_103), .val (.ref b_115), .val (.long (own_ord (1 : Int32) u0)), .second, .val (.long (own_ord (1 : Int32) u1)), .second] [(.long (own_ord (1 : Int32) u0))])) target
        refine XS.lload X_136.here hx rfl (hb hby at_185) rfl ?_
        show Steps p.tables e below (T_136.setTop (mkF m 187 #[.val (.long u0), .second, .val (.long u1), .second, .val (.int fl), .val (.int (1 : Int32)), .val (.int (1 : Int32)), .val (.ref b_103), .val (.ref b_115), .val (.long (own_ord (1 : Int32) u0)), .second, .val (.long (own_ord (1 : Int32) u1)), .second] [(.long (own_ord (1 : Int32) u1)), (.long (own_ord (1 : Int32) u0))])) target
        refine XS.lcmp X_136.here hx rfl (hb hby at_187) rfl ?_
        show Steps p.tables e below (T_136.setTop (mkF m 188 #[.val (.long u0), .second, .val (.long u1), .second, .val (.int fl), .val (.int (1 : Int32)), .val (.int (1 : Int32)), .val (.ref b_103), .val (.ref b_115), .val (.long (own_ord (1 : Int32) u0)), .second, .val (.long (own_ord (1 : Int32) u1)), .second] [(.int (lcmpW (own_ord (1 : Int32) u0) (own_ord (1 : Int32) u1)))])) target
        refine XS.ifYes X_136.here hx rfl (pc0 := 188) (pc' := 193) rfl (hb hby at_188) rfl ((if0 _ _).trans (flt (own_l6 (own_nlt _ _ : ¬ ((own_ord (1 : Int32) u1) < (own_ord (1 : Int32) u0))))).2.2.2) (by decide) (by decide) ?_
        show Steps p.tables e below (T_136.setTop (mkF m 193 #[.val (.long u0), .second, .val (.long u1), .second, .val (.int fl), .val (.int (1 : Int32)), .val (.int (1 : Int32)), .val (.ref b_103), .val (.ref b_115), .val (.long (own_ord (1 : Int32) u0)), .second, .val (.long (own_ord (1 : Int32) u1)), .second] [])) target
        refine XS.iload X_136.here hx rfl (hb hby at_193) rfl ?_
        show Steps p.tables e below (T_136.setTop (mkF m 195 #[.val (.long u0), .second, .val (.long u1), .second, .val (.int fl), .val (.int (1 : Int32)), .val (.int (1 : Int32)), .val (.ref b_103), .val (.ref b_115), .val (.long (own_ord (1 : Int32) u0)), .second, .val (.long (own_ord (1 : Int32) u1)), .second] [(.int (1 : Int32))])) target
        refine XS.ifNo X_136.here hx rfl (hb hby at_195) rfl ((if0 _ _).trans (feq (by decide : ¬ ((1 : Int32) = (0 : Int32)))).1) ?_
        show Steps p.tables e below (T_136.setTop (mkF m 198 #[.val (.long u0), .second, .val (.long u1), .second, .val (.int fl), .val (.int (1 : Int32)), .val (.int (1 : Int32)), .val (.ref b_103), .val (.ref b_115), .val (.long (own_ord (1 : Int32) u0)), .second, .val (.long (own_ord (1 : Int32) u1)), .second] [])) target
        refine XS.lload X_136.here hx rfl (hb hby at_198) rfl ?_
        show Steps p.tables e below (T_136.setTop (mkF m 200 #[.val (.long u0), .second, .val (.long u1), .second, .val (.int fl), .val (.int (1 : Int32)), .val (.int (1 : Int32)), .val (.ref b_103), .val (.ref b_115), .val (.long (own_ord (1 : Int32) u0)), .second, .val (.long (own_ord (1 : Int32) u1)), .second] [(.long (own_ord (1 : Int32) u1))])) target
        refine XS.lload X_136.here hx rfl (hb hby at_200) rfl ?_
        show Steps p.tables e below (T_136.setTop (mkF m 202 #[.val (.long u0), .second, .val (.long u1), .second, .val (.int fl), .val (.int (1 : Int32)), .val (.int (1 : Int32)), .val (.ref b_103), .val (.ref b_115), .val (.long (own_ord (1 : Int32) u0)), .second, .val (.long (own_ord (1 : Int32) u1)), .second] [(.long (own_ord (1 : Int32) u0)), (.long (own_ord (1 : Int32) u1))])) target
        refine XS.lcmp X_136.here hx rfl (hb hby at_202) rfl ?_
        show Steps p.tables e below (T_136.setTop (mkF m 203 #[.val (.long u0), .second, .val (.long u1), .second, .val (.int fl), .val (.int (1 : Int32)), .val (.int (1 : Int32)), .val (.ref b_103), .val (.ref b_115), .val (.long (own_ord (1 : Int32) u0)), .second, .val (.long (own_ord (1 : Int32) u1)), .second] [(.int (lcmpW (own_ord (1 : Int32) u1) (own_ord (1 : Int32) u0)))])) target
        refine XS.ifYes X_136.here hx rfl (pc0 := 203) (pc' := 208) rfl (hb hby at_203) rfl ((if0 _ _).trans (flt (own_l6 (own_nlt _ _ : ¬ ((own_ord (1 : Int32) u0) < (own_ord (1 : Int32) u1))))).2.2.2) (by decide) (by decide) ?_
        show Steps p.tables e below (T_136.setTop (mkF m 208 #[.val (.long u0), .second, .val (.long u1), .second, .val (.int fl), .val (.int (1 : Int32)), .val (.int (1 : Int32)), .val (.ref b_103), .val (.ref b_115), .val (.long (own_ord (1 : Int32) u0)), .second, .val (.long (own_ord (1 : Int32) u1)), .second] [])) target
        refine XS.iconst X_136.here hx rfl (hb hby at_208) ?_
        show Steps p.tables e below (T_136.setTop (mkF m 209 #[.val (.long u0), .second, .val (.long u1), .second, .val (.int fl), .val (.int (1 : Int32)), .val (.int (1 : Int32)), .val (.ref b_103), .val (.ref b_115), .val (.long (own_ord (1 : Int32) u0)), .second, .val (.long (own_ord (1 : Int32) u1)), .second] [(.int (1 : Int32))])) target
        exact kt
      obtain ⟨fs, hr, hrun, hended, hW, hsame⟩ := X_136.leave (v := some (.int (1 : Int32))) (fun h => by rw [Bd.returns] at h; cases h)
      refine ⟨_, _, retN X_136 hx (t := .boolean) Bd.returns (by simp) (hb hby at_209) hr, hrun, hended, _, _, rfl, ?_, ⟨_, rfl⟩, hW, hsame.mono (by decide) (by decide)⟩
      show Q_law Z u0 u1 fl h0 n0 _ T_136.heap _
      rw [e_136]
      exact ⟨rfl, N_131⟩
set_option maxRecDepth 65536 in
set_option maxHeartbeats 40000000 in
theorem comes_1 {Post : Tables → Env → Array Value → State → Outcome → State → Prop} (hpost : ∀ tb e args s v u, (limb_1_1.after args s (.returned v) u = true ∧ limb_1_2.after args s (.returned v) u = true ∧ True) → FrameEnd s (.returned v) u (Jvm.fieldLocs frame_1_writes args s ++ Jvm.arrayLocs frame_1_arrays args s ++ Jvm.staticLocs frame_1_statics s) 16 128 → Post tb e args s (.returned v) u) :
    ArmFor flags0 classFile x code maxLocals ret World_1 tables_1 room_1 Calls_1 rest_1 Pre_1 Post := by
  intro l hfl _ _ p e ha hc hk s m args below hf hA hF happ hP
  obtain ⟨hcalls, hrest, hpre⟩ := hP
  obtain ⟨-, -, -, hnamed, -, -, -, hat⟩ := (Spec.applies_iff hf).mp happ
  obtain ⟨hg, hn⟩ := and_e (Cond.before_iff.mp (show (Jvm.Cond.and given_1 narrow_1).before args s = true from hpre))
  obtain ⟨gc0, gd0⟩ := and_e hg
  obtain ⟨gc1, gd1⟩ := and_e gd0
  obtain ⟨gc2, gd2⟩ := and_e gd1
  obtain ⟨w0, w1, w2, rfl⟩ : ∃ w0 w1 w2 : Value, args = #[w0, w1, w2] := by
    have hs : args.size = 3 := by simpa [Cond.value, given_1] using gc0
    obtain ⟨L⟩ := args
    match L, hs with
    | [w0, w1, w2], _ => exact ⟨w0, w1, w2, rfl⟩
  have hw := fun d (hd : d ∈ tables_1) => atoms_spec (ws := Jvm.Cond.code x code maxLocals ret :: tables_1) hat d (List.mem_cons_of_mem _ hd)
  obtain ⟨i0, ei0⟩ := isL_v gc1
  obtain rfl : w0 = (.long i0) := Option.some.inj ei0
  obtain ⟨i1, ei1⟩ := isL_v gc2
  obtain rfl : w1 = (.long i1) := Option.some.inj ei1
  obtain ⟨i2, ei2⟩ := is_v gd2
  obtain rfl : w2 = (.int i2) := Option.some.inj ei2
  obtain ⟨n, o, h1, h2, h3, _, L, rfl, ⟨rfl, N⟩, hq⟩ := rm_law l s _ hw tables_1 i0 i1 i2 s.heap s.heap.size (Nat.le_refl _) p e ha hc hk s m _ below hf ((Spec.applies_iff_loose hf).mp happ).1 ⟨rfl, State.Warmed39.refl s, rfl⟩ trivial
  refine ⟨n, _, h1, h2, h3, hpost _ _ _ _ _ _ ⟨Cond.after_iff.mpr rfl, Cond.after_iff.mpr (eq_i res_at (Term.int_eval (1)) rfl), trivial⟩ ⟨hq.1, hq.2.1, (hq.2.2.sift fun y hy => Or.inr (N y hy)).mono (by decide) (by decide)⟩⟩
theorem main_1_1 : Claimed_1_1 := comes_1 fun _ _ _ _ _ _ h hF => ⟨h.1, hF⟩
theorem main_1_2 : Claimed_1_2 := comes_1 fun _ _ _ _ _ _ h hF => ⟨h.2.1, hF⟩
end Jvm.Pilot.@@N@@
namespace Jvm.Pilot.@@N@@
open Jvm Jvm.ClassFile Sem Op Lib Jvm.Free Jvm.Stand Jvm.Pilot.@@N@@.Jvm.D
/-! MADE BY PROGRAM (witnessworld.py) out of the Statement's table words and the real class files: 10 classes; the members and pool entries that the words name. The judged class is class 1, her method 1. -/
namespace start1
open Jvm.ClassFile
def u (s : String) : CpInfo := .utf8 (stringToUtf16 s)
/-- a pool by its gaps: so many unusable entries, then the entry; so many at the end -/
def gap : Nat → List CpInfo → List CpInfo
  | 0, r => r
  | n + 1, r => .unusable :: gap n r
def poolList (es : List (Nat × CpInfo)) (last : Nat) : List CpInfo := es.foldr (fun e r => gap e.1 (e.2 :: r)) (gap last [])
def pool (es : List (Nat × CpInfo)) (last : Nat) : Array CpInfo := ⟨poolList es last⟩
def fileOf (pool : Array CpInfo) (this : Nat) (attrs : Array Attribute := #[]) (ms : Array MethodInfo := #[]) (fl : Nat := 33) (sup : Nat := 0) (ifs : Array Nat := #[]) (fds : Array FieldInfo := #[]) : ClassFile where
  minorVersion := 0
  majorVersion := 65
  constantPool := pool
  accessFlags := fl
  thisClass := this
  superClass := sup
  interfaces := ifs
  fields := fds
  methods := ms
  attributes := attrs
def plain (name : String) (sup : Option ClassId) : Class where
  name := name
  kind := .ordinary
  loader := none
  accessFlags := 33
  super := sup
  interfaces := #[]
  cf := none
  fields := #[]
  methods := #[]
  instanceTypes := #[]
  staticTypes := #[]
  resolved := #[]
  callSites := []
  init := .initialized
  statics := none
  mirror := none

def pool0 : Array CpInfo := pool [(5, u "<init>"), (0, u "()V"), (1, .class_ 10), (1, u "java/lang/Object")] 113

def k0c0 : Code := { maxStack := 0, maxLocals := 1, code := object_method_1_code, exceptionTable := #[], attributes := #[] }
def k0m0 : Method := { name := "<init>", desc := "()V", sig := { parameters := [], returnType := none }, accessFlags := 1, code := some k0c0 }
/-- java/lang/Object -/
def k0 : Class := { plain "java/lang/Object" none with
  accessFlags := 33
  interfaces := #[]
  cf := some (fileOf pool0 8 #[] #[{ accessFlags := 1, nameIndex := 5, descriptorIndex := 6, attributes := #[] }] 33 0 #[] #[])
  fields := #[]
  methods := #[k0m0]
  instanceTypes := #[]
  staticTypes := #[]
  resolved := Array.replicate 124 none
  statics := none }

def pool1 : Array CpInfo := pool [(2, .class_ 4), (0, .nameAndType 5 6), (0, u "java/lang/Object"), (0, u "<init>"), (0, u "()V"), (0, .class_ 8), (0, u "com/example/carillon/carillon/Message"), (0, .methodref 7 3), (0, .fieldref 7 11), (0, .nameAndType 12 13), (0, u "when"), (0, u "J"), (0, .fieldref 7 15), (0, .nameAndType 16 17), (0, u "atFront"), (0, u "Z"), (0, .methodref 19 20), (0, .class_ 21), (0, .nameAndType 22 23), (0, u "com/example/carillon/carillon/Chain"), (0, u "orderOf"), (0, u "(Lcom/example/carillon/carillon/Message;)J"), (2, .long 9223372036854775808), (1, .class_ 29), (0, u "com/example/carillon/carillon/ChainOrderOfPinLaw"), (2, u "law"), (0, u "(JJI)Z")] 3

def k1m0 : Method := { name := "<init>", desc := "()V", sig := { parameters := [], returnType := none }, accessFlags := 1, code := none }
def k1c1 : Code := { maxStack := 4, maxLocals := 13, code := code, exceptionTable := #[], attributes := #[] }
def k1m1 : Method := { name := "law", desc := "(JJI)Z", sig := { parameters := [.long, .long, .int], returnType := some .boolean }, accessFlags := 9, code := some k1c1 }
/-- com/example/carillon/carillon/ChainOrderOfPinLaw -/
def k1 : Class := { plain "com/example/carillon/carillon/ChainOrderOfPinLaw" (some 0) with
  accessFlags := 49
  interfaces := #[]
  cf := some (fileOf pool1 28 #[] #[{ accessFlags := 1, nameIndex := 5, descriptorIndex := 6, attributes := #[] }, { accessFlags := 9, nameIndex := 32, descriptorIndex := 33, attributes := #[] }] 49 2 #[] #[])
  fields := #[]
  methods := #[k1m0, k1m1]
  instanceTypes := #[]
  staticTypes := #[]
  resolved := Array.replicate 37 none
  statics := none }

def pool2 : Array CpInfo := pool [(1, .methodref 2 3), (0, .class_ 4), (0, .nameAndType 5 6), (0, u "java/lang/Object"), (0, u "<init>"), (0, u "()V"), (1, .class_ 10), (1, u "com/example/carillon/carillon/Message"), (0, u "TAKEN_AHEAD"), (0, u "Ljava/lang/ThreadLocal;"), (6, .class_ 20), (0, u "com/example/carillon/carillon/Message$TakenAhead"), (3, u "Lcom/example/carillon/carillon/Message;"), (7, u "next"), (2, u "STATE"), (0, u "Ljava/lang/invoke/VarHandle;"), (8, u "poolHead"), (2, u "POOL_TAKEN"), (9, u "POOL_HEAD"), (5, u "POOL_SIZE"), (9, u "target"), (0, u "Lcom/example/carillon/carillon/Handler;"), (5, u "what"), (0, u "I"), (5, u "obj"), (0, u "Ljava/lang/Object;"), (2, u "arg1"), (2, u "arg2"), (5, u "callback"), (0, u "Ljava/lang/Runnable;"), (12, u "asynchronous"), (0, u "Z"), (24, u "when"), (0, u "J"), (6, u "atFront"), (2, u "poolSize"), (10, u "state"), (18, u "poolTaken"), (17, u "MAX_POOL_SIZE"), (2, u "TAKEN_AT_ONCE"), (1, u "FREE"), (1, u "IN_USE"), (1, u "RECYCLED"), (3, u "lanes"), (0, u "B")] 42

def k2c0 : Code := { maxStack := 1, maxLocals := 1, code := prog_15_method_1_code, exceptionTable := #[], attributes := #[] }
def k2m0 : Method := { name := "<init>", desc := "()V", sig := { parameters := [], returnType := none }, accessFlags := 1, code := some k2c0 }
/-- com/example/carillon/carillon/Message -/
def k2 : Class := { plain "com/example/carillon/carillon/Message" (some 0) with
  accessFlags := 49
  interfaces := #[]
  cf := some (fileOf pool2 8 #[.nestMembers #[19]] #[{ accessFlags := 1, nameIndex := 5, descriptorIndex := 6, attributes := #[] }] 49 2 #[] #[{ accessFlags := 26, nameIndex := 200, descriptorIndex := 82, attributes := #[] }, { accessFlags := 26, nameIndex := 203, descriptorIndex := 82, attributes := #[] }, { accessFlags := 26, nameIndex := 205, descriptorIndex := 82, attributes := #[] }, { accessFlags := 26, nameIndex := 207, descriptorIndex := 82, attributes := #[] }, { accessFlags := 26, nameIndex := 209, descriptorIndex := 82, attributes := #[] }, { accessFlags := 26, nameIndex := 35, descriptorIndex := 36, attributes := #[] }, { accessFlags := 26, nameIndex := 58, descriptorIndex := 36, attributes := #[] }, { accessFlags := 26, nameIndex := 64, descriptorIndex := 36, attributes := #[] }, { accessFlags := 26, nameIndex := 48, descriptorIndex := 36, attributes := #[] }, { accessFlags := 74, nameIndex := 45, descriptorIndex := 24, attributes := #[] }, { accessFlags := 74, nameIndex := 152, descriptorIndex := 82, attributes := #[] }, { accessFlags := 74, nameIndex := 182, descriptorIndex := 116, attributes := #[] }, { accessFlags := 26, nameIndex := 11, descriptorIndex := 12, attributes := #[] }, { accessFlags := 1, nameIndex := 81, descriptorIndex := 82, attributes := #[] }, { accessFlags := 1, nameIndex := 92, descriptorIndex := 82, attributes := #[] }, { accessFlags := 1, nameIndex := 95, descriptorIndex := 82, attributes := #[] }, { accessFlags := 1, nameIndex := 88, descriptorIndex := 89, attributes := #[] }, { accessFlags := 0, nameIndex := 74, descriptorIndex := 75, attributes := #[] }, { accessFlags := 0, nameIndex := 101, descriptorIndex := 102, attributes := #[] }, { accessFlags := 0, nameIndex := 141, descriptorIndex := 142, attributes := #[] }, { accessFlags := 0, nameIndex := 149, descriptorIndex := 116, attributes := #[] }, { accessFlags := 2, nameIndex := 115, descriptorIndex := 116, attributes := #[] }, { accessFlags := 66, nameIndex := 163, descriptorIndex := 82, attributes := #[] }, { accessFlags := 0, nameIndex := 32, descriptorIndex := 24, attributes := #[] }, { accessFlags := 0, nameIndex := 213, descriptorIndex := 214, attributes := #[] }])
  fields := #[{ name := "MAX_POOL_SIZE", type := .int, accessFlags := 26, slot := 0, constantValue := 0 }, { name := "TAKEN_AT_ONCE", type := .int, accessFlags := 26, slot := 1, constantValue := 0 }, { name := "FREE", type := .int, accessFlags := 26, slot := 2, constantValue := 0 }, { name := "IN_USE", type := .int, accessFlags := 26, slot := 3, constantValue := 0 }, { name := "RECYCLED", type := .int, accessFlags := 26, slot := 4, constantValue := 0 }, { name := "STATE", type := (.object "java/lang/invoke/VarHandle"), accessFlags := 26, slot := 5, constantValue := 0 }, { name := "POOL_HEAD", type := (.object "java/lang/invoke/VarHandle"), accessFlags := 26, slot := 6, constantValue := 0 }, { name := "POOL_SIZE", type := (.object "java/lang/invoke/VarHandle"), accessFlags := 26, slot := 7, constantValue := 0 }, { name := "POOL_TAKEN", type := (.object "java/lang/invoke/VarHandle"), accessFlags := 26, slot := 8, constantValue := 0 }, { name := "poolHead", type := (.object "com/example/carillon/carillon/Message"), accessFlags := 74, slot := 9, constantValue := 0 }, { name := "poolSize", type := .int, accessFlags := 74, slot := 10, constantValue := 0 }, { name := "poolTaken", type := .boolean, accessFlags := 74, slot := 11, constantValue := 0 }, { name := "TAKEN_AHEAD", type := (.object "java/lang/ThreadLocal"), accessFlags := 26, slot := 12, constantValue := 0 }, { name := "what", type := .int, accessFlags := 1, slot := 0, constantValue := 0 }, { name := "arg1", type := .int, accessFlags := 1, slot := 1, constantValue := 0 }, { name := "arg2", type := .int, accessFlags := 1, slot := 2, constantValue := 0 }, { name := "obj", type := (.object "java/lang/Object"), accessFlags := 1, slot := 3, constantValue := 0 }, { name := "target", type := (.object "com/example/carillon/carillon/Handler"), accessFlags := 0, slot := 4, constantValue := 0 }, { name := "callback", type := (.object "java/lang/Runnable"), accessFlags := 0, slot := 5, constantValue := 0 }, { name := "when", type := .long, accessFlags := 0, slot := 6, constantValue := 0 }, { name := "atFront", type := .boolean, accessFlags := 0, slot := 7, constantValue := 0 }, { name := "asynchronous", type := .boolean, accessFlags := 2, slot := 8, constantValue := 0 }, { name := "state", type := .int, accessFlags := 66, slot := 9, constantValue := 0 }, { name := "next", type := (.object "com/example/carillon/carillon/Message"), accessFlags := 0, slot := 10, constantValue := 0 }, { name := "lanes", type := .byte, accessFlags := 0, slot := 11, constantValue := 0 }]
  methods := #[k2m0]
  instanceTypes := #[.int, .int, .int, (.object "java/lang/Object"), (.object "com/example/carillon/carillon/Handler"), (.object "java/lang/Runnable"), .long, .boolean, .boolean, .int, (.object "com/example/carillon/carillon/Message"), .byte]
  staticTypes := #[.int, .int, .int, .int, .int, (.object "java/lang/invoke/VarHandle"), (.object "java/lang/invoke/VarHandle"), (.object "java/lang/invoke/VarHandle"), (.object "java/lang/invoke/VarHandle"), (.object "com/example/carillon/carillon/Message"), .int, .boolean, (.object "java/lang/ThreadLocal")]
  resolved := Array.replicate 257 none
  statics := none }

def pool3 : Array CpInfo := pool [(2, .class_ 4), (1, u "java/lang/Object"), (0, u "<init>"), (0, u "()V"), (0, .class_ 8), (0, u "com/example/carillon/carillon/Chain"), (0, .class_ 10), (0, u "com/example/carillon/carillon/Chain$Node"), (2, u "firstNodes"), (0, u "[Lcom/example/carillon/carillon/Chain$Node;"), (2, u "lastNodes"), (5, u "backlog"), (0, u "Lcom/example/carillon/carillon/Backlog;"), (4, u "laneDraws"), (0, u "J"), (2, u "fingerNodes"), (2, u "head"), (0, u "Lcom/example/carillon/carillon/Message;"), (2, u "tail"), (2, .long 9223372036854775808), (3, u "orderOf"), (0, u "(Lcom/example/carillon/carillon/Message;)J"), (10, .fieldref 60 61), (0, .class_ 62), (0, .nameAndType 63 64), (0, u "com/example/carillon/carillon/Message"), (0, u "atFront"), (0, u "Z"), (0, .fieldref 60 66), (0, .nameAndType 67 30), (0, u "when"), (60, u "Lcom/example/carillon/carillon/Chain$Node;"), (8, u "fingerEntry"), (36, u "spareNodeCount"), (0, u "I"), (2, u "spareNodes"), (9, u "LANES"), (2, u "SPARE_NODES_KEPT")] 21

def k3m0 : Method := { name := "<init>", desc := "()V", sig := { parameters := [], returnType := none }, accessFlags := 0, code := none }
def k3c1 : Code := { maxStack := 2, maxLocals := 1, code := prog_2_method_4_code, exceptionTable := #[], attributes := #[] }
def k3m1 : Method := { name := "orderOf", desc := "(Lcom/example/carillon/carillon/Message;)J", sig := { parameters := [(.object "com/example/carillon/carillon/Message")], returnType := some .long }, accessFlags := 8, code := some k3c1 }
/-- com/example/carillon/carillon/Chain -/
def k3 : Class := { plain "com/example/carillon/carillon/Chain" (some 0) with
  accessFlags := 48
  interfaces := #[]
  cf := some (fileOf pool3 7 #[.nestMembers #[9]] #[{ accessFlags := 0, nameIndex := 5, descriptorIndex := 6, attributes := #[] }, { accessFlags := 8, nameIndex := 47, descriptorIndex := 48, attributes := #[] }] 48 2 #[] #[{ accessFlags := 26, nameIndex := 188, descriptorIndex := 175, attributes := #[] }, { accessFlags := 26, nameIndex := 191, descriptorIndex := 175, attributes := #[] }, { accessFlags := 2, nameIndex := 36, descriptorIndex := 37, attributes := #[] }, { accessFlags := 2, nameIndex := 40, descriptorIndex := 37, attributes := #[] }, { accessFlags := 18, nameIndex := 13, descriptorIndex := 14, attributes := #[] }, { accessFlags := 18, nameIndex := 17, descriptorIndex := 14, attributes := #[] }, { accessFlags := 18, nameIndex := 23, descriptorIndex := 24, attributes := #[] }, { accessFlags := 2, nameIndex := 178, descriptorIndex := 128, attributes := #[] }, { accessFlags := 2, nameIndex := 174, descriptorIndex := 175, attributes := #[] }, { accessFlags := 2, nameIndex := 29, descriptorIndex := 30, attributes := #[] }, { accessFlags := 2, nameIndex := 137, descriptorIndex := 37, attributes := #[] }, { accessFlags := 18, nameIndex := 33, descriptorIndex := 14, attributes := #[] }])
  fields := #[{ name := "LANES", type := .int, accessFlags := 26, slot := 0, constantValue := 0 }, { name := "SPARE_NODES_KEPT", type := .int, accessFlags := 26, slot := 1, constantValue := 0 }, { name := "head", type := (.object "com/example/carillon/carillon/Message"), accessFlags := 2, slot := 0, constantValue := 0 }, { name := "tail", type := (.object "com/example/carillon/carillon/Message"), accessFlags := 2, slot := 1, constantValue := 0 }, { name := "firstNodes", type := (.array (.object "com/example/carillon/carillon/Chain$Node")), accessFlags := 18, slot := 2, constantValue := 0 }, { name := "lastNodes", type := (.array (.object "com/example/carillon/carillon/Chain$Node")), accessFlags := 18, slot := 3, constantValue := 0 }, { name := "backlog", type := (.object "com/example/carillon/carillon/Backlog"), accessFlags := 18, slot := 4, constantValue := 0 }, { name := "spareNodes", type := (.object "com/example/carillon/carillon/Chain$Node"), accessFlags := 2, slot := 5, constantValue := 0 }, { name := "spareNodeCount", type := .int, accessFlags := 2, slot := 6, constantValue := 0 }, { name := "laneDraws", type := .long, accessFlags := 2, slot := 7, constantValue := 0 }, { name := "fingerEntry", type := (.object "com/example/carillon/carillon/Message"), accessFlags := 2, slot := 8, constantValue := 0 }, { name := "fingerNodes", type := (.array (.object "com/example/carillon/carillon/Chain$Node")), accessFlags := 18, slot := 9, constantValue := 0 }]
  methods := #[k3m0, k3m1]
  instanceTypes := #[(.object "com/example/carillon/carillon/Message"), (.object "com/example/carillon/carillon/Message"), (.array (.object "com/example/carillon/carillon/Chain$Node")), (.array (.object "com/example/carillon/carillon/Chain$Node")), (.object "com/example/carillon/carillon/Backlog"), (.object "com/example/carillon/carillon/Chain$Node"), .int, .long, (.object "com/example/carillon/carillon/Message"), (.array (.object "com/example/carillon/carillon/Chain$Node"))]
  staticTypes := #[.int, .int]
  resolved := Array.replicate 213 none
  statics := none }

def pool4 : Array CpInfo := pool [(1, u "java/lang/Cloneable"), (0, .class_ 1), (0, u "java/lang/Object"), (0, .class_ 3)] 3

/-- java/lang/Cloneable -/
def k4 : Class := { plain "java/lang/Cloneable" (some 0) with
  accessFlags := 1537
  interfaces := #[]
  cf := some (fileOf pool4 2 #[] #[] 1537 4 #[] #[])
  fields := #[]
  methods := #[]
  instanceTypes := #[]
  staticTypes := #[]
  resolved := Array.replicate 8 none
  statics := none }

def pool5 : Array CpInfo := pool [(1, u "java/io/Serializable"), (0, .class_ 1), (0, u "java/lang/Object"), (0, .class_ 3)] 3

/-- java/io/Serializable -/
def k5 : Class := { plain "java/io/Serializable" (some 0) with
  accessFlags := 1537
  interfaces := #[]
  cf := some (fileOf pool5 2 #[] #[] 1537 4 #[] #[])
  fields := #[]
  methods := #[]
  instanceTypes := #[]
  staticTypes := #[]
  resolved := Array.replicate 8 none
  statics := none }

/-- the primitive byte -/
def k6 : Class := { plain "byte" none with kind := .primitive 'B', accessFlags := 0x411 }
/-- [B -/
def k7 : Class := { plain "[B" (some 0) with kind := .array 6 .byte, interfaces := #[4, 5], accessFlags := 1041 }

/-- the primitive int -/
def k8 : Class := { plain "int" none with kind := .primitive 'I', accessFlags := 0x411 }
/-- [I -/
def k9 : Class := { plain "[I" (some 0) with kind := .array 8 .int, interfaces := #[4, 5], accessFlags := 1041 }

def heap : Heap := #[]
def classes : Array Class := #[k0, k1, k2, k3, k4, k5, k6, k7, k8, k9]
def interned : List (Array UInt16 × Addr) := []
def slotsUsed : Nat := 0
def theMethod : MethodId := ⟨1, 1⟩
def args0 : Array Value := #[.long 5, .long 7, .int 1]
def aboutOver (below : List Frame) : State where
  vm := { classes := classes, interned := interned.toArray }
  heap := heap
  slotsUsed := slotsUsed
  threads := #[{ frames := .invoking theMethod args0 :: below }]
def below0 : List Frame := [.native { method := ⟨0, 0⟩, args := #[] }]
def about1 : State := aboutOver below0
def p0 : Program := .bare "" "" ""
def e0 : Env := launch0.env 0 0 0
theorem w_frames : about1.frames = Frame.invoking theMethod args0 :: below0 := rfl
set_option maxRecDepth 65536 in
theorem w_args : argsFit about1.vm theMethod args0 = true := by decide +kernel
set_option maxRecDepth 65536 in
theorem w_heap : heapFits about1 = true := by decide +kernel
set_option maxRecDepth 65536 in
theorem w_runnable : about1.curStatus? = some .runnable := by decide +kernel
set_option maxRecDepth 65536 in
theorem w_alone : about1.alone = true := by decide +kernel
set_option maxRecDepth 65536 in
theorem w_named : about1.methodNamed? x = some theMethod := by decide +kernel
set_option maxRecDepth 65536 in
theorem w_hears : about1.hears theMethod below0 = true := by decide +kernel
set_option maxRecDepth 65536 in
theorem w_ripe : about1.ripe theMethod args0 below0 = true := by decide +kernel
theorem w_running : about1.status = .running := rfl
set_option maxRecDepth 65536 in
theorem w_room : about1.hasRoom e0.platform room_1 = true :=
  launch0.hasRoom_least _ room_1 (by decide +kernel) (by decide +kernel) (by decide +kernel) (by decide +kernel) (by decide +kernel) (by decide +kernel)
theorem allAtoms_all (ts : List Jvm.Cond) (a : Array Jvm.Value) (st : Jvm.State) : (allAtoms ts).before a st = ts.all (fun c => c.before a st) := by
  induction ts with
  | nil => rfl
  | cons c t ih =>
    show (Jvm.Cond.and c (allAtoms t)).before a st = _
    rw [Jvm.Cond.before_and, ih, List.all_cons]
def words1 : List Jvm.Cond := Jvm.Cond.code x code maxLocals ret :: tables_1
/-- a 'code' word, met by the world's own term for the bytes: nothing is compared byte by byte -/
theorem code_word {y : MethodName} {bytes : ByteArray} {mx : Nat} {rt : Option FieldType} {a : Array Value} {s : State} {m : MethodId} {meth : Method} {c : Code} (h1 : s.methodNamed? y = some m) (h2 : s.vm.method? m = some meth) (h3 : meth.code = some c) (h4 : c.code = bytes)
    (h5 : (c.maxLocals == mx && c.exceptionTable.isEmpty && decide (c.maxStack ≤ mostOperands) && decide (meth.sig.returnType = rt) && !meth.locks && decide (parseMethodDescriptor y.desc = some meth.sig)) = true) : (Jvm.Cond.code y bytes mx rt).before a s = true := by
  simp only [Bool.and_eq_true, beq_iff_eq, Bool.not_eq_true', decide_eq_true_eq] at h5
  obtain ⟨⟨⟨⟨⟨g1, g2⟩, g3⟩, g4⟩, g5⟩, g6⟩ := h5
  simp [Cond.before, Cond.holds, Cond.value, h1, h2, h3, h4, g1, g2, g3, g4, g5, g6]
def isCode : Jvm.Cond → Bool
  | .code _ _ _ _ => true
  | _ => false
theorem all_split {L : List Jvm.Cond} {P : Jvm.Cond → Bool} (h1 : L.all (fun c => isCode c || P c) = true) (h2 : ∀ c ∈ L.filter isCode, P c = true) : L.all P = true := by
  refine List.all_eq_true.mpr fun c hc => ?_
  have h := List.all_eq_true.mp h1 c hc
  rcases Bool.eq_false_or_eq_true (isCode c) with hi | hi
  · exact h2 c (List.mem_filter.mpr ⟨hc, hi⟩)
  · simpa [hi] using h
set_option maxRecDepth 65536 in
theorem w_c0 : (Jvm.Cond.code x code maxLocals ret).before args0 about1 = true := code_word (m := ⟨1, 1⟩) (meth := k1m1) (c := k1c1) (by decide +kernel) rfl rfl rfl (by decide +kernel)
set_option maxRecDepth 65536 in
theorem w_c1 : (Jvm.Cond.code ({ cls := "com/example/carillon/carillon/Message", name := "<init>", desc := "()V" } : Jvm.MethodName) prog_15_method_1_code (1 : Nat) (Option.none : Option Jvm.ClassFile.FieldType)).before args0 about1 = true := code_word (m := ⟨2, 0⟩) (meth := k2m0) (c := k2c0) (by decide +kernel) rfl rfl rfl (by decide +kernel)
set_option maxRecDepth 65536 in
theorem w_c2 : (Jvm.Cond.code ({ cls := "java/lang/Object", name := "<init>", desc := "()V" } : Jvm.MethodName) object_method_1_code (1 : Nat) (Option.none : Option Jvm.ClassFile.FieldType)).before args0 about1 = true := code_word (m := ⟨0, 0⟩) (meth := k0m0) (c := k0c0) (by decide +kernel) rfl rfl rfl (by decide +kernel)
set_option maxRecDepth 65536 in
theorem w_c3 : (Jvm.Cond.code ({ cls := "com/example/carillon/carillon/Chain", name := "orderOf", desc := "(Lcom/example/carillon/carillon/Message;)J" } : Jvm.MethodName) prog_2_method_4_code (1 : Nat) (Option.some Jvm.ClassFile.FieldType.long)).before args0 about1 = true := code_word (m := ⟨3, 1⟩) (meth := k3m1) (c := k3c1) (by decide +kernel) rfl rfl rfl (by decide +kernel)
def codes1 : List Jvm.Cond := [Jvm.Cond.code x code maxLocals ret, Jvm.Cond.code ({ cls := "com/example/carillon/carillon/Message", name := "<init>", desc := "()V" } : Jvm.MethodName) prog_15_method_1_code (1 : Nat) (Option.none : Option Jvm.ClassFile.FieldType), Jvm.Cond.code ({ cls := "java/lang/Object", name := "<init>", desc := "()V" } : Jvm.MethodName) object_method_1_code (1 : Nat) (Option.none : Option Jvm.ClassFile.FieldType), Jvm.Cond.code ({ cls := "com/example/carillon/carillon/Chain", name := "orderOf", desc := "(Lcom/example/carillon/carillon/Message;)J" } : Jvm.MethodName) prog_2_method_4_code (1 : Nat) (Option.some Jvm.ClassFile.FieldType.long)]
set_option maxRecDepth 65536 in
theorem codes_eq : words1.filter isCode = codes1 := rfl
theorem w_codes : ∀ c ∈ words1.filter isCode, c.before args0 about1 = true := by
  rw [codes_eq]
  intro c hc
  simp only [codes1, List.mem_cons, List.not_mem_nil, or_false] at hc
  rcases hc with rfl | rfl | rfl | rfl
  · exact w_c0
  · exact w_c1
  · exact w_c2
  · exact w_c3
set_option maxRecDepth 65536 in
theorem w_t1 : words1.all (fun c => isCode c || c.before args0 about1) = true := by decide +kernel
theorem w_tables : (allAtoms (Jvm.Cond.code x code maxLocals ret :: tables_1)).before args0 about1 = true := by
  rw [allAtoms_all]
  show words1.all (fun c => c.before args0 about1) = true
  refine all_split ?_ w_codes
  rw [w_t1]
set_option maxRecDepth 65536 in
theorem w_case : (Jvm.Cond.and given_1 narrow_1).before args0 about1 = true := by decide +kernel
theorem w_applies : (headSpec (Jvm.Cond.code x code maxLocals ret :: tables_1) room_1).applies x e0.platform about1 = true :=
  (Spec.applies_iff w_frames).mpr ⟨w_running, w_runnable, w_alone, w_named, w_hears, w_ripe, w_room, w_tables⟩
theorem atStart : AtStart classFile x code maxLocals ret World_1 tables_1 room_1 Calls_1 rest_1 Pre_1 launch0 p0 e0 about1 theMethod args0 below0 :=
  ⟨lists_1, trivial, launch0.admits_env _ _ _, launch0.least_env, fairChoices_fair.cas, fairChoices_fair.clock, w_frames, w_args, w_heap, w_applies, trivial, trivial, w_case⟩
end start1
theorem witness_1 : WitnessClaimed_1 := ⟨start1.p0, start1.e0, start1.about1, start1.theMethod, start1.args0, start1.below0, start1.atStart⟩
end Jvm.Pilot.@@N@@
