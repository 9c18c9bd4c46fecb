import JvmDerived
import JvmDerived.Pilot.@@N@@Statement
import JvmDerived.Pilot.@@N@@Code
set_option linter.unusedVariables false
set_option linter.unusedSimpArgs false
namespace Jvm.RoadKit
open Sem ClassFile Op Lib Jvm.Stand Jvm.Free Jvm.LawKit
section New
variable {p : Program} {l : Launch} {e : Env} {R : Room} {s : State} {m : MethodId} {args : Array Value} {below : List Frame} {meth : Method} {c : Code} {T : State} {locs : List Loc} {cells slots : Nat}
theorem retI (X : Stand p l e R s m args below meth c T locs cells slots) (hx : p.tables.exec = Jvm.exec) {pc : Nat} {Ls : Array Slot} {z : Int32} {rest : List Value} (hret : meth.sig.returnType = some .int) (hd : decode c.code pc = .ok (.ireturn, 1)) {fs : List Frame}
    (hl : ∀ (f : JFrame) (acts : List Action), f.method = m → f.locked = none → f.entered = [] → (doReturn e (T.setTop f) acts (some (.int z))).1 = T.setFrames fs) : Steps p.tables e below (T.setTop (mkF m pc Ls (.int z :: rest))) (T.setFrames fs) := by
  have hm' : T.vm.method? m = some meth := X.method'
  have hn : narrow .int (.int z) = .int z := rfl
  show Steps p.tables e below (T.setTop { method := m, pc := pc, locals := Ls, stack := _ :: rest, locked := none }) _
  jvm_step X.here [X.here.top, hx, hd, hm', hret, hn]
  first | (intro acts; rw [hl _ acts rfl rfl rfl]) | rw [hl _ _ rfl rfl rfl]
  exact Steps.refl _
end New
end Jvm.RoadKit
namespace Jvm.Pilot.@@N@@
open Jvm Jvm.ClassFile Sem Op Lib Jvm.Free Jvm.Stand Jvm.LawKit Jvm.RoadKit Bundle Jvm.Pilot.@@N@@.Jvm.D
def own_G (tb : Tables) (e : Env) (below : List Frame) (P : State → Outcome → Prop) (S : State) : Prop := ∃ t o, Steps tb e below S t ∧ P t o
theorem own_in {tb : Tables} {e : Env} {below : List Frame} {P : State → Outcome → Prop} {S : State} (h : own_G tb e below P S) : ∃ t o, Steps tb e below S t ∧ P t o := h
theorem own_go {tb : Tables} {e : Env} {below : List Frame} {P : State → Outcome → Prop} {S S' : State} (f : ∀ t, Steps tb e below S' t → Steps tb e below S t) (h : own_G tb e below P S') : own_G tb e below P S := by
  obtain ⟨t, o, st, hp⟩ := h
  exact ⟨t, o, f t st, hp⟩
theorem own_join {α : Type} {tb : Tables} {e : Env} {below : List Frame} {P : State → Outcome → Prop} {S : State} (C : α → Prop) (F : α → State) (J : ∀ a, C a → own_G tb e below P (F a)) (M : (∀ a, C a → own_G tb e below P (F a)) → own_G tb e below P S) : own_G tb e below P S := M J
theorem own_loop {α : Type} {tb : Tables} {e : Env} {below : List Frame} {P : State → Outcome → Prop} {S : State} (mu : α → Nat) (C : α → Prop) (F : α → State) (J : ∀ a, C a → (∀ b, C b → mu b < mu a → own_G tb e below P (F b)) → own_G tb e below P (F a)) (M : (∀ a, C a → own_G tb e below P (F a)) → own_G tb e below P S) : own_G tb e below P S := by
  apply M
  have q : ∀ n a, mu a < n → C a → own_G tb e below P (F a) := by
    intro n
    induction n with
    | zero => intro a h; exact absurd h (Nat.not_lt_zero _)
    | succ n ih => intro a h ha; exact J a ha fun b hb hlt => ih b (by omega) hb
  exact fun a ha => q _ a (Nat.lt_succ_self _) ha
theorem own_l1 {a b : Int64} (h : a = b) : lcmpW a b = 0 := by subst h; simp [lcmpW]
theorem own_l2 {a b : Int64} (h : ¬ a = b) : ¬ lcmpW a b = 0 := by
  unfold lcmpW; split
  · decide
  · first | (rw [if_neg h]; decide) | decide
theorem own_l3 {a b : Int64} (h : a < b) : lcmpW a b < 0 := by
  have h1 : ¬ a > b := Int64.not_lt.mpr (Int64.le_of_lt h)
  have h2 : ¬ a = b := fun q => by subst q; exact Int64.lt_irrefl h
  unfold lcmpW; rw [if_neg h1, if_neg h2]; decide
theorem own_l4 {a b : Int64} (h : ¬ a < b) : ¬ lcmpW a b < 0 := by
  unfold lcmpW; split
  · decide
  · split
    · decide
    · rename_i h1 h2
      rw [gt_iff_lt, Int64.lt_iff_toInt_lt] at h1; rw [Int64.lt_iff_toInt_lt] at h; rw [← Int64.toInt_inj] at h2; omega
theorem own_l5 {a b : Int64} (h : b < a) : 0 < lcmpW a b := by unfold lcmpW; rw [if_pos h]; decide
theorem own_l6 {a b : Int64} (h : ¬ b < a) : ¬ 0 < lcmpW a b := by
  unfold lcmpW; rw [if_neg h]; split <;> decide
def own_cls (p : Int32) : Int32 := if p < (200 : Int32) then (-1 : Int32) else if (599 : Int32) < p then (-1 : Int32) else if p < (300 : Int32) then (2 : Int32) else if p < (400 : Int32) then (3 : Int32) else if p < (500 : Int32) then (4 : Int32) else (5 : Int32)
def own_hit (p k : Int32) : Int64 := if own_cls p = k then 1 else 0
theorem own_hits {p c : Int32} (h : own_cls p = c) (k : Int32) : own_hit p k = if c = k then 1 else 0 := by unfold own_hit; rw [h]
theorem own_out {p : Int32} (h : p < (200 : Int32) ∨ (599 : Int32) < p) : own_hit p (2 : Int32) = 0 ∧ own_hit p (3 : Int32) = 0 ∧ own_hit p (4 : Int32) = 0 ∧ own_hit p (5 : Int32) = 0 ∧ own_hit p (-1 : Int32) = 1 := by
  have e : own_cls p = (-1 : Int32) := by
    unfold own_cls
    by_cases h1 : p < (200 : Int32)
    · rw [if_pos h1]
    · rw [if_neg h1, if_pos (h.resolve_left h1)]
  simp only [own_hits e]
  decide
theorem own_div {p : Int32} (h1 : ¬ p < (200 : Int32)) (h2 : ¬ (599 : Int32) < p) :
    (p / (100 : Int32) = (2 : Int32) ∧ own_hit p (2 : Int32) = 1 ∧ own_hit p (3 : Int32) = 0 ∧ own_hit p (4 : Int32) = 0 ∧ own_hit p (5 : Int32) = 0 ∧ own_hit p (-1 : Int32) = 0) ∨
    (p / (100 : Int32) = (3 : Int32) ∧ own_hit p (2 : Int32) = 0 ∧ own_hit p (3 : Int32) = 1 ∧ own_hit p (4 : Int32) = 0 ∧ own_hit p (5 : Int32) = 0 ∧ own_hit p (-1 : Int32) = 0) ∨
    (p / (100 : Int32) = (4 : Int32) ∧ own_hit p (2 : Int32) = 0 ∧ own_hit p (3 : Int32) = 0 ∧ own_hit p (4 : Int32) = 1 ∧ own_hit p (5 : Int32) = 0 ∧ own_hit p (-1 : Int32) = 0) ∨
    (p / (100 : Int32) = (5 : Int32) ∧ own_hit p (2 : Int32) = 0 ∧ own_hit p (3 : Int32) = 0 ∧ own_hit p (4 : Int32) = 0 ∧ own_hit p (5 : Int32) = 1 ∧ own_hit p (-1 : Int32) = 0) := by
  have i1 : ¬ p.toInt < 200 := fun q => h1 (Int32.lt_iff_toInt_lt.mpr q)
  have i2 : ¬ 599 < p.toInt := fun q => h2 (Int32.lt_iff_toInt_lt.mpr q)
  have ed : (p / (100 : Int32)).toInt = p.toInt / 100 := by
    rw [Int32.toInt_div_of_ne_right p (100 : Int32) (by decide), show (100 : Int32).toInt = 100 from rfl, Int.tdiv_eq_ediv_of_nonneg (by omega)]
  have fin : ∀ c : Int32, own_cls p = c → p.toInt / 100 = c.toInt → p / (100 : Int32) = c := fun c _ q => Int32.toInt_inj.mp (ed.trans q)
  by_cases h3 : p < (300 : Int32)
  · have e : own_cls p = (2 : Int32) := by unfold own_cls; rw [if_neg h1, if_neg h2, if_pos h3]
    have i3 : p.toInt < 300 := Int32.lt_iff_toInt_lt.mp h3
    refine Or.inl ⟨fin _ e (by show _ = (2 : Int); omega), ?_⟩
    simp only [own_hits e]; decide
  · have i3 : ¬ p.toInt < 300 := fun q => h3 (Int32.lt_iff_toInt_lt.mpr q)
    by_cases h4 : p < (400 : Int32)
    · have e : own_cls p = (3 : Int32) := by unfold own_cls; rw [if_neg h1, if_neg h2, if_neg h3, if_pos h4]
      have i4 : p.toInt < 400 := Int32.lt_iff_toInt_lt.mp h4
      refine Or.inr (Or.inl ⟨fin _ e (by show _ = (3 : Int); omega), ?_⟩)
      simp only [own_hits e]; decide
    · have i4 : ¬ p.toInt < 400 := fun q => h4 (Int32.lt_iff_toInt_lt.mpr q)
      by_cases h5 : p < (500 : Int32)
      · have e : own_cls p = (4 : Int32) := by unfold own_cls; rw [if_neg h1, if_neg h2, if_neg h3, if_neg h4, if_pos h5]
        have i5 : p.toInt < 500 := Int32.lt_iff_toInt_lt.mp h5
        refine Or.inr (Or.inr (Or.inl ⟨fin _ e (by show _ = (4 : Int); omega), ?_⟩))
        simp only [own_hits e]; decide
      · have i5 : ¬ p.toInt < 500 := fun q => h5 (Int32.lt_iff_toInt_lt.mpr q)
        have e : own_cls p = (5 : Int32) := by unfold own_cls; rw [if_neg h1, if_neg h2, if_neg h3, if_neg h4, if_neg h5]
        refine Or.inr (Or.inr (Or.inr ⟨fin _ e (by show _ = (5 : Int); omega), ?_⟩))
        simp only [own_hits e]; decide
theorem own_one (p : Int32) : own_hit p (2 : Int32) + own_hit p (3 : Int32) + own_hit p (4 : Int32) + own_hit p (5 : Int32) + own_hit p (-1 : Int32) = 1 := by
  by_cases h1 : p < (200 : Int32)
  · obtain ⟨e2, e3, e4, e5, em⟩ := own_out (p := p) (Or.inl h1); rw [e2, e3, e4, e5, em]; decide
  · by_cases h2 : (599 : Int32) < p
    · obtain ⟨e2, e3, e4, e5, em⟩ := own_out (p := p) (Or.inr h2); rw [e2, e3, e4, e5, em]; decide
    · rcases own_div h1 h2 with ⟨-, e2, e3, e4, e5, em⟩ | ⟨-, e2, e3, e4, e5, em⟩ | ⟨-, e2, e3, e4, e5, em⟩ | ⟨-, e2, e3, e4, e5, em⟩ <;> rw [e2, e3, e4, e5, em] <;> decide
theorem own_mix3 (a2 a3 a4 a5 am b2 b3 b4 b5 bm c2 c3 c4 c5 cm : Int64) : ((((0 + a2 + b2 + c2) + (0 + a3 + b3 + c3)) + (0 + a4 + b4 + c4)) + (0 + a5 + b5 + c5)) + (0 + am + bm + cm) = (a2 + a3 + a4 + a5 + am) + (b2 + b3 + b4 + b5 + bm) + (c2 + c3 + c4 + c5 + cm) := by
  simp only [Int64.zero_add]
  ac_rfl
theorem own_pages (a b c : Int32) : ((((0 + own_hit a (2 : Int32) + own_hit b (2 : Int32) + own_hit c (2 : Int32)) + (0 + own_hit a (3 : Int32) + own_hit b (3 : Int32) + own_hit c (3 : Int32))) + (0 + own_hit a (4 : Int32) + own_hit b (4 : Int32) + own_hit c (4 : Int32))) + (0 + own_hit a (5 : Int32) + own_hit b (5 : Int32) + own_hit c (5 : Int32))) + (0 + own_hit a (-1 : Int32) + own_hit b (-1 : Int32) + own_hit c (-1 : Int32)) = (3 : Int64) := by
  rw [own_mix3, own_one, own_one, own_one]; decide
theorem own_pages1 (a b c : Int32) : ((((0 + own_hit a (2 : Int32) + own_hit b (2 : Int32) + own_hit c (2 : Int32)) + (0 + own_hit a (3 : Int32) + own_hit b (3 : Int32) + own_hit c (3 : Int32))) + (0 + own_hit a (4 : Int32) + own_hit b (4 : Int32) + own_hit c (4 : Int32))) + (0 + own_hit a (5 : Int32) + own_hit b (5 : Int32) + own_hit c (5 : Int32))) + ((0 + own_hit a (-1 : Int32) + own_hit b (-1 : Int32) + own_hit c (-1 : Int32)) + (1 : Int64)) = (3 : Int64) + (1 : Int64) := by
  rw [← Int64.add_assoc _ _ (1 : Int64), own_pages]
theorem pd__J : parseMethodDescriptor "()J" = some ⟨[], some .long⟩ := by decide +kernel
theorem pd__V : parseMethodDescriptor "()V" = some ⟨[], none⟩ := by decide +kernel
theorem pd_I_I : parseMethodDescriptor "(I)I" = some ⟨[.int], some .int⟩ := by decide +kernel
theorem pd_I_J : parseMethodDescriptor "(I)J" = some ⟨[.int], some .long⟩ := by decide +kernel
theorem pd_I_V : parseMethodDescriptor "(I)V" = some ⟨[.int], none⟩ := by decide +kernel
theorem pd_II_J : parseMethodDescriptor "(II)J" = some ⟨[.int, .int], some .long⟩ := by decide +kernel
theorem pd_IIII_J : parseMethodDescriptor "(IIII)J" = some ⟨[.int, .int, .int, .int], some .long⟩ := by decide +kernel
-- com/example/honeybee/honeybee/crawl/CrawlCounts.<init>:()V
theorem d_ci_0 : decode prog_1_method_1_code 0 = .ok (.aload_n 0, 1) := by decide +kernel
theorem d_ci_1 : decode prog_1_method_1_code 1 = .ok (.invokespecial 1, 3) := by decide +kernel
theorem d_ci_4 : decode prog_1_method_1_code 4 = .ok (.aload_n 0, 1) := by decide +kernel
theorem d_ci_5 : decode prog_1_method_1_code 5 = .ok (.bipush 6, 2) := by decide +kernel
theorem d_ci_7 : decode prog_1_method_1_code 7 = .ok (.newarray .long, 2) := by decide +kernel
theorem d_ci_9 : decode prog_1_method_1_code 9 = .ok (.putfield 7, 3) := by decide +kernel
theorem d_ci_12 : decode prog_1_method_1_code 12 = .ok (.return_, 1) := by decide +kernel
theorem pn_ci : plainName "com/example/honeybee/honeybee/crawl/CrawlCounts" = true := by first | (simp [plainName, overriddenIn]; done) | decide +kernel
theorem ef_ci (m : MethodId) (a1 : Addr) : entryFrame m #[(.ref a1)] 1 = mkF m 0 #[.val (.ref a1)] [] := by first | (simp [entryFrame, mkF, argsToLocals, Value.category]; done) | rfl
def Q_ci (Z : State) (a1 : Addr) (h0 : Heap) (n0 : Nat) (v : Option Value) (h : Heap) (L : List Loc) : Prop := ∃ (b : Addr), ∃ (k : ClassId), v = none ∧ Fr n0 L ∧ Keep h0 h [a1] ∧ Exa Z h a1 "com/example/honeybee/honeybee/crawl/CrawlCounts" ∧ Fld Z h a1 "com/example/honeybee/honeybee/crawl/CrawlCounts" "byClass" "[J" (.ref b) ∧ Fld Z h a1 "com/example/honeybee/honeybee/crawl/CrawlCounts" "failed" "J" (.long (0 : Int64)) ∧ h0.size ≤ b ∧ a1 ≠ b ∧ Arv Z h b k .long (6 : Int32) [(.long (0 : Int64)), (.long (0 : Int64)), (.long (0 : Int64)), (.long (0 : Int64)), (.long (0 : Int64)), (.long (0 : Int64))] (.long (0 : Int64))
set_option maxRecDepth 65536 in
set_option maxHeartbeats 40000000 in
theorem rm_ci (l : Launch) (Z : State) (a0 : Array Value) (hw : ∀ d ∈ tables_1, d.before a0 Z = true) (ws : List Jvm.Cond) (a1 : Addr) (h0 : Heap) (n0 : Nat) (Z0 : n0 ≤ h0.size) (E1 : Exa Z h0 a1 "com/example/honeybee/honeybee/crawl/CrawlCounts") (F1 : Fld Z h0 a1 "com/example/honeybee/honeybee/crawl/CrawlCounts" "byClass" "[J" .null) (F2 : Fld Z h0 a1 "com/example/honeybee/honeybee/crawl/CrawlCounts" "failed" "J" (.long (0 : Int64))) (g1 : n0 ≤ a1) :
    MetFree l (⟨"com/example/honeybee/honeybee/crawl/CrawlCounts", "<init>", "()V"⟩ : MethodName) (head1 (Jvm.Cond.code (⟨"com/example/honeybee/honeybee/crawl/CrawlCounts", "<init>", "()V"⟩ : MethodName) prog_1_method_1_code 1 none :: ws) ({ frames := 1, cells := 1, slots := 6, locals := 12 } : Room)) (fun a U => a = #[(.ref a1)] ∧ Z.Warmed39 U.vm ∧ U.heap = h0) (fun _ _ _ _ _ => True) (fun _ U o U' => ∃ v L, o = .returned v ∧ Q_ci Z a1 h0 n0 v U'.heap L ∧ FrameEnd U o U' L ({ frames := 1, cells := 1, slots := 6, locals := 12 } : Room).cells ({ frames := 1, cells := 1, slots := 6, locals := 12 } : Room).slots) := by
  refine MetFree.of_bodySF (plainFor_of_name pn_ci) hisR ?_
  intro p e s m args below meth c s₁ Bd hml0 hP hK
  obtain ⟨rfl, hZ, hh⟩ := hP
  have hx := Bd.exec
  have hby := Bd.bytes
  have hml : c.maxLocals = 1 := hml0
  have hown : s.vm.findClass "com/example/honeybee/honeybee/crawl/CrawlCounts" = some m.cls := findClass_of_methodNamed Bd.named
  have hnm := (name_of_methodNamed Bd.named Bd.method).1
  have X0 : Stand p l e ({ frames := 1, cells := 1, slots := 6, locals := 12 } : Room) s m #[(.ref a1)] below meth c s₁ [] 0 0 := Stand.of_body Bd
  have e0 : s₁.heap = h0 := by rw [← hh, Bd.state]; rfl
  have N0 := Fr.nil n0
  refine own_in ?_
  refine own_go (S' := s₁.setTop (mkF m 0 #[.val (.ref a1)] [])) (fun tgt_ stp_ => castTop (ef_ci m a1) stp_) ?_
  have K0 : Keep h0 h0 [a1] := Keep.refl h0 _
  obtain ⟨T_1, X_1, e_1, st_1⟩ := initO X0 hx hZ hown (hw _ (List.mem_of_getElem? (i := 7) rfl)) (hw _ (List.mem_of_getElem? (i := 8) rfl)) (hw _ (List.mem_of_getElem? (i := 9) rfl)) e0 (g := (mkF m 1 #[.val (.ref a1)] [(.ref a1)])) rfl (by rw [hml]; rfl) rfl (hb hby d_ci_1) (by decide) (W := 0) (by show 2 * 0 + _ ≤ _; exact Nat.le_of_eq rfl) (by decide)
  obtain ⟨T_2, h_2, k_2, X_2, e_2, E_2, A_2, st_2⟩ := newP X_1 hx hZ (hw _ (List.mem_of_getElem? (i := 10) rfl)) e_1 (g := (mkF m 7 #[.val (.ref a1)] [(.int (6 : Int32)), (.ref a1)])) rfl (hb hby d_ci_7) rfl (by decide) (cap := 6) (by decide) (by decide) (by decide) (by decide)
  obtain ⟨b_2, g_2⟩ : ∃ z, z = h0.size := ⟨_, rfl⟩
  rw [← g_2] at A_2 st_2
  have gn_b_2 : n0 ≤ b_2 := Nat.le_trans Z0 (Nat.le_of_eq g_2.symm)
  have sz_b_2 : h0.size ≤ b_2 := Nat.le_trans K0.1 (Nat.le_of_eq g_2.symm)
  have ne_a1_b_2 : a1 ≠ b_2 := Nat.ne_of_lt (Nat.lt_of_lt_of_le E1.lt (Nat.le_of_eq g_2.symm))
  have V_2 : Arv Z h_2 b_2 k_2 .long (6 : Int32) [(.long (0 : Int64)), (.long (0 : Int64)), (.long (0 : Int64)), (.long (0 : Int64)), (.long (0 : Int64)), (.long (0 : Int64))] (.long (0 : Int64)) := (Arv.new A_2 (by decide)).pad (pad_rep [] (.long (0 : Int64)) 6)
  have Z_3 : n0 ≤ h_2.size := Nat.le_trans Z0 E_2.1
  have K_4 : Keep h0 h_2 [a1] := K0.ext E_2
  have f_5 := (E1.ext E_2)
  have f_6 := (F1.ext E_2)
  obtain ⟨T_7, h_7, X_7, e_7, W_7, st_7⟩ := putF X_2 hx hZ hown (host := "") (Or.inl (hw _ (List.mem_of_getElem? (i := 11) rfl))) Via.refl e_2 f_6 f_5 (Or.inr ⟨(hw _ (List.mem_of_getElem? (i := 12) rfl)), rfl, hnm⟩) (hw _ (List.mem_of_getElem? (i := 2) rfl)) (ty := (.array .long)) (by decide) rfl rfl (g := (mkF m 9 #[.val (.ref a1)] [(.ref b_2), (.ref a1)])) rfl rfl (hb hby d_ci_9)
  have N_7 := Fr.snoc X_7 N0 g1
  have F_7 := f_6.same W_7
  have Z_8 : n0 ≤ h_7.size := Nat.le_trans Z_3 (Keep.of_wr W_7).1
  have K_9 : Keep h0 h_7 [a1] := K_4.wr W_7 (Or.inl (List.mem_of_getElem? (i := 0) rfl))
  refine own_go (S' := T_7.setTop (mkF m 12 #[.val (.ref a1)] [])) (fun target kt => ?_) ?_
  · show Steps p.tables e below (s₁.setTop (mkF m 0 #[.val (.ref a1)] [])) target
    refine XS.aloadN X0.here hx rfl (hb hby d_ci_0) rfl rfl ?_
    show Steps p.tables e below (s₁.setTop (mkF m 1 #[.val (.ref a1)] [(.ref a1)])) target
    refine st_1 _ ?_
    show Steps p.tables e below (T_1.setTop (mkF m 4 #[.val (.ref a1)] [])) target
    refine XS.aloadN X_1.here hx rfl (hb hby d_ci_4) rfl rfl ?_
    show Steps p.tables e below (T_1.setTop (mkF m 5 #[.val (.ref a1)] [(.ref a1)])) target
    refine XS.bipush X_1.here hx rfl (hb hby d_ci_5) ?_
    show Steps p.tables e below (T_1.setTop (mkF m 7 #[.val (.ref a1)] [(.int (6 : Int32)), (.ref a1)])) target
    refine st_2 _ ?_
    show Steps p.tables e below (T_2.setTop (mkF m 9 #[.val (.ref a1)] [(.ref b_2), (.ref a1)])) target
    refine st_7 _ ?_
    show Steps p.tables e below (T_7.setTop (mkF m 12 #[.val (.ref a1)] [])) target
    exact kt
  obtain ⟨fs, hr, hrun, hended, hW, hsame⟩ := X_7.leave (v := none) (fun _ => rfl)
  refine ⟨_, _, X_7.returnOut hx Bd.returns (hb hby d_ci_12) hr, hrun, hended, _, _, rfl, ?_, ⟨_, rfl⟩, hW, hsame.mono (by decide) (by decide)⟩
  show Q_ci Z a1 h0 n0 _ T_7.heap _
  rw [e_7]
  have f_10 := (f_5.wr W_7)
  have f_11 := ((F2.ext E_2).other W_7 (Or.inr (slot_ne (Or.inl (hw _ (List.mem_of_getElem? (i := 19) rfl))) (Or.inr (hw _ (List.mem_of_getElem? (i := 12) rfl))) (by decide) (t := .long) (t' := (.array .long)) (by decide) (by decide))))
  have f_12 := (V_2.other W_7 (Ne.symm ne_a1_b_2))
  exact ⟨b_2, k_2, rfl, N_7, K_9, f_10, F_7, f_11, sz_b_2, ne_a1_b_2, f_12⟩
-- com/example/honeybee/honeybee/crawl/CrawlCounts.pages:()J
theorem d_pages_0 : decode prog_1_method_6_code 0 = .ok (.aload_n 0, 1) := by decide +kernel
theorem d_pages_1 : decode prog_1_method_6_code 1 = .ok (.getfield 7, 3) := by decide +kernel
theorem d_pages_4 : decode prog_1_method_6_code 4 = .ok (.iconst 2, 1) := by decide +kernel
theorem d_pages_5 : decode prog_1_method_6_code 5 = .ok (.laload, 1) := by decide +kernel
theorem d_pages_6 : decode prog_1_method_6_code 6 = .ok (.aload_n 0, 1) := by decide +kernel
theorem d_pages_7 : decode prog_1_method_6_code 7 = .ok (.getfield 7, 3) := by decide +kernel
theorem d_pages_10 : decode prog_1_method_6_code 10 = .ok (.iconst 3, 1) := by decide +kernel
theorem d_pages_11 : decode prog_1_method_6_code 11 = .ok (.laload, 1) := by decide +kernel
theorem d_pages_12 : decode prog_1_method_6_code 12 = .ok (.ladd, 1) := by decide +kernel
theorem d_pages_13 : decode prog_1_method_6_code 13 = .ok (.aload_n 0, 1) := by decide +kernel
theorem d_pages_14 : decode prog_1_method_6_code 14 = .ok (.getfield 7, 3) := by decide +kernel
theorem d_pages_17 : decode prog_1_method_6_code 17 = .ok (.iconst 4, 1) := by decide +kernel
theorem d_pages_18 : decode prog_1_method_6_code 18 = .ok (.laload, 1) := by decide +kernel
theorem d_pages_19 : decode prog_1_method_6_code 19 = .ok (.ladd, 1) := by decide +kernel
theorem d_pages_20 : decode prog_1_method_6_code 20 = .ok (.aload_n 0, 1) := by decide +kernel
theorem d_pages_21 : decode prog_1_method_6_code 21 = .ok (.getfield 7, 3) := by decide +kernel
theorem d_pages_24 : decode prog_1_method_6_code 24 = .ok (.iconst 5, 1) := by decide +kernel
theorem d_pages_25 : decode prog_1_method_6_code 25 = .ok (.laload, 1) := by decide +kernel
theorem d_pages_26 : decode prog_1_method_6_code 26 = .ok (.ladd, 1) := by decide +kernel
theorem d_pages_27 : decode prog_1_method_6_code 27 = .ok (.aload_n 0, 1) := by decide +kernel
theorem d_pages_28 : decode prog_1_method_6_code 28 = .ok (.getfield 13, 3) := by decide +kernel
theorem d_pages_31 : decode prog_1_method_6_code 31 = .ok (.ladd, 1) := by decide +kernel
theorem d_pages_32 : decode prog_1_method_6_code 32 = .ok (.lreturn, 1) := by decide +kernel
theorem pn_pages : plainName "com/example/honeybee/honeybee/crawl/CrawlCounts" = true := by first | (simp [plainName, overriddenIn]; done) | decide +kernel
theorem ef_pages (m : MethodId) (a1 : Addr) : entryFrame m #[(.ref a1)] 1 = mkF m 0 #[.val (.ref a1)] [] := by first | (simp [entryFrame, mkF, argsToLocals, Value.category]; done) | rfl
def Q_pages (Z : State) (a1 : Addr) (b : Addr) (k : ClassId) (v0 : Int64) (v1 : Int64) (v2 : Int64) (v3 : Int64) (v4 : Int64) (v5 : Int64) (f1 : Int64) (h0 : Heap) (n0 : Nat) (v : Option Value) (h : Heap) (L : List Loc) : Prop := v = some (.long ((((v2 + v3) + v4) + v5) + f1)) ∧ Fr n0 L ∧ h = h0
set_option maxRecDepth 65536 in
set_option maxHeartbeats 40000000 in
theorem rm_pages (l : Launch) (Z : State) (a0 : Array Value) (hw : ∀ d ∈ tables_1, d.before a0 Z = true) (ws : List Jvm.Cond) (a1 : Addr) (b : Addr) (k : ClassId) (v0 : Int64) (v1 : Int64) (v2 : Int64) (v3 : Int64) (v4 : Int64) (v5 : Int64) (f1 : Int64) (h0 : Heap) (n0 : Nat) (Z0 : n0 ≤ h0.size) (E1 : Exa Z h0 a1 "com/example/honeybee/honeybee/crawl/CrawlCounts") (F1 : Fld Z h0 a1 "com/example/honeybee/honeybee/crawl/CrawlCounts" "byClass" "[J" (.ref b)) (F2 : Fld Z h0 a1 "com/example/honeybee/honeybee/crawl/CrawlCounts" "failed" "J" (.long f1)) (V1 : Arv Z h0 b k .long (6 : Int32) [(.long v0), (.long v1), (.long v2), (.long v3), (.long v4), (.long v5)] (.long (0 : Int64))) :
    MetFree l (⟨"com/example/honeybee/honeybee/crawl/CrawlCounts", "pages", "()J"⟩ : MethodName) (head1 (Jvm.Cond.code (⟨"com/example/honeybee/honeybee/crawl/CrawlCounts", "pages", "()J"⟩ : MethodName) prog_1_method_6_code 1 (some .long) :: ws) ({ frames := 0, cells := 0, slots := 0, locals := 0 } : Room)) (fun a U => a = #[(.ref a1)] ∧ Z.Warmed39 U.vm ∧ U.heap = h0) (fun _ _ _ _ _ => True) (fun _ U o U' => ∃ v L, o = .returned v ∧ Q_pages Z a1 b k v0 v1 v2 v3 v4 v5 f1 h0 n0 v U'.heap L ∧ FrameEnd U o U' L ({ frames := 0, cells := 0, slots := 0, locals := 0 } : Room).cells ({ frames := 0, cells := 0, slots := 0, locals := 0 } : Room).slots) := by
  refine MetFree.of_bodySF (plainFor_of_name pn_pages) hisR ?_
  intro p e s m args below meth c s₁ Bd hml0 hP hK
  obtain ⟨rfl, hZ, hh⟩ := hP
  have hx := Bd.exec
  have hby := Bd.bytes
  have hml : c.maxLocals = 1 := hml0
  have hown : s.vm.findClass "com/example/honeybee/honeybee/crawl/CrawlCounts" = some m.cls := findClass_of_methodNamed Bd.named
  have hnm := (name_of_methodNamed Bd.named Bd.method).1
  have X0 : Stand p l e ({ frames := 0, cells := 0, slots := 0, locals := 0 } : Room) s m #[(.ref a1)] below meth c s₁ [] 0 0 := Stand.of_body Bd
  have e0 : s₁.heap = h0 := by rw [← hh, Bd.state]; rfl
  have N0 := Fr.nil n0
  refine own_in ?_
  refine own_go (S' := s₁.setTop (mkF m 0 #[.val (.ref a1)] [])) (fun tgt_ stp_ => castTop (ef_pages m a1) stp_) ?_
  obtain ⟨T_1, X_1, e_1, st_1⟩ := getF X0 hx hZ hown (host := "") (Or.inl (hw _ (List.mem_of_getElem? (i := 11) rfl))) Via.refl e0 F1 (g := (mkF m 1 #[.val (.ref a1)] [(.ref a1)])) rfl rfl (hb hby d_pages_1)
  obtain ⟨c_2, Ar_2, q_2, S_2, M_2, Hs_2, G_2⟩ := id V1
  have hin_2 : ¬ ((2 : Int32) < 0 ∨ c_2.slots.size ≤ ((2 : Int32)).toNatClampNeg) := inb_of S_2 ⟨by decide, by decide⟩
  have hat_2 : c_2.slots[((2 : Int32)).toNatClampNeg]? = some (.long v2) := Hs_2.at hin_2 rfl
  obtain ⟨T_3, X_3, e_3, st_3⟩ := getF X_1 hx hZ hown (host := "") (Or.inl (hw _ (List.mem_of_getElem? (i := 11) rfl))) Via.refl e_1 F1 (g := (mkF m 7 #[.val (.ref a1)] [(.ref a1), (.long v2)])) rfl rfl (hb hby d_pages_7)
  obtain ⟨c_4, Ar_4, q_4, S_4, M_4, Hs_4, G_4⟩ := id V1
  have hin_4 : ¬ ((3 : Int32) < 0 ∨ c_4.slots.size ≤ ((3 : Int32)).toNatClampNeg) := inb_of S_4 ⟨by decide, by decide⟩
  have hat_4 : c_4.slots[((3 : Int32)).toNatClampNeg]? = some (.long v3) := Hs_4.at hin_4 rfl
  obtain ⟨T_5, X_5, e_5, st_5⟩ := getF X_3 hx hZ hown (host := "") (Or.inl (hw _ (List.mem_of_getElem? (i := 11) rfl))) Via.refl e_3 F1 (g := (mkF m 14 #[.val (.ref a1)] [(.ref a1), (.long (v2 + v3))])) rfl rfl (hb hby d_pages_14)
  obtain ⟨c_6, Ar_6, q_6, S_6, M_6, Hs_6, G_6⟩ := id V1
  have hin_6 : ¬ ((4 : Int32) < 0 ∨ c_6.slots.size ≤ ((4 : Int32)).toNatClampNeg) := inb_of S_6 ⟨by decide, by decide⟩
  have hat_6 : c_6.slots[((4 : Int32)).toNatClampNeg]? = some (.long v4) := Hs_6.at hin_6 rfl
  obtain ⟨T_7, X_7, e_7, st_7⟩ := getF X_5 hx hZ hown (host := "") (Or.inl (hw _ (List.mem_of_getElem? (i := 11) rfl))) Via.refl e_5 F1 (g := (mkF m 21 #[.val (.ref a1)] [(.ref a1), (.long ((v2 + v3) + v4))])) rfl rfl (hb hby d_pages_21)
  obtain ⟨c_8, Ar_8, q_8, S_8, M_8, Hs_8, G_8⟩ := id V1
  have hin_8 : ¬ ((5 : Int32) < 0 ∨ c_8.slots.size ≤ ((5 : Int32)).toNatClampNeg) := inb_of S_8 ⟨by decide, by decide⟩
  have hat_8 : c_8.slots[((5 : Int32)).toNatClampNeg]? = some (.long v5) := Hs_8.at hin_8 rfl
  obtain ⟨T_9, X_9, e_9, st_9⟩ := getF X_7 hx hZ hown (host := "") (Or.inl (hw _ (List.mem_of_getElem? (i := 18) rfl))) Via.refl e_7 F2 (g := (mkF m 28 #[.val (.ref a1)] [(.ref a1), (.long (((v2 + v3) + v4) + v5))])) rfl rfl (hb hby d_pages_28)
  refine own_go (S' := T_9.setTop (mkF m 32 #[.val (.ref a1)] [(.long ((((v2 + v3) + v4) + v5) + f1))])) (fun target kt => ?_) ?_
  · show Steps p.tables e below (s₁.setTop (mkF m 0 #[.val (.ref a1)] [])) target
    refine XS.aloadN X0.here hx rfl (hb hby d_pages_0) rfl rfl ?_
    show Steps p.tables e below (s₁.setTop (mkF m 1 #[.val (.ref a1)] [(.ref a1)])) target
    refine st_1 _ ?_
    show Steps p.tables e below (T_1.setTop (mkF m 4 #[.val (.ref a1)] [(.ref b)])) target
    refine XS.iconst X_1.here hx rfl (hb hby d_pages_4) ?_
    show Steps p.tables e below (T_1.setTop (mkF m 5 #[.val (.ref a1)] [(.int (2 : Int32)), (.ref b)])) target
    refine X_1.laload hx (j := (2 : Int32)) (v := (.long v2)) (by rw [e_1]; exact Ar_2.1) (State.isArrayOf_alike hZ.alike Ar_2.2.1) Ar_2.2.2 hin_2 hat_2 (g := (mkF m 5 #[.val (.ref a1)] [(.int (2 : Int32)), (.ref b)])) rfl rfl (hb hby d_pages_5) _ ?_
    show Steps p.tables e below (T_1.setTop (mkF m 6 #[.val (.ref a1)] [(.long v2)])) target
    refine XS.aloadN X_1.here hx rfl (hb hby d_pages_6) rfl rfl ?_
    show Steps p.tables e below (T_1.setTop (mkF m 7 #[.val (.ref a1)] [(.ref a1), (.long v2)])) target
    refine st_3 _ ?_
    show Steps p.tables e below (T_3.setTop (mkF m 10 #[.val (.ref a1)] [(.ref b), (.long v2)])) target
    refine XS.iconst X_3.here hx rfl (hb hby d_pages_10) ?_
    show Steps p.tables e below (T_3.setTop (mkF m 11 #[.val (.ref a1)] [(.int (3 : Int32)), (.ref b), (.long v2)])) target
    refine X_3.laload hx (j := (3 : Int32)) (v := (.long v3)) (by rw [e_3]; exact Ar_4.1) (State.isArrayOf_alike hZ.alike Ar_4.2.1) Ar_4.2.2 hin_4 hat_4 (g := (mkF m 11 #[.val (.ref a1)] [(.int (3 : Int32)), (.ref b), (.long v2)])) rfl rfl (hb hby d_pages_11) _ ?_
    show Steps p.tables e below (T_3.setTop (mkF m 12 #[.val (.ref a1)] [(.long v3), (.long v2)])) target
    refine XS.ladd X_3.here hx rfl (hb hby d_pages_12) rfl ?_
    show Steps p.tables e below (T_3.setTop (mkF m 13 #[.val (.ref a1)] [(.long (v2 + v3))])) target
    refine XS.aloadN X_3.here hx rfl (hb hby d_pages_13) rfl rfl ?_
    show Steps p.tables e below (T_3.setTop (mkF m 14 #[.val (.ref a1)] [(.ref a1), (.long (v2 + v3))])) target
    refine st_5 _ ?_
    show Steps p.tables e below (T_5.setTop (mkF m 17 #[.val (.ref a1)] [(.ref b), (.long (v2 + v3))])) target
    refine XS.iconst X_5.here hx rfl (hb hby d_pages_17) ?_
    show Steps p.tables e below (T_5.setTop (mkF m 18 #[.val (.ref a1)] [(.int (4 : Int32)), (.ref b), (.long (v2 + v3))])) target
    refine X_5.laload hx (j := (4 : Int32)) (v := (.long v4)) (by rw [e_5]; exact Ar_6.1) (State.isArrayOf_alike hZ.alike Ar_6.2.1) Ar_6.2.2 hin_6 hat_6 (g := (mkF m 18 #[.val (.ref a1)] [(.int (4 : Int32)), (.ref b), (.long (v2 + v3))])) rfl rfl (hb hby d_pages_18) _ ?_
    show Steps p.tables e below (T_5.setTop (mkF m 19 #[.val (.ref a1)] [(.long v4), (.long (v2 + v3))])) target
    refine XS.ladd X_5.here hx rfl (hb hby d_pages_19) rfl ?_
    show Steps p.tables e below (T_5.setTop (mkF m 20 #[.val (.ref a1)] [(.long ((v2 + v3) + v4))])) target
    refine XS.aloadN X_5.here hx rfl (hb hby d_pages_20) rfl rfl ?_
    show Steps p.tables e below (T_5.setTop (mkF m 21 #[.val (.ref a1)] [(.ref a1), (.long ((v2 + v3) + v4))])) target
    refine st_7 _ ?_
    show Steps p.tables e below (T_7.setTop (mkF m 24 #[.val (.ref a1)] [(.ref b), (.long ((v2 + v3) + v4))])) target
    refine XS.iconst X_7.here hx rfl (hb hby d_pages_24) ?_
    show Steps p.tables e below (T_7.setTop (mkF m 25 #[.val (.ref a1)] [(.int (5 : Int32)), (.ref b), (.long ((v2 + v3) + v4))])) target
    refine X_7.laload hx (j := (5 : Int32)) (v := (.long v5)) (by rw [e_7]; exact Ar_8.1) (State.isArrayOf_alike hZ.alike Ar_8.2.1) Ar_8.2.2 hin_8 hat_8 (g := (mkF m 25 #[.val (.ref a1)] [(.int (5 : Int32)), (.ref b), (.long ((v2 + v3) + v4))])) rfl rfl (hb hby d_pages_25) _ ?_
    show Steps p.tables e below (T_7.setTop (mkF m 26 #[.val (.ref a1)] [(.long v5), (.long ((v2 + v3) + v4))])) target
    refine XS.ladd X_7.here hx rfl (hb hby d_pages_26) rfl ?_
    show Steps p.tables e below (T_7.setTop (mkF m 27 #[.val (.ref a1)] [(.long (((v2 + v3) + v4) + v5))])) target
    refine XS.aloadN X_7.here hx rfl (hb hby d_pages_27) rfl rfl ?_
    show Steps p.tables e below (T_7.setTop (mkF m 28 #[.val (.ref a1)] [(.ref a1), (.long (((v2 + v3) + v4) + v5))])) target
    refine st_9 _ ?_
    show Steps p.tables e below (T_9.setTop (mkF m 31 #[.val (.ref a1)] [(.long f1), (.long (((v2 + v3) + v4) + v5))])) target
    refine XS.ladd X_9.here hx rfl (hb hby d_pages_31) rfl ?_
    show Steps p.tables e below (T_9.setTop (mkF m 32 #[.val (.ref a1)] [(.long ((((v2 + v3) + v4) + v5) + f1))])) target
    exact kt
  obtain ⟨fs, hr, hrun, hended, hW, hsame⟩ := X_9.leave (v := some (.long ((((v2 + v3) + v4) + v5) + f1))) (fun h => by rw [Bd.returns] at h; cases h)
  refine ⟨_, _, Jvm.Stand.lreturnOut X_9 hx Bd.returns (hb hby d_pages_32) hr, hrun, hended, _, _, rfl, ?_, ⟨_, rfl⟩, hW, hsame.mono (by decide) (by decide)⟩
  show Q_pages Z a1 b k v0 v1 v2 v3 v4 v5 f1 h0 n0 _ T_9.heap _
  rw [e_9]
  exact ⟨rfl, N0, rfl⟩
-- com/example/honeybee/honeybee/crawl/CrawlCounts.countAnswer:(I)V
theorem d_ca_0 : decode prog_1_method_2_code 0 = .ok (.iload_n 1, 1) := by decide +kernel
theorem d_ca_1 : decode prog_1_method_2_code 1 = .ok (.sipush 200, 3) := by decide +kernel
theorem d_ca_4 : decode prog_1_method_2_code 4 = .ok (.if_icmp .lt 26, 3) := by decide +kernel
theorem d_ca_7 : decode prog_1_method_2_code 7 = .ok (.iload_n 1, 1) := by decide +kernel
theorem d_ca_8 : decode prog_1_method_2_code 8 = .ok (.sipush 599, 3) := by decide +kernel
theorem d_ca_11 : decode prog_1_method_2_code 11 = .ok (.if_icmp .gt 19, 3) := by decide +kernel
theorem d_ca_14 : decode prog_1_method_2_code 14 = .ok (.aload_n 0, 1) := by decide +kernel
theorem d_ca_15 : decode prog_1_method_2_code 15 = .ok (.getfield 7, 3) := by decide +kernel
theorem d_ca_18 : decode prog_1_method_2_code 18 = .ok (.iload_n 1, 1) := by decide +kernel
theorem d_ca_19 : decode prog_1_method_2_code 19 = .ok (.bipush 100, 2) := by decide +kernel
theorem d_ca_21 : decode prog_1_method_2_code 21 = .ok (.idiv, 1) := by decide +kernel
theorem d_ca_22 : decode prog_1_method_2_code 22 = .ok (.dup2, 1) := by decide +kernel
theorem d_ca_23 : decode prog_1_method_2_code 23 = .ok (.laload, 1) := by decide +kernel
theorem d_ca_24 : decode prog_1_method_2_code 24 = .ok (.lconst 1, 1) := by decide +kernel
theorem d_ca_25 : decode prog_1_method_2_code 25 = .ok (.ladd, 1) := by decide +kernel
theorem d_ca_26 : decode prog_1_method_2_code 26 = .ok (.lastore, 1) := by decide +kernel
theorem d_ca_27 : decode prog_1_method_2_code 27 = .ok (.goto 13, 3) := by decide +kernel
theorem d_ca_30 : decode prog_1_method_2_code 30 = .ok (.aload_n 0, 1) := by decide +kernel
theorem d_ca_31 : decode prog_1_method_2_code 31 = .ok (.dup, 1) := by decide +kernel
theorem d_ca_32 : decode prog_1_method_2_code 32 = .ok (.getfield 13, 3) := by decide +kernel
theorem d_ca_35 : decode prog_1_method_2_code 35 = .ok (.lconst 1, 1) := by decide +kernel
theorem d_ca_36 : decode prog_1_method_2_code 36 = .ok (.ladd, 1) := by decide +kernel
theorem d_ca_37 : decode prog_1_method_2_code 37 = .ok (.putfield 13, 3) := by decide +kernel
theorem d_ca_40 : decode prog_1_method_2_code 40 = .ok (.return_, 1) := by decide +kernel
theorem pn_ca : plainName "com/example/honeybee/honeybee/crawl/CrawlCounts" = true := by first | (simp [plainName, overriddenIn]; done) | decide +kernel
theorem ef_ca (m : MethodId) (a1 : Addr) (p1 : Int32) : entryFrame m #[(.ref a1), (.int p1)] 2 = mkF m 0 #[.val (.ref a1), .val (.int p1)] [] := by first | (simp [entryFrame, mkF, argsToLocals, Value.category]; done) | rfl
def Q_ca (Z : State) (a1 : Addr) (p1 : Int32) (b : Addr) (k : ClassId) (v0 : Int64) (v1 : Int64) (v2 : Int64) (v3 : Int64) (v4 : Int64) (v5 : Int64) (f1 : Int64) (h0 : Heap) (n0 : Nat) (v : Option Value) (h : Heap) (L : List Loc) : Prop := v = none ∧ Fr n0 L ∧ Keep h0 h [a1, b] ∧ Exa Z h a1 "com/example/honeybee/honeybee/crawl/CrawlCounts" ∧ Fld Z h a1 "com/example/honeybee/honeybee/crawl/CrawlCounts" "byClass" "[J" (.ref b) ∧ Fld Z h a1 "com/example/honeybee/honeybee/crawl/CrawlCounts" "failed" "J" (.long (f1 + own_hit p1 (-1 : Int32))) ∧ Arv Z h b k .long (6 : Int32) [(.long v0), (.long v1), (.long (v2 + own_hit p1 (2 : Int32))), (.long (v3 + own_hit p1 (3 : Int32))), (.long (v4 + own_hit p1 (4 : Int32))), (.long (v5 + own_hit p1 (5 : Int32)))] (.long (0 : Int64))
set_option maxRecDepth 65536 in
set_option maxHeartbeats 40000000 in
theorem rm_ca (l : Launch) (Z : State) (a0 : Array Value) (hw : ∀ d ∈ tables_1, d.before a0 Z = true) (ws : List Jvm.Cond) (a1 : Addr) (p1 : Int32) (b : Addr) (k : ClassId) (v0 : Int64) (v1 : Int64) (v2 : Int64) (v3 : Int64) (v4 : Int64) (v5 : Int64) (f1 : Int64) (h0 : Heap) (n0 : Nat) (Z0 : n0 ≤ h0.size) (E1 : Exa Z h0 a1 "com/example/honeybee/honeybee/crawl/CrawlCounts") (F1 : Fld Z h0 a1 "com/example/honeybee/honeybee/crawl/CrawlCounts" "byClass" "[J" (.ref b)) (F2 : Fld Z h0 a1 "com/example/honeybee/honeybee/crawl/CrawlCounts" "failed" "J" (.long f1)) (V1 : Arv Z h0 b k .long (6 : Int32) [(.long v0), (.long v1), (.long v2), (.long v3), (.long v4), (.long v5)] (.long (0 : Int64))) (g1 : n0 ≤ a1) (g2 : n0 ≤ b) (n1 : a1 ≠ b) :
    MetFree l (⟨"com/example/honeybee/honeybee/crawl/CrawlCounts", "countAnswer", "(I)V"⟩ : MethodName) (head1 (Jvm.Cond.code (⟨"com/example/honeybee/honeybee/crawl/CrawlCounts", "countAnswer", "(I)V"⟩ : MethodName) prog_1_method_2_code 2 none :: ws) ({ frames := 0, cells := 0, slots := 0, locals := 0 } : Room)) (fun a U => a = #[(.ref a1), (.int p1)] ∧ Z.Warmed39 U.vm ∧ U.heap = h0) (fun _ _ _ _ _ => True) (fun _ U o U' => ∃ v L, o = .returned v ∧ Q_ca Z a1 p1 b k v0 v1 v2 v3 v4 v5 f1 h0 n0 v U'.heap L ∧ FrameEnd U o U' L ({ frames := 0, cells := 0, slots := 0, locals := 0 } : Room).cells ({ frames := 0, cells := 0, slots := 0, locals := 0 } : Room).slots) := by
  refine MetFree.of_bodySF (plainFor_of_name pn_ca) hisR ?_
  intro p e s m args below meth c s₁ Bd hml0 hP hK
  obtain ⟨rfl, hZ, hh⟩ := hP
  have hx := Bd.exec
  have hby := Bd.bytes
  have hml : c.maxLocals = 2 := hml0
  have hown : s.vm.findClass "com/example/honeybee/honeybee/crawl/CrawlCounts" = some m.cls := findClass_of_methodNamed Bd.named
  have hnm := (name_of_methodNamed Bd.named Bd.method).1
  have X0 : Stand p l e ({ frames := 0, cells := 0, slots := 0, locals := 0 } : Room) s m #[(.ref a1), (.int p1)] below meth c s₁ [] 0 0 := Stand.of_body Bd
  have e0 : s₁.heap = h0 := by rw [← hh, Bd.state]; rfl
  have N0 := Fr.nil n0
  refine own_in ?_
  refine own_go (S' := s₁.setTop (mkF m 0 #[.val (.ref a1), .val (.int p1)] [])) (fun tgt_ stp_ => castTop (ef_ca m a1 p1) stp_) ?_
  have K0 : Keep h0 h0 [a1, b] := Keep.refl h0 _
  refine own_go (S' := s₁.setTop (mkF m 4 #[.val (.ref a1), .val (.int p1)] [(.int (200 : Int32)), (.int p1)])) (fun target kt => ?_) ?_
  · show Steps p.tables e below (s₁.setTop (mkF m 0 #[.val (.ref a1), .val (.int p1)] [])) target
    refine XS.iloadN X0.here hx rfl (hb hby d_ca_0) rfl ?_
    show Steps p.tables e below (s₁.setTop (mkF m 1 #[.val (.ref a1), .val (.int p1)] [(.int p1)])) target
    refine XS.sipush X0.here hx rfl (hb hby d_ca_1) ?_
    show Steps p.tables e below (s₁.setTop (mkF m 4 #[.val (.ref a1), .val (.int p1)] [(.int (200 : Int32)), (.int p1)])) target
    exact kt
  by_cases hc4 : p1 < (200 : Int32)
  · -- pc 4: yes
    obtain ⟨e2, e3, e4, e5, em⟩ := own_out (p := p1) (Or.inl hc4)
    obtain ⟨T_1, X_1, e_1, st_1⟩ := getF X0 hx hZ hown (host := "") (Or.inl (hw _ (List.mem_of_getElem? (i := 18) rfl))) Via.refl e0 F2 (g := (mkF m 32 #[.val (.ref a1), .val (.int p1)] [(.ref a1), (.ref a1)])) rfl rfl (hb hby d_ca_32)
    obtain ⟨T_2, h_2, X_2, e_2, W_2, st_2⟩ := putF X_1 hx hZ hown (host := "") (Or.inl (hw _ (List.mem_of_getElem? (i := 18) rfl))) Via.refl e_1 F2 E1 (Or.inl (hw _ (List.mem_of_getElem? (i := 19) rfl))) (hw _ (List.mem_of_getElem? (i := 2) rfl)) (ty := .long) (by decide) rfl rfl (g := (mkF m 37 #[.val (.ref a1), .val (.int p1)] [(.long (f1 + (1 : Int64))), (.ref a1)])) rfl rfl (hb hby d_ca_37)
    have N_2 := Fr.snoc X_2 N0 g1
    have F_2 := F2.same W_2
    have Z_3 : n0 ≤ h_2.size := Nat.le_trans Z0 (Keep.of_wr W_2).1
    have K_4 : Keep h0 h_2 [a1, b] := K0.wr W_2 (Or.inl (List.mem_of_getElem? (i := 0) rfl))
    refine own_go (S' := T_2.setTop (mkF m 40 #[.val (.ref a1), .val (.int p1)] [])) (fun target kt => ?_) ?_
    · show Steps p.tables e below (s₁.setTop (mkF m 4 #[.val (.ref a1), .val (.int p1)] [(.int (200 : Int32)), (.int p1)])) target
      refine XS.icmpYes X0.here hx rfl (pc0 := 4) (pc' := 30) rfl (hb hby d_ca_4) rfl (tlt hc4).1 (by decide) (by decide) ?_
      show Steps p.tables e below (s₁.setTop (mkF m 30 #[.val (.ref a1), .val (.int p1)] [])) target
      refine XS.aloadN X0.here hx rfl (hb hby d_ca_30) rfl rfl ?_
      show Steps p.tables e below (s₁.setTop (mkF m 31 #[.val (.ref a1), .val (.int p1)] [(.ref a1)])) target
      refine XS.dup X0.here hx rfl (hb hby d_ca_31) rfl rfl ?_
      show Steps p.tables e below (s₁.setTop (mkF m 32 #[.val (.ref a1), .val (.int p1)] [(.ref a1), (.ref a1)])) target
      refine st_1 _ ?_
      show Steps p.tables e below (T_1.setTop (mkF m 35 #[.val (.ref a1), .val (.int p1)] [(.long f1), (.ref a1)])) target
      refine XS.lconst X_1.here hx rfl (hb hby d_ca_35) ?_
      show Steps p.tables e below (T_1.setTop (mkF m 36 #[.val (.ref a1), .val (.int p1)] [(.long (1 : Int64)), (.long f1), (.ref a1)])) target
      refine XS.ladd X_1.here hx rfl (hb hby d_ca_36) rfl ?_
      show Steps p.tables e below (T_1.setTop (mkF m 37 #[.val (.ref a1), .val (.int p1)] [(.long (f1 + (1 : Int64))), (.ref a1)])) target
      refine st_2 _ ?_
      show Steps p.tables e below (T_2.setTop (mkF m 40 #[.val (.ref a1), .val (.int p1)] [])) target
      exact kt
    obtain ⟨fs, hr, hrun, hended, hW, hsame⟩ := X_2.leave (v := none) (fun _ => rfl)
    refine ⟨_, _, X_2.returnOut hx Bd.returns (hb hby d_ca_40) hr, hrun, hended, _, _, rfl, ?_, ⟨_, rfl⟩, hW, hsame.mono (by decide) (by decide)⟩
    show Q_ca Z a1 p1 b k v0 v1 v2 v3 v4 v5 f1 h0 n0 _ T_2.heap _
    rw [e_2]
    have f_5 := (E1.wr W_2)
    have f_6 := (F1.other W_2 (Or.inr (slot_ne (Or.inr (hw _ (List.mem_of_getElem? (i := 12) rfl))) (Or.inl (hw _ (List.mem_of_getElem? (i := 19) rfl))) (by decide) (t := (.array .long)) (t' := .long) (by decide) (by decide))))
    have f_7 := (V1.other W_2 (Ne.symm n1))
    exact ⟨rfl, N_2, K_4, f_5, f_6, (by simpa [e2, e3, e4, e5, em] using F_2), (by simpa [e2, e3, e4, e5, em] using f_7)⟩
  · -- pc 4: no
    refine own_go (S' := s₁.setTop (mkF m 11 #[.val (.ref a1), .val (.int p1)] [(.int (599 : Int32)), (.int p1)])) (fun target kt => ?_) ?_
    · show Steps p.tables e below (s₁.setTop (mkF m 4 #[.val (.ref a1), .val (.int p1)] [(.int (200 : Int32)), (.int p1)])) target
      refine XS.icmpNo X0.here hx rfl (hb hby d_ca_4) rfl (flt hc4).1 ?_
      show Steps p.tables e below (s₁.setTop (mkF m 7 #[.val (.ref a1), .val (.int p1)] [])) target
      refine XS.iloadN X0.here hx rfl (hb hby d_ca_7) rfl ?_
      show Steps p.tables e below (s₁.setTop (mkF m 8 #[.val (.ref a1), .val (.int p1)] [(.int p1)])) target
      refine XS.sipush X0.here hx rfl (hb hby d_ca_8) ?_
      show Steps p.tables e below (s₁.setTop (mkF m 11 #[.val (.ref a1), .val (.int p1)] [(.int (599 : Int32)), (.int p1)])) target
      exact kt
    by_cases hc11 : (599 : Int32) < p1
    · -- pc 11: yes
      obtain ⟨e2, e3, e4, e5, em⟩ := own_out (p := p1) (Or.inr hc11)
      obtain ⟨T_8, X_8, e_8, st_8⟩ := getF X0 hx hZ hown (host := "") (Or.inl (hw _ (List.mem_of_getElem? (i := 18) rfl))) Via.refl e0 F2 (g := (mkF m 32 #[.val (.ref a1), .val (.int p1)] [(.ref a1), (.ref a1)])) rfl rfl (hb hby d_ca_32)
      obtain ⟨T_9, h_9, X_9, e_9, W_9, st_9⟩ := putF X_8 hx hZ hown (host := "") (Or.inl (hw _ (List.mem_of_getElem? (i := 18) rfl))) Via.refl e_8 F2 E1 (Or.inl (hw _ (List.mem_of_getElem? (i := 19) rfl))) (hw _ (List.mem_of_getElem? (i := 2) rfl)) (ty := .long) (by decide) rfl rfl (g := (mkF m 37 #[.val (.ref a1), .val (.int p1)] [(.long (f1 + (1 : Int64))), (.ref a1)])) rfl rfl (hb hby d_ca_37)
      have N_9 := Fr.snoc X_9 N0 g1
      have F_9 := F2.same W_9
      have Z_10 : n0 ≤ h_9.size := Nat.le_trans Z0 (Keep.of_wr W_9).1
      have K_11 : Keep h0 h_9 [a1, b] := K0.wr W_9 (Or.inl (List.mem_of_getElem? (i := 0) rfl))
      refine own_go (S' := T_9.setTop (mkF m 40 #[.val (.ref a1), .val (.int p1)] [])) (fun target kt => ?_) ?_
      · show Steps p.tables e below (s₁.setTop (mkF m 11 #[.val (.ref a1), .val (.int p1)] [(.int (599 : Int32)), (.int p1)])) target
        refine XS.icmpYes X0.here hx rfl (pc0 := 11) (pc' := 30) rfl (hb hby d_ca_11) rfl (tlt hc11).2.2.1 (by decide) (by decide) ?_
        show Steps p.tables e below (s₁.setTop (mkF m 30 #[.val (.ref a1), .val (.int p1)] [])) target
        refine XS.aloadN X0.here hx rfl (hb hby d_ca_30) rfl rfl ?_
        show Steps p.tables e below (s₁.setTop (mkF m 31 #[.val (.ref a1), .val (.int p1)] [(.ref a1)])) target
        refine XS.dup X0.here hx rfl (hb hby d_ca_31) rfl rfl ?_
        show Steps p.tables e below (s₁.setTop (mkF m 32 #[.val (.ref a1), .val (.int p1)] [(.ref a1), (.ref a1)])) target
        refine st_8 _ ?_
        show Steps p.tables e below (T_8.setTop (mkF m 35 #[.val (.ref a1), .val (.int p1)] [(.long f1), (.ref a1)])) target
        refine XS.lconst X_8.here hx rfl (hb hby d_ca_35) ?_
        show Steps p.tables e below (T_8.setTop (mkF m 36 #[.val (.ref a1), .val (.int p1)] [(.long (1 : Int64)), (.long f1), (.ref a1)])) target
        refine XS.ladd X_8.here hx rfl (hb hby d_ca_36) rfl ?_
        show Steps p.tables e below (T_8.setTop (mkF m 37 #[.val (.ref a1), .val (.int p1)] [(.long (f1 + (1 : Int64))), (.ref a1)])) target
        refine st_9 _ ?_
        show Steps p.tables e below (T_9.setTop (mkF m 40 #[.val (.ref a1), .val (.int p1)] [])) target
        exact kt
      obtain ⟨fs, hr, hrun, hended, hW, hsame⟩ := X_9.leave (v := none) (fun _ => rfl)
      refine ⟨_, _, X_9.returnOut hx Bd.returns (hb hby d_ca_40) hr, hrun, hended, _, _, rfl, ?_, ⟨_, rfl⟩, hW, hsame.mono (by decide) (by decide)⟩
      show Q_ca Z a1 p1 b k v0 v1 v2 v3 v4 v5 f1 h0 n0 _ T_9.heap _
      rw [e_9]
      have f_12 := (E1.wr W_9)
      have f_13 := (F1.other W_9 (Or.inr (slot_ne (Or.inr (hw _ (List.mem_of_getElem? (i := 12) rfl))) (Or.inl (hw _ (List.mem_of_getElem? (i := 19) rfl))) (by decide) (t := (.array .long)) (t' := .long) (by decide) (by decide))))
      have f_14 := (V1.other W_9 (Ne.symm n1))
      exact ⟨rfl, N_9, K_11, f_12, f_13, (by simpa [e2, e3, e4, e5, em] using F_9), (by simpa [e2, e3, e4, e5, em] using f_14)⟩
    · -- pc 11: no
      obtain ⟨T_15, X_15, e_15, st_15⟩ := getF X0 hx hZ hown (host := "") (Or.inl (hw _ (List.mem_of_getElem? (i := 11) rfl))) Via.refl e0 F1 (g := (mkF m 15 #[.val (.ref a1), .val (.int p1)] [(.ref a1)])) rfl rfl (hb hby d_ca_15)
      refine own_go (S' := T_15.setTop (mkF m 22 #[.val (.ref a1), .val (.int p1)] [(.int (p1 / (100 : Int32))), (.ref b)])) (fun target kt => ?_) ?_
      · show Steps p.tables e below (s₁.setTop (mkF m 11 #[.val (.ref a1), .val (.int p1)] [(.int (599 : Int32)), (.int p1)])) target
        refine XS.icmpNo X0.here hx rfl (hb hby d_ca_11) rfl (flt hc11).2.2.1 ?_
        show Steps p.tables e below (s₁.setTop (mkF m 14 #[.val (.ref a1), .val (.int p1)] [])) target
        refine XS.aloadN X0.here hx rfl (hb hby d_ca_14) rfl rfl ?_
        show Steps p.tables e below (s₁.setTop (mkF m 15 #[.val (.ref a1), .val (.int p1)] [(.ref a1)])) target
        refine st_15 _ ?_
        show Steps p.tables e below (T_15.setTop (mkF m 18 #[.val (.ref a1), .val (.int p1)] [(.ref b)])) target
        refine XS.iloadN X_15.here hx rfl (hb hby d_ca_18) rfl ?_
        show Steps p.tables e below (T_15.setTop (mkF m 19 #[.val (.ref a1), .val (.int p1)] [(.int p1), (.ref b)])) target
        refine XS.bipush X_15.here hx rfl (hb hby d_ca_19) ?_
        show Steps p.tables e below (T_15.setTop (mkF m 21 #[.val (.ref a1), .val (.int p1)] [(.int (100 : Int32)), (.int p1), (.ref b)])) target
        refine XS.idiv X_15.here hx rfl (hb hby d_ca_21) rfl (by decide) ?_
        show Steps p.tables e below (T_15.setTop (mkF m 22 #[.val (.ref a1), .val (.int p1)] [(.int (p1 / (100 : Int32))), (.ref b)])) target
        exact kt
      rcases own_div hc4 hc11 with ⟨hd, e2, e3, e4, e5, em⟩ | ⟨hd, e2, e3, e4, e5, em⟩ | ⟨hd, e2, e3, e4, e5, em⟩ | ⟨hd, e2, e3, e4, e5, em⟩
      · skip
        rw [hd]
        obtain ⟨c_16, Ar_16, q_16, S_16, M_16, Hs_16, G_16⟩ := id V1
        have hin_16 : ¬ ((2 : Int32) < 0 ∨ c_16.slots.size ≤ ((2 : Int32)).toNatClampNeg) := inb_of S_16 ⟨by decide, by decide⟩
        have hat_16 : c_16.slots[((2 : Int32)).toNatClampNeg]? = some (.long v2) := Hs_16.at hin_16 rfl
        obtain ⟨c_17, Ar_17, q_17, S_17, M_17, Hs_17, G_17⟩ := id V1
        have hin_17 : ¬ ((2 : Int32) < 0 ∨ c_17.slots.size ≤ ((2 : Int32)).toNatClampNeg) := inb_of S_17 ⟨by decide, by decide⟩
        obtain ⟨T_17, h_17, X_17, e_17, W_17, st_17⟩ := stJ X_15 hx hZ e_15 Ar_17 (j := (2 : Int32)) hin_17 (g := (mkF m 26 #[.val (.ref a1), .val (.int p1)] [(.long (v2 + (1 : Int64))), (.int (2 : Int32)), (.ref b)])) rfl rfl (hb hby d_ca_26)
        have N_17 := Fr.snoc X_17 N0 g2
        have V_17 : Arv Z h_17 b k .long (6 : Int32) [(.long v0), (.long v1), (.long (v2 + (1 : Int64))), (.long v3), (.long v4), (.long v5)] (.long (0 : Int64)) := Arv.set Ar_17 q_17 S_17 M_17 Hs_17 G_17 rfl W_17 2 rfl (Nat.le_of_ble_eq_true rfl)
        have Z_18 : n0 ≤ h_17.size := Nat.le_trans Z0 (Keep.of_wr W_17).1
        have K_19 : Keep h0 h_17 [a1, b] := K0.wr W_17 (Or.inl (List.mem_of_getElem? (i := 1) rfl))
        refine own_go (S' := T_17.setTop (mkF m 40 #[.val (.ref a1), .val (.int p1)] [])) (fun target kt => ?_) ?_
        · show Steps p.tables e below (T_15.setTop (mkF m 22 #[.val (.ref a1), .val (.int p1)] [(.int (2 : Int32)), (.ref b)])) target
          refine Jvm.Free.XT.dup2 X_15.here hx rfl (hb hby d_ca_22) rfl rfl rfl ?_
          show Steps p.tables e below (T_15.setTop (mkF m 23 #[.val (.ref a1), .val (.int p1)] [(.int (2 : Int32)), (.ref b), (.int (2 : Int32)), (.ref b)])) target
          refine X_15.laload hx (j := (2 : Int32)) (v := (.long v2)) (by rw [e_15]; exact Ar_16.1) (State.isArrayOf_alike hZ.alike Ar_16.2.1) Ar_16.2.2 hin_16 hat_16 (g := (mkF m 23 #[.val (.ref a1), .val (.int p1)] [(.int (2 : Int32)), (.ref b), (.int (2 : Int32)), (.ref b)])) rfl rfl (hb hby d_ca_23) _ ?_
          show Steps p.tables e below (T_15.setTop (mkF m 24 #[.val (.ref a1), .val (.int p1)] [(.long v2), (.int (2 : Int32)), (.ref b)])) target
          refine XS.lconst X_15.here hx rfl (hb hby d_ca_24) ?_
          show Steps p.tables e below (T_15.setTop (mkF m 25 #[.val (.ref a1), .val (.int p1)] [(.long (1 : Int64)), (.long v2), (.int (2 : Int32)), (.ref b)])) target
          refine XS.ladd X_15.here hx rfl (hb hby d_ca_25) rfl ?_
          show Steps p.tables e below (T_15.setTop (mkF m 26 #[.val (.ref a1), .val (.int p1)] [(.long (v2 + (1 : Int64))), (.int (2 : Int32)), (.ref b)])) target
          refine st_17 _ ?_
          show Steps p.tables e below (T_17.setTop (mkF m 27 #[.val (.ref a1), .val (.int p1)] [])) target
          refine XS.goto X_17.here hx rfl (pc0 := 27) (pc' := 40) rfl (hb hby d_ca_27) (by decide) (by decide) ?_
          show Steps p.tables e below (T_17.setTop (mkF m 40 #[.val (.ref a1), .val (.int p1)] [])) target
          exact kt
        obtain ⟨fs, hr, hrun, hended, hW, hsame⟩ := X_17.leave (v := none) (fun _ => rfl)
        refine ⟨_, _, X_17.returnOut hx Bd.returns (hb hby d_ca_40) hr, hrun, hended, _, _, rfl, ?_, ⟨_, rfl⟩, hW, hsame.mono (by decide) (by decide)⟩
        show Q_ca Z a1 p1 b k v0 v1 v2 v3 v4 v5 f1 h0 n0 _ T_17.heap _
        rw [e_17]
        have f_20 := (E1.wr W_17)
        have f_21 := (F1.other W_17 (Or.inl n1))
        have f_22 := (F2.other W_17 (Or.inl n1))
        exact ⟨rfl, N_17, K_19, f_20, f_21, (by simpa [e2, e3, e4, e5, em] using f_22), (by simpa [e2, e3, e4, e5, em] using V_17)⟩
      · skip
        rw [hd]
        obtain ⟨c_23, Ar_23, q_23, S_23, M_23, Hs_23, G_23⟩ := id V1
        have hin_23 : ¬ ((3 : Int32) < 0 ∨ c_23.slots.size ≤ ((3 : Int32)).toNatClampNeg) := inb_of S_23 ⟨by decide, by decide⟩
        have hat_23 : c_23.slots[((3 : Int32)).toNatClampNeg]? = some (.long v3) := Hs_23.at hin_23 rfl
        obtain ⟨c_24, Ar_24, q_24, S_24, M_24, Hs_24, G_24⟩ := id V1
        have hin_24 : ¬ ((3 : Int32) < 0 ∨ c_24.slots.size ≤ ((3 : Int32)).toNatClampNeg) := inb_of S_24 ⟨by decide, by decide⟩
        obtain ⟨T_24, h_24, X_24, e_24, W_24, st_24⟩ := stJ X_15 hx hZ e_15 Ar_24 (j := (3 : Int32)) hin_24 (g := (mkF m 26 #[.val (.ref a1), .val (.int p1)] [(.long (v3 + (1 : Int64))), (.int (3 : Int32)), (.ref b)])) rfl rfl (hb hby d_ca_26)
        have N_24 := Fr.snoc X_24 N0 g2
        have V_24 : Arv Z h_24 b k .long (6 : Int32) [(.long v0), (.long v1), (.long v2), (.long (v3 + (1 : Int64))), (.long v4), (.long v5)] (.long (0 : Int64)) := Arv.set Ar_24 q_24 S_24 M_24 Hs_24 G_24 rfl W_24 3 rfl (Nat.le_of_ble_eq_true rfl)
        have Z_25 : n0 ≤ h_24.size := Nat.le_trans Z0 (Keep.of_wr W_24).1
        have K_26 : Keep h0 h_24 [a1, b] := K0.wr W_24 (Or.inl (List.mem_of_getElem? (i := 1) rfl))
        refine own_go (S' := T_24.setTop (mkF m 40 #[.val (.ref a1), .val (.int p1)] [])) (fun target kt => ?_) ?_
        · show Steps p.tables e below (T_15.setTop (mkF m 22 #[.val (.ref a1), .val (.int p1)] [(.int (3 : Int32)), (.ref b)])) target
          refine Jvm.Free.XT.dup2 X_15.here hx rfl (hb hby d_ca_22) rfl rfl rfl ?_
          show Steps p.tables e below (T_15.setTop (mkF m 23 #[.val (.ref a1), .val (.int p1)] [(.int (3 : Int32)), (.ref b), (.int (3 : Int32)), (.ref b)])) target
          refine X_15.laload hx (j := (3 : Int32)) (v := (.long v3)) (by rw [e_15]; exact Ar_23.1) (State.isArrayOf_alike hZ.alike Ar_23.2.1) Ar_23.2.2 hin_23 hat_23 (g := (mkF m 23 #[.val (.ref a1), .val (.int p1)] [(.int (3 : Int32)), (.ref b), (.int (3 : Int32)), (.ref b)])) rfl rfl (hb hby d_ca_23) _ ?_
          show Steps p.tables e below (T_15.setTop (mkF m 24 #[.val (.ref a1), .val (.int p1)] [(.long v3), (.int (3 : Int32)), (.ref b)])) target
          refine XS.lconst X_15.here hx rfl (hb hby d_ca_24) ?_
          show Steps p.tables e below (T_15.setTop (mkF m 25 #[.val (.ref a1), .val (.int p1)] [(.long (1 : Int64)), (.long v3), (.int (3 : Int32)), (.ref b)])) target
          refine XS.ladd X_15.here hx rfl (hb hby d_ca_25) rfl ?_
          show Steps p.tables e below (T_15.setTop (mkF m 26 #[.val (.ref a1), .val (.int p1)] [(.long (v3 + (1 : Int64))), (.int (3 : Int32)), (.ref b)])) target
          refine st_24 _ ?_
          show Steps p.tables e below (T_24.setTop (mkF m 27 #[.val (.ref a1), .val (.int p1)] [])) target
          refine XS.goto X_24.here hx rfl (pc0 := 27) (pc' := 40) rfl (hb hby d_ca_27) (by decide) (by decide) ?_
          show Steps p.tables e below (T_24.setTop (mkF m 40 #[.val (.ref a1), .val (.int p1)] [])) target
          exact kt
        obtain ⟨fs, hr, hrun, hended, hW, hsame⟩ := X_24.leave (v := none) (fun _ => rfl)
        refine ⟨_, _, X_24.returnOut hx Bd.returns (hb hby d_ca_40) hr, hrun, hended, _, _, rfl, ?_, ⟨_, rfl⟩, hW, hsame.mono (by decide) (by decide)⟩
        show Q_ca Z a1 p1 b k v0 v1 v2 v3 v4 v5 f1 h0 n0 _ T_24.heap _
        rw [e_24]
        have f_27 := (E1.wr W_24)
        have f_28 := (F1.other W_24 (Or.inl n1))
        have f_29 := (F2.other W_24 (Or.inl n1))
        exact ⟨rfl, N_24, K_26, f_27, f_28, (by simpa [e2, e3, e4, e5, em] using f_29), (by simpa [e2, e3, e4, e5, em] using V_24)⟩
      · skip
        rw [hd]
        obtain ⟨c_30, Ar_30, q_30, S_30, M_30, Hs_30, G_30⟩ := id V1
        have hin_30 : ¬ ((4 : Int32) < 0 ∨ c_30.slots.size ≤ ((4 : Int32)).toNatClampNeg) := inb_of S_30 ⟨by decide, by decide⟩
        have hat_30 : c_30.slots[((4 : Int32)).toNatClampNeg]? = some (.long v4) := Hs_30.at hin_30 rfl
        obtain ⟨c_31, Ar_31, q_31, S_31, M_31, Hs_31, G_31⟩ := id V1
        have hin_31 : ¬ ((4 : Int32) < 0 ∨ c_31.slots.size ≤ ((4 : Int32)).toNatClampNeg) := inb_of S_31 ⟨by decide, by decide⟩
        obtain ⟨T_31, h_31, X_31, e_31, W_31, st_31⟩ := stJ X_15 hx hZ e_15 Ar_31 (j := (4 : Int32)) hin_31 (g := (mkF m 26 #[.val (.ref a1), .val (.int p1)] [(.long (v4 + (1 : Int64))), (.int (4 : Int32)), (.ref b)])) rfl rfl (hb hby d_ca_26)
        have N_31 := Fr.snoc X_31 N0 g2
        have V_31 : Arv Z h_31 b k .long (6 : Int32) [(.long v0), (.long v1), (.long v2), (.long v3), (.long (v4 + (1 : Int64))), (.long v5)] (.long (0 : Int64)) := Arv.set Ar_31 q_31 S_31 M_31 Hs_31 G_31 rfl W_31 4 rfl (Nat.le_of_ble_eq_true rfl)
        have Z_32 : n0 ≤ h_31.size := Nat.le_trans Z0 (Keep.of_wr W_31).1
        have K_33 : Keep h0 h_31 [a1, b] := K0.wr W_31 (Or.inl (List.mem_of_getElem? (i := 1) rfl))
        refine own_go (S' := T_31.setTop (mkF m 40 #[.val (.ref a1), .val (.int p1)] [])) (fun target kt => ?_) ?_
        · show Steps p.tables e below (T_15.setTop (mkF m 22 #[.val (.ref a1), .val (.int p1)] [(.int (4 : Int32)), (.ref b)])) target
          refine Jvm.Free.XT.dup2 X_15.here hx rfl (hb hby d_ca_22) rfl rfl rfl ?_
          show Steps p.tables e below (T_15.setTop (mkF m 23 #[.val (.ref a1), .val (.int p1)] [(.int (4 : Int32)), (.ref b), (.int (4 : Int32)), (.ref b)])) target
          refine X_15.laload hx (j := (4 : Int32)) (v := (.long v4)) (by rw [e_15]; exact Ar_30.1) (State.isArrayOf_alike hZ.alike Ar_30.2.1) Ar_30.2.2 hin_30 hat_30 (g := (mkF m 23 #[.val (.ref a1), .val (.int p1)] [(.int (4 : Int32)), (.ref b), (.int (4 : Int32)), (.ref b)])) rfl rfl (hb hby d_ca_23) _ ?_
          show Steps p.tables e below (T_15.setTop (mkF m 24 #[.val (.ref a1), .val (.int p1)] [(.long v4), (.int (4 : Int32)), (.ref b)])) target
          refine XS.lconst X_15.here hx rfl (hb hby d_ca_24) ?_
          show Steps p.tables e below (T_15.setTop (mkF m 25 #[.val (.ref a1), .val (.int p1)] [(.long (1 : Int64)), (.long v4), (.int (4 : Int32)), (.ref b)])) target
          refine XS.ladd X_15.here hx rfl (hb hby d_ca_25) rfl ?_
          show Steps p.tables e below (T_15.setTop (mkF m 26 #[.val (.ref a1), .val (.int p1)] [(.long (v4 + (1 : Int64))), (.int (4 : Int32)), (.ref b)])) target
          refine st_31 _ ?_
          show Steps p.tables e below (T_31.setTop (mkF m 27 #[.val (.ref a1), .val (.int p1)] [])) target
          refine XS.goto X_31.here hx rfl (pc0 := 27) (pc' := 40) rfl (hb hby d_ca_27) (by decide) (by decide) ?_
          show Steps p.tables e below (T_31.setTop (mkF m 40 #[.val (.ref a1), .val (.int p1)] [])) target
          exact kt
        obtain ⟨fs, hr, hrun, hended, hW, hsame⟩ := X_31.leave (v := none) (fun _ => rfl)
        refine ⟨_, _, X_31.returnOut hx Bd.returns (hb hby d_ca_40) hr, hrun, hended, _, _, rfl, ?_, ⟨_, rfl⟩, hW, hsame.mono (by decide) (by decide)⟩
        show Q_ca Z a1 p1 b k v0 v1 v2 v3 v4 v5 f1 h0 n0 _ T_31.heap _
        rw [e_31]
        have f_34 := (E1.wr W_31)
        have f_35 := (F1.other W_31 (Or.inl n1))
        have f_36 := (F2.other W_31 (Or.inl n1))
        exact ⟨rfl, N_31, K_33, f_34, f_35, (by simpa [e2, e3, e4, e5, em] using f_36), (by simpa [e2, e3, e4, e5, em] using V_31)⟩
      · skip
        rw [hd]
        obtain ⟨c_37, Ar_37, q_37, S_37, M_37, Hs_37, G_37⟩ := id V1
        have hin_37 : ¬ ((5 : Int32) < 0 ∨ c_37.slots.size ≤ ((5 : Int32)).toNatClampNeg) := inb_of S_37 ⟨by decide, by decide⟩
        have hat_37 : c_37.slots[((5 : Int32)).toNatClampNeg]? = some (.long v5) := Hs_37.at hin_37 rfl
        obtain ⟨c_38, Ar_38, q_38, S_38, M_38, Hs_38, G_38⟩ := id V1
        have hin_38 : ¬ ((5 : Int32) < 0 ∨ c_38.slots.size ≤ ((5 : Int32)).toNatClampNeg) := inb_of S_38 ⟨by decide, by decide⟩
        obtain ⟨T_38, h_38, X_38, e_38, W_38, st_38⟩ := stJ X_15 hx hZ e_15 Ar_38 (j := (5 : Int32)) hin_38 (g := (mkF m 26 #[.val (.ref a1), .val (.int p1)] [(.long (v5 + (1 : Int64))), (.int (5 : Int32)), (.ref b)])) rfl rfl (hb hby d_ca_26)
        have N_38 := Fr.snoc X_38 N0 g2
        have V_38 : Arv Z h_38 b k .long (6 : Int32) [(.long v0), (.long v1), (.long v2), (.long v3), (.long v4), (.long (v5 + (1 : Int64)))] (.long (0 : Int64)) := Arv.set Ar_38 q_38 S_38 M_38 Hs_38 G_38 rfl W_38 5 rfl (Nat.le_of_ble_eq_true rfl)
        have Z_39 : n0 ≤ h_38.size := Nat.le_trans Z0 (Keep.of_wr W_38).1
        have K_40 : Keep h0 h_38 [a1, b] := K0.wr W_38 (Or.inl (List.mem_of_getElem? (i := 1) rfl))
        refine own_go (S' := T_38.setTop (mkF m 40 #[.val (.ref a1), .val (.int p1)] [])) (fun target kt => ?_) ?_
        · show Steps p.tables e below (T_15.setTop (mkF m 22 #[.val (.ref a1), .val (.int p1)] [(.int (5 : Int32)), (.ref b)])) target
          refine Jvm.Free.XT.dup2 X_15.here hx rfl (hb hby d_ca_22) rfl rfl rfl ?_
          show Steps p.tables e below (T_15.setTop (mkF m 23 #[.val (.ref a1), .val (.int p1)] [(.int (5 : Int32)), (.ref b), (.int (5 : Int32)), (.ref b)])) target
          refine X_15.laload hx (j := (5 : Int32)) (v := (.long v5)) (by rw [e_15]; exact Ar_37.1) (State.isArrayOf_alike hZ.alike Ar_37.2.1) Ar_37.2.2 hin_37 hat_37 (g := (mkF m 23 #[.val (.ref a1), .val (.int p1)] [(.int (5 : Int32)), (.ref b), (.int (5 : Int32)), (.ref b)])) rfl rfl (hb hby d_ca_23) _ ?_
          show Steps p.tables e below (T_15.setTop (mkF m 24 #[.val (.ref a1), .val (.int p1)] [(.long v5), (.int (5 : Int32)), (.ref b)])) target
          refine XS.lconst X_15.here hx rfl (hb hby d_ca_24) ?_
          show Steps p.tables e below (T_15.setTop (mkF m 25 #[.val (.ref a1), .val (.int p1)] [(.long (1 : Int64)), (.long v5), (.int (5 : Int32)), (.ref b)])) target
          refine XS.ladd X_15.here hx rfl (hb hby d_ca_25) rfl ?_
          show Steps p.tables e below (T_15.setTop (mkF m 26 #[.val (.ref a1), .val (.int p1)] [(.long (v5 + (1 : Int64))), (.int (5 : Int32)), (.ref b)])) target
          refine st_38 _ ?_
          show Steps p.tables e below (T_38.setTop (mkF m 27 #[.val (.ref a1), .val (.int p1)] [])) target
          refine XS.goto X_38.here hx rfl (pc0 := 27) (pc' := 40) rfl (hb hby d_ca_27) (by decide) (by decide) ?_
          show Steps p.tables e below (T_38.setTop (mkF m 40 #[.val (.ref a1), .val (.int p1)] [])) target
          exact kt
        obtain ⟨fs, hr, hrun, hended, hW, hsame⟩ := X_38.leave (v := none) (fun _ => rfl)
        refine ⟨_, _, X_38.returnOut hx Bd.returns (hb hby d_ca_40) hr, hrun, hended, _, _, rfl, ?_, ⟨_, rfl⟩, hW, hsame.mono (by decide) (by decide)⟩
        show Q_ca Z a1 p1 b k v0 v1 v2 v3 v4 v5 f1 h0 n0 _ T_38.heap _
        rw [e_38]
        have f_41 := (E1.wr W_38)
        have f_42 := (F1.other W_38 (Or.inl n1))
        have f_43 := (F2.other W_38 (Or.inl n1))
        exact ⟨rfl, N_38, K_40, f_41, f_42, (by simpa [e2, e3, e4, e5, em] using f_43), (by simpa [e2, e3, e4, e5, em] using V_38)⟩
-- com/example/honeybee/honeybee/crawl/CrawlCounts.answered:(I)J
theorem d_ans_0 : decode prog_1_method_7_code 0 = .ok (.aload_n 0, 1) := by decide +kernel
theorem d_ans_1 : decode prog_1_method_7_code 1 = .ok (.getfield 7, 3) := by decide +kernel
theorem d_ans_4 : decode prog_1_method_7_code 4 = .ok (.iload_n 1, 1) := by decide +kernel
theorem d_ans_5 : decode prog_1_method_7_code 5 = .ok (.laload, 1) := by decide +kernel
theorem d_ans_6 : decode prog_1_method_7_code 6 = .ok (.lreturn, 1) := by decide +kernel
theorem pn_ans : plainName "com/example/honeybee/honeybee/crawl/CrawlCounts" = true := by first | (simp [plainName, overriddenIn]; done) | decide +kernel
theorem ef_ans (m : MethodId) (a1 : Addr) (p1 : Int32) : entryFrame m #[(.ref a1), (.int p1)] 2 = mkF m 0 #[.val (.ref a1), .val (.int p1)] [] := by first | (simp [entryFrame, mkF, argsToLocals, Value.category]; done) | rfl
def Q_ans (Z : State) (a1 : Addr) (p1 : Int32) (b : Addr) (k : ClassId) (v0 : Int64) (v1 : Int64) (v2 : Int64) (v3 : Int64) (v4 : Int64) (v5 : Int64) (r1 : Int64) (h0 : Heap) (n0 : Nat) (v : Option Value) (h : Heap) (L : List Loc) : Prop := v = some (.long r1) ∧ Fr n0 L ∧ h = h0
set_option maxRecDepth 65536 in
set_option maxHeartbeats 40000000 in
theorem rm_ans (l : Launch) (Z : State) (a0 : Array Value) (hw : ∀ d ∈ tables_1, d.before a0 Z = true) (ws : List Jvm.Cond) (a1 : Addr) (p1 : Int32) (b : Addr) (k : ClassId) (v0 : Int64) (v1 : Int64) (v2 : Int64) (v3 : Int64) (v4 : Int64) (v5 : Int64) (r1 : Int64) (h0 : Heap) (n0 : Nat) (Z0 : n0 ≤ h0.size) (F1 : Fld Z h0 a1 "com/example/honeybee/honeybee/crawl/CrawlCounts" "byClass" "[J" (.ref b)) (V1 : Arv Z h0 b k .long (6 : Int32) [(.long v0), (.long v1), (.long v2), (.long v3), (.long v4), (.long v5)] (.long (0 : Int64))) (hin : ¬ p1 < 0 ∧ p1 < (6 : Int32)) (hat : ([(.long v0), (.long v1), (.long v2), (.long v3), (.long v4), (.long v5)] : List Value).getD p1.toNatClampNeg (.long (0 : Int64)) = .long r1) :
    MetFree l (⟨"com/example/honeybee/honeybee/crawl/CrawlCounts", "answered", "(I)J"⟩ : MethodName) (head1 (Jvm.Cond.code (⟨"com/example/honeybee/honeybee/crawl/CrawlCounts", "answered", "(I)J"⟩ : MethodName) prog_1_method_7_code 2 (some .long) :: ws) ({ frames := 0, cells := 0, slots := 0, locals := 0 } : Room)) (fun a U => a = #[(.ref a1), (.int p1)] ∧ Z.Warmed39 U.vm ∧ U.heap = h0) (fun _ _ _ _ _ => True) (fun _ U o U' => ∃ v L, o = .returned v ∧ Q_ans Z a1 p1 b k v0 v1 v2 v3 v4 v5 r1 h0 n0 v U'.heap L ∧ FrameEnd U o U' L ({ frames := 0, cells := 0, slots := 0, locals := 0 } : Room).cells ({ frames := 0, cells := 0, slots := 0, locals := 0 } : Room).slots) := by
  refine MetFree.of_bodySF (plainFor_of_name pn_ans) hisR ?_
  intro p e s m args below meth c s₁ Bd hml0 hP hK
  obtain ⟨rfl, hZ, hh⟩ := hP
  have hx := Bd.exec
  have hby := Bd.bytes
  have hml : c.maxLocals = 2 := hml0
  have hown : s.vm.findClass "com/example/honeybee/honeybee/crawl/CrawlCounts" = some m.cls := findClass_of_methodNamed Bd.named
  have hnm := (name_of_methodNamed Bd.named Bd.method).1
  have X0 : Stand p l e ({ frames := 0, cells := 0, slots := 0, locals := 0 } : Room) s m #[(.ref a1), (.int p1)] below meth c s₁ [] 0 0 := Stand.of_body Bd
  have e0 : s₁.heap = h0 := by rw [← hh, Bd.state]; rfl
  have N0 := Fr.nil n0
  refine own_in ?_
  refine own_go (S' := s₁.setTop (mkF m 0 #[.val (.ref a1), .val (.int p1)] [])) (fun tgt_ stp_ => castTop (ef_ans m a1 p1) stp_) ?_
  obtain ⟨T_1, X_1, e_1, st_1⟩ := getF X0 hx hZ hown (host := "") (Or.inl (hw _ (List.mem_of_getElem? (i := 11) rfl))) Via.refl e0 F1 (g := (mkF m 1 #[.val (.ref a1), .val (.int p1)] [(.ref a1)])) rfl rfl (hb hby d_ans_1)
  obtain ⟨c_2, Ar_2, q_2, S_2, M_2, Hs_2, G_2⟩ := id V1
  have hin_2 : ¬ (p1 < 0 ∨ c_2.slots.size ≤ (p1).toNatClampNeg) := inb_of S_2 hin
  have hat_2 : c_2.slots[(p1).toNatClampNeg]? = some (.long r1) := Hs_2.at hin_2 hat
  refine own_go (S' := T_1.setTop (mkF m 6 #[.val (.ref a1), .val (.int p1)] [(.long r1)])) (fun target kt => ?_) ?_
  · show Steps p.tables e below (s₁.setTop (mkF m 0 #[.val (.ref a1), .val (.int p1)] [])) target
    refine XS.aloadN X0.here hx rfl (hb hby d_ans_0) rfl rfl ?_
    show Steps p.tables e below (s₁.setTop (mkF m 1 #[.val (.ref a1), .val (.int p1)] [(.ref a1)])) target
    refine st_1 _ ?_
    show Steps p.tables e below (T_1.setTop (mkF m 4 #[.val (.ref a1), .val (.int p1)] [(.ref b)])) target
    refine XS.iloadN X_1.here hx rfl (hb hby d_ans_4) rfl ?_
    show Steps p.tables e below (T_1.setTop (mkF m 5 #[.val (.ref a1), .val (.int p1)] [(.int p1), (.ref b)])) target
    refine X_1.laload hx (j := p1) (v := (.long r1)) (by rw [e_1]; exact Ar_2.1) (State.isArrayOf_alike hZ.alike Ar_2.2.1) Ar_2.2.2 hin_2 hat_2 (g := (mkF m 5 #[.val (.ref a1), .val (.int p1)] [(.int p1), (.ref b)])) rfl rfl (hb hby d_ans_5) _ ?_
    show Steps p.tables e below (T_1.setTop (mkF m 6 #[.val (.ref a1), .val (.int p1)] [(.long r1)])) target
    exact kt
  obtain ⟨fs, hr, hrun, hended, hW, hsame⟩ := X_1.leave (v := some (.long r1)) (fun h => by rw [Bd.returns] at h; cases h)
  refine ⟨_, _, Jvm.Stand.lreturnOut X_1 hx Bd.returns (hb hby d_ans_6) hr, hrun, hended, _, _, rfl, ?_, ⟨_, rfl⟩, hW, hsame.mono (by decide) (by decide)⟩
  show Q_ans Z a1 p1 b k v0 v1 v2 v3 v4 v5 r1 h0 n0 _ T_1.heap _
  rw [e_1]
  exact ⟨rfl, N0, rfl⟩
-- com/example/honeybee/honeybee/crawl/CrawlCounts.failed:()J
theorem d_fld_0 : decode prog_1_method_8_code 0 = .ok (.aload_n 0, 1) := by decide +kernel
theorem d_fld_1 : decode prog_1_method_8_code 1 = .ok (.getfield 13, 3) := by decide +kernel
theorem d_fld_4 : decode prog_1_method_8_code 4 = .ok (.lreturn, 1) := by decide +kernel
theorem pn_fld : plainName "com/example/honeybee/honeybee/crawl/CrawlCounts" = true := by first | (simp [plainName, overriddenIn]; done) | decide +kernel
theorem ef_fld (m : MethodId) (a1 : Addr) : entryFrame m #[(.ref a1)] 1 = mkF m 0 #[.val (.ref a1)] [] := by first | (simp [entryFrame, mkF, argsToLocals, Value.category]; done) | rfl
def Q_fld (Z : State) (a1 : Addr) (f1 : Int64) (h0 : Heap) (n0 : Nat) (v : Option Value) (h : Heap) (L : List Loc) : Prop := v = some (.long f1) ∧ Fr n0 L ∧ h = h0
set_option maxRecDepth 65536 in
set_option maxHeartbeats 40000000 in
theorem rm_fld (l : Launch) (Z : State) (a0 : Array Value) (hw : ∀ d ∈ tables_1, d.before a0 Z = true) (ws : List Jvm.Cond) (a1 : Addr) (f1 : Int64) (h0 : Heap) (n0 : Nat) (Z0 : n0 ≤ h0.size) (F2 : Fld Z h0 a1 "com/example/honeybee/honeybee/crawl/CrawlCounts" "failed" "J" (.long f1)) :
    MetFree l (⟨"com/example/honeybee/honeybee/crawl/CrawlCounts", "failed", "()J"⟩ : MethodName) (head1 (Jvm.Cond.code (⟨"com/example/honeybee/honeybee/crawl/CrawlCounts", "failed", "()J"⟩ : MethodName) prog_1_method_8_code 1 (some .long) :: ws) ({ frames := 0, cells := 0, slots := 0, locals := 0 } : Room)) (fun a U => a = #[(.ref a1)] ∧ Z.Warmed39 U.vm ∧ U.heap = h0) (fun _ _ _ _ _ => True) (fun _ U o U' => ∃ v L, o = .returned v ∧ Q_fld Z a1 f1 h0 n0 v U'.heap L ∧ FrameEnd U o U' L ({ frames := 0, cells := 0, slots := 0, locals := 0 } : Room).cells ({ frames := 0, cells := 0, slots := 0, locals := 0 } : Room).slots) := by
  refine MetFree.of_bodySF (plainFor_of_name pn_fld) hisR ?_
  intro p e s m args below meth c s₁ Bd hml0 hP hK
  obtain ⟨rfl, hZ, hh⟩ := hP
  have hx := Bd.exec
  have hby := Bd.bytes
  have hml : c.maxLocals = 1 := hml0
  have hown : s.vm.findClass "com/example/honeybee/honeybee/crawl/CrawlCounts" = some m.cls := findClass_of_methodNamed Bd.named
  have hnm := (name_of_methodNamed Bd.named Bd.method).1
  have X0 : Stand p l e ({ frames := 0, cells := 0, slots := 0, locals := 0 } : Room) s m #[(.ref a1)] below meth c s₁ [] 0 0 := Stand.of_body Bd
  have e0 : s₁.heap = h0 := by rw [← hh, Bd.state]; rfl
  have N0 := Fr.nil n0
  refine own_in ?_
  refine own_go (S' := s₁.setTop (mkF m 0 #[.val (.ref a1)] [])) (fun tgt_ stp_ => castTop (ef_fld m a1) stp_) ?_
  obtain ⟨T_1, X_1, e_1, st_1⟩ := getF X0 hx hZ hown (host := "") (Or.inl (hw _ (List.mem_of_getElem? (i := 18) rfl))) Via.refl e0 F2 (g := (mkF m 1 #[.val (.ref a1)] [(.ref a1)])) rfl rfl (hb hby d_fld_1)
  refine own_go (S' := T_1.setTop (mkF m 4 #[.val (.ref a1)] [(.long f1)])) (fun target kt => ?_) ?_
  · show Steps p.tables e below (s₁.setTop (mkF m 0 #[.val (.ref a1)] [])) target
    refine XS.aloadN X0.here hx rfl (hb hby d_fld_0) rfl rfl ?_
    show Steps p.tables e below (s₁.setTop (mkF m 1 #[.val (.ref a1)] [(.ref a1)])) target
    refine st_1 _ ?_
    show Steps p.tables e below (T_1.setTop (mkF m 4 #[.val (.ref a1)] [(.long f1)])) target
    exact kt
  obtain ⟨fs, hr, hrun, hended, hW, hsame⟩ := X_1.leave (v := some (.long f1)) (fun h => by rw [Bd.returns] at h; cases h)
  refine ⟨_, _, Jvm.Stand.lreturnOut X_1 hx Bd.returns (hb hby d_fld_4) hr, hrun, hended, _, _, rfl, ?_, ⟨_, rfl⟩, hW, hsame.mono (by decide) (by decide)⟩
  show Q_fld Z a1 f1 h0 n0 _ T_1.heap _
  rw [e_1]
  exact ⟨rfl, N0, rfl⟩
-- com/example/honeybee/honeybee/crawl/CrawlCountsCountAnswerPinLaw.cls:(I)I
theorem d_cls_0 : decode method_2_code 0 = .ok (.iload_n 0, 1) := by decide +kernel
theorem d_cls_1 : decode method_2_code 1 = .ok (.sipush 200, 3) := by decide +kernel
theorem d_cls_4 : decode method_2_code 4 = .ok (.if_icmp .ge 5, 3) := by decide +kernel
theorem d_cls_7 : decode method_2_code 7 = .ok (.iconst (-1), 1) := by decide +kernel
theorem d_cls_8 : decode method_2_code 8 = .ok (.ireturn, 1) := by decide +kernel
theorem d_cls_9 : decode method_2_code 9 = .ok (.iload_n 0, 1) := by decide +kernel
theorem d_cls_10 : decode method_2_code 10 = .ok (.sipush 599, 3) := by decide +kernel
theorem d_cls_13 : decode method_2_code 13 = .ok (.if_icmp .le 5, 3) := by decide +kernel
theorem d_cls_16 : decode method_2_code 16 = .ok (.iconst (-1), 1) := by decide +kernel
theorem d_cls_17 : decode method_2_code 17 = .ok (.ireturn, 1) := by decide +kernel
theorem d_cls_18 : decode method_2_code 18 = .ok (.iload_n 0, 1) := by decide +kernel
theorem d_cls_19 : decode method_2_code 19 = .ok (.sipush 300, 3) := by decide +kernel
theorem d_cls_22 : decode method_2_code 22 = .ok (.if_icmp .ge 5, 3) := by decide +kernel
theorem d_cls_25 : decode method_2_code 25 = .ok (.iconst 2, 1) := by decide +kernel
theorem d_cls_26 : decode method_2_code 26 = .ok (.ireturn, 1) := by decide +kernel
theorem d_cls_27 : decode method_2_code 27 = .ok (.iload_n 0, 1) := by decide +kernel
theorem d_cls_28 : decode method_2_code 28 = .ok (.sipush 400, 3) := by decide +kernel
theorem d_cls_31 : decode method_2_code 31 = .ok (.if_icmp .ge 5, 3) := by decide +kernel
theorem d_cls_34 : decode method_2_code 34 = .ok (.iconst 3, 1) := by decide +kernel
theorem d_cls_35 : decode method_2_code 35 = .ok (.ireturn, 1) := by decide +kernel
theorem d_cls_36 : decode method_2_code 36 = .ok (.iload_n 0, 1) := by decide +kernel
theorem d_cls_37 : decode method_2_code 37 = .ok (.sipush 500, 3) := by decide +kernel
theorem d_cls_40 : decode method_2_code 40 = .ok (.if_icmp .ge 5, 3) := by decide +kernel
theorem d_cls_43 : decode method_2_code 43 = .ok (.iconst 4, 1) := by decide +kernel
theorem d_cls_44 : decode method_2_code 44 = .ok (.ireturn, 1) := by decide +kernel
theorem d_cls_45 : decode method_2_code 45 = .ok (.iconst 5, 1) := by decide +kernel
theorem d_cls_46 : decode method_2_code 46 = .ok (.ireturn, 1) := by decide +kernel
theorem pn_cls : plainName "com/example/honeybee/honeybee/crawl/CrawlCountsCountAnswerPinLaw" = true := by first | (simp [plainName, overriddenIn]; done) | decide +kernel
theorem ef_cls (m : MethodId) (p1 : Int32) : entryFrame m #[(.int p1)] 1 = mkF m 0 #[.val (.int p1)] [] := by first | (simp [entryFrame, mkF, argsToLocals, Value.category]; done) | rfl
def Q_cls (Z : State) (p1 : Int32) (h0 : Heap) (n0 : Nat) (v : Option Value) (h : Heap) (L : List Loc) : Prop := v = some (.int (own_cls p1)) ∧ Fr n0 L ∧ h = h0
set_option maxRecDepth 65536 in
set_option maxHeartbeats 40000000 in
theorem rm_cls (l : Launch) (Z : State) (a0 : Array Value) (hw : ∀ d ∈ tables_1, d.before a0 Z = true) (ws : List Jvm.Cond) (p1 : Int32) (h0 : Heap) (n0 : Nat) (Z0 : n0 ≤ h0.size) :
    MetFree l (⟨"com/example/honeybee/honeybee/crawl/CrawlCountsCountAnswerPinLaw", "cls", "(I)I"⟩ : MethodName) (head1 (Jvm.Cond.code (⟨"com/example/honeybee/honeybee/crawl/CrawlCountsCountAnswerPinLaw", "cls", "(I)I"⟩ : MethodName) method_2_code 1 (some .int) :: ws) ({ frames := 0, cells := 0, slots := 0, locals := 0 } : Room)) (fun a U => a = #[(.int p1)] ∧ Z.Warmed39 U.vm ∧ U.heap = h0) (fun _ _ _ _ _ => True) (fun _ U o U' => ∃ v L, o = .returned v ∧ Q_cls Z p1 h0 n0 v U'.heap L ∧ FrameEnd U o U' L ({ frames := 0, cells := 0, slots := 0, locals := 0 } : Room).cells ({ frames := 0, cells := 0, slots := 0, locals := 0 } : Room).slots) := by
  refine MetFree.of_bodySF (plainFor_of_name pn_cls) hisR ?_
  intro p e s m args below meth c s₁ Bd hml0 hP hK
  obtain ⟨rfl, hZ, hh⟩ := hP
  have hx := Bd.exec
  have hby := Bd.bytes
  have hml : c.maxLocals = 1 := hml0
  have hown : s.vm.findClass "com/example/honeybee/honeybee/crawl/CrawlCountsCountAnswerPinLaw" = some m.cls := findClass_of_methodNamed Bd.named
  have hnm := (name_of_methodNamed Bd.named Bd.method).1
  have X0 : Stand p l e ({ frames := 0, cells := 0, slots := 0, locals := 0 } : Room) s m #[(.int p1)] below meth c s₁ [] 0 0 := Stand.of_body Bd
  have e0 : s₁.heap = h0 := by rw [← hh, Bd.state]; rfl
  have N0 := Fr.nil n0
  refine own_in ?_
  refine own_go (S' := s₁.setTop (mkF m 0 #[.val (.int p1)] [])) (fun tgt_ stp_ => castTop (ef_cls m p1) stp_) ?_
  refine own_go (S' := s₁.setTop (mkF m 4 #[.val (.int p1)] [(.int (200 : Int32)), (.int p1)])) (fun target kt => ?_) ?_
  · show Steps p.tables e below (s₁.setTop (mkF m 0 #[.val (.int p1)] [])) target
    refine XS.iloadN X0.here hx rfl (hb hby d_cls_0) rfl ?_
    show Steps p.tables e below (s₁.setTop (mkF m 1 #[.val (.int p1)] [(.int p1)])) target
    refine XS.sipush X0.here hx rfl (hb hby d_cls_1) ?_
    show Steps p.tables e below (s₁.setTop (mkF m 4 #[.val (.int p1)] [(.int (200 : Int32)), (.int p1)])) target
    exact kt
  by_cases hc4 : p1 < (200 : Int32)
  · -- pc 4: yes
    refine own_go (S' := s₁.setTop (mkF m 8 #[.val (.int p1)] [(.int (-1 : Int32))])) (fun target kt => ?_) ?_
    · show Steps p.tables e below (s₁.setTop (mkF m 4 #[.val (.int p1)] [(.int (200 : Int32)), (.int p1)])) target
      refine XS.icmpNo X0.here hx rfl (hb hby d_cls_4) rfl (tlt hc4).2.1 ?_
      show Steps p.tables e below (s₁.setTop (mkF m 7 #[.val (.int p1)] [])) target
      refine XS.iconst X0.here hx rfl (hb hby d_cls_7) ?_
      show Steps p.tables e below (s₁.setTop (mkF m 8 #[.val (.int p1)] [(.int (-1 : Int32))])) target
      exact kt
    obtain ⟨fs, hr, hrun, hended, hW, hsame⟩ := X0.leave (v := some (.int (-1 : Int32))) (fun h => by rw [Bd.returns] at h; cases h)
    refine ⟨_, _, retI X0 hx Bd.returns (hb hby d_cls_8) hr, hrun, hended, _, _, rfl, ?_, ⟨_, rfl⟩, hW, hsame.mono (by decide) (by decide)⟩
    show Q_cls Z p1 h0 n0 _ s₁.heap _
    rw [e0]
    exact ⟨(congrArg (fun z => some (Value.int z)) (by first | (simp only [own_cls, hc4, not_true_eq_false, not_false_eq_true, and_self, and_true, true_and, and_false, false_and, or_self, or_true, true_or, or_false, false_or, if_true, if_false, ↓reduceIte]; done) | (simp [own_cls, hc4]; done))), N0, rfl⟩
  · -- pc 4: no
    refine own_go (S' := s₁.setTop (mkF m 13 #[.val (.int p1)] [(.int (599 : Int32)), (.int p1)])) (fun target kt => ?_) ?_
    · show Steps p.tables e below (s₁.setTop (mkF m 4 #[.val (.int p1)] [(.int (200 : Int32)), (.int p1)])) target
      refine XS.icmpYes X0.here hx rfl (pc0 := 4) (pc' := 9) rfl (hb hby d_cls_4) rfl (flt hc4).2.1 (by decide) (by decide) ?_
      show Steps p.tables e below (s₁.setTop (mkF m 9 #[.val (.int p1)] [])) target
      refine XS.iloadN X0.here hx rfl (hb hby d_cls_9) rfl ?_
      show Steps p.tables e below (s₁.setTop (mkF m 10 #[.val (.int p1)] [(.int p1)])) target
      refine XS.sipush X0.here hx rfl (hb hby d_cls_10) ?_
      show Steps p.tables e below (s₁.setTop (mkF m 13 #[.val (.int p1)] [(.int (599 : Int32)), (.int p1)])) target
      exact kt
    by_cases hc13 : (599 : Int32) < p1
    · -- pc 13: yes
      refine own_go (S' := s₁.setTop (mkF m 17 #[.val (.int p1)] [(.int (-1 : Int32))])) (fun target kt => ?_) ?_
      · show Steps p.tables e below (s₁.setTop (mkF m 13 #[.val (.int p1)] [(.int (599 : Int32)), (.int p1)])) target
        refine XS.icmpNo X0.here hx rfl (hb hby d_cls_13) rfl (tlt hc13).2.2.2 ?_
        show Steps p.tables e below (s₁.setTop (mkF m 16 #[.val (.int p1)] [])) target
        refine XS.iconst X0.here hx rfl (hb hby d_cls_16) ?_
        show Steps p.tables e below (s₁.setTop (mkF m 17 #[.val (.int p1)] [(.int (-1 : Int32))])) target
        exact kt
      obtain ⟨fs, hr, hrun, hended, hW, hsame⟩ := X0.leave (v := some (.int (-1 : Int32))) (fun h => by rw [Bd.returns] at h; cases h)
      refine ⟨_, _, retI X0 hx Bd.returns (hb hby d_cls_17) hr, hrun, hended, _, _, rfl, ?_, ⟨_, rfl⟩, hW, hsame.mono (by decide) (by decide)⟩
      show Q_cls Z p1 h0 n0 _ s₁.heap _
      rw [e0]
      exact ⟨(congrArg (fun z => some (Value.int z)) (by first | (simp only [own_cls, hc4, hc13, not_true_eq_false, not_false_eq_true, and_self, and_true, true_and, and_false, false_and, or_self, or_true, true_or, or_false, false_or, if_true, if_false, ↓reduceIte]; done) | (simp [own_cls, hc4, hc13]; done))), N0, rfl⟩
    · -- pc 13: no
      refine own_go (S' := s₁.setTop (mkF m 22 #[.val (.int p1)] [(.int (300 : Int32)), (.int p1)])) (fun target kt => ?_) ?_
      · show Steps p.tables e below (s₁.setTop (mkF m 13 #[.val (.int p1)] [(.int (599 : Int32)), (.int p1)])) target
        refine XS.icmpYes X0.here hx rfl (pc0 := 13) (pc' := 18) rfl (hb hby d_cls_13) rfl (flt hc13).2.2.2 (by decide) (by decide) ?_
        show Steps p.tables e below (s₁.setTop (mkF m 18 #[.val (.int p1)] [])) target
        refine XS.iloadN X0.here hx rfl (hb hby d_cls_18) rfl ?_
        show Steps p.tables e below (s₁.setTop (mkF m 19 #[.val (.int p1)] [(.int p1)])) target
        refine XS.sipush X0.here hx rfl (hb hby d_cls_19) ?_
        show Steps p.tables e below (s₁.setTop (mkF m 22 #[.val (.int p1)] [(.int (300 : Int32)), (.int p1)])) target
        exact kt
      by_cases hc22 : p1 < (300 : Int32)
      · -- pc 22: yes
        refine own_go (S' := s₁.setTop (mkF m 26 #[.val (.int p1)] [(.int (2 : Int32))])) (fun target kt => ?_) ?_
        · show Steps p.tables e below (s₁.setTop (mkF m 22 #[.val (.int p1)] [(.int (300 : Int32)), (.int p1)])) target
          refine XS.icmpNo X0.here hx rfl (hb hby d_cls_22) rfl (tlt hc22).2.1 ?_
          show Steps p.tables e below (s₁.setTop (mkF m 25 #[.val (.int p1)] [])) target
          refine XS.iconst X0.here hx rfl (hb hby d_cls_25) ?_
          show Steps p.tables e below (s₁.setTop (mkF m 26 #[.val (.int p1)] [(.int (2 : Int32))])) target
          exact kt
        obtain ⟨fs, hr, hrun, hended, hW, hsame⟩ := X0.leave (v := some (.int (2 : Int32))) (fun h => by rw [Bd.returns] at h; cases h)
        refine ⟨_, _, retI X0 hx Bd.returns (hb hby d_cls_26) hr, hrun, hended, _, _, rfl, ?_, ⟨_, rfl⟩, hW, hsame.mono (by decide) (by decide)⟩
        show Q_cls Z p1 h0 n0 _ s₁.heap _
        rw [e0]
        exact ⟨(congrArg (fun z => some (Value.int z)) (by first | (simp only [own_cls, hc4, hc13, hc22, not_true_eq_false, not_false_eq_true, and_self, and_true, true_and, and_false, false_and, or_self, or_true, true_or, or_false, false_or, if_true, if_false, ↓reduceIte]; done) | (simp [own_cls, hc4, hc13, hc22]; done))), N0, rfl⟩
      · -- pc 22: no
        refine own_go (S' := s₁.setTop (mkF m 31 #[.val (.int p1)] [(.int (400 : Int32)), (.int p1)])) (fun target kt => ?_) ?_
        · show Steps p.tables e below (s₁.setTop (mkF m 22 #[.val (.int p1)] [(.int (300 : Int32)), (.int p1)])) target
          refine XS.icmpYes X0.here hx rfl (pc0 := 22) (pc' := 27) rfl (hb hby d_cls_22) rfl (flt hc22).2.1 (by decide) (by decide) ?_
          show Steps p.tables e below (s₁.setTop (mkF m 27 #[.val (.int p1)] [])) target
          refine XS.iloadN X0.here hx rfl (hb hby d_cls_27) rfl ?_
          show Steps p.tables e below (s₁.setTop (mkF m 28 #[.val (.int p1)] [(.int p1)])) target
          refine XS.sipush X0.here hx rfl (hb hby d_cls_28) ?_
          show Steps p.tables e below (s₁.setTop (mkF m 31 #[.val (.int p1)] [(.int (400 : Int32)), (.int p1)])) target
          exact kt
        by_cases hc31 : p1 < (400 : Int32)
        · -- pc 31: yes
          refine own_go (S' := s₁.setTop (mkF m 35 #[.val (.int p1)] [(.int (3 : Int32))])) (fun target kt => ?_) ?_
          · show Steps p.tables e below (s₁.setTop (mkF m 31 #[.val (.int p1)] [(.int (400 : Int32)), (.int p1)])) target
            refine XS.icmpNo X0.here hx rfl (hb hby d_cls_31) rfl (tlt hc31).2.1 ?_
            show Steps p.tables e below (s₁.setTop (mkF m 34 #[.val (.int p1)] [])) target
            refine XS.iconst X0.here hx rfl (hb hby d_cls_34) ?_
            show Steps p.tables e below (s₁.setTop (mkF m 35 #[.val (.int p1)] [(.int (3 : Int32))])) target
            exact kt
          obtain ⟨fs, hr, hrun, hended, hW, hsame⟩ := X0.leave (v := some (.int (3 : Int32))) (fun h => by rw [Bd.returns] at h; cases h)
          refine ⟨_, _, retI X0 hx Bd.returns (hb hby d_cls_35) hr, hrun, hended, _, _, rfl, ?_, ⟨_, rfl⟩, hW, hsame.mono (by decide) (by decide)⟩
          show Q_cls Z p1 h0 n0 _ s₁.heap _
          rw [e0]
          exact ⟨(congrArg (fun z => some (Value.int z)) (by first | (simp only [own_cls, hc4, hc13, hc22, hc31, not_true_eq_false, not_false_eq_true, and_self, and_true, true_and, and_false, false_and, or_self, or_true, true_or, or_false, false_or, if_true, if_false, ↓reduceIte]; done) | (simp [own_cls, hc4, hc13, hc22, hc31]; done))), N0, rfl⟩
        · -- pc 31: no
          refine own_go (S' := s₁.setTop (mkF m 40 #[.val (.int p1)] [(.int (500 : Int32)), (.int p1)])) (fun target kt => ?_) ?_
          · show Steps p.tables e below (s₁.setTop (mkF m 31 #[.val (.int p1)] [(.int (400 : Int32)), (.int p1)])) target
            refine XS.icmpYes X0.here hx rfl (pc0 := 31) (pc' := 36) rfl (hb hby d_cls_31) rfl (flt hc31).2.1 (by decide) (by decide) ?_
            show Steps p.tables e below (s₁.setTop (mkF m 36 #[.val (.int p1)] [])) target
            refine XS.iloadN X0.here hx rfl (hb hby d_cls_36) rfl ?_
            show Steps p.tables e below (s₁.setTop (mkF m 37 #[.val (.int p1)] [(.int p1)])) target
            refine XS.sipush X0.here hx rfl (hb hby d_cls_37) ?_
            show Steps p.tables e below (s₁.setTop (mkF m 40 #[.val (.int p1)] [(.int (500 : Int32)), (.int p1)])) target
            exact kt
          by_cases hc40 : p1 < (500 : Int32)
          · -- pc 40: yes
            refine own_go (S' := s₁.setTop (mkF m 44 #[.val (.int p1)] [(.int (4 : Int32))])) (fun target kt => ?_) ?_
            · show Steps p.tables e below (s₁.setTop (mkF m 40 #[.val (.int p1)] [(.int (500 : Int32)), (.int p1)])) target
              refine XS.icmpNo X0.here hx rfl (hb hby d_cls_40) rfl (tlt hc40).2.1 ?_
              show Steps p.tables e below (s₁.setTop (mkF m 43 #[.val (.int p1)] [])) target
              refine XS.iconst X0.here hx rfl (hb hby d_cls_43) ?_
              show Steps p.tables e below (s₁.setTop (mkF m 44 #[.val (.int p1)] [(.int (4 : Int32))])) target
              exact kt
            obtain ⟨fs, hr, hrun, hended, hW, hsame⟩ := X0.leave (v := some (.int (4 : Int32))) (fun h => by rw [Bd.returns] at h; cases h)
            refine ⟨_, _, retI X0 hx Bd.returns (hb hby d_cls_44) hr, hrun, hended, _, _, rfl, ?_, ⟨_, rfl⟩, hW, hsame.mono (by decide) (by decide)⟩
            show Q_cls Z p1 h0 n0 _ s₁.heap _
            rw [e0]
            exact ⟨(congrArg (fun z => some (Value.int z)) (by first | (simp only [own_cls, hc4, hc13, hc22, hc31, hc40, not_true_eq_false, not_false_eq_true, and_self, and_true, true_and, and_false, false_and, or_self, or_true, true_or, or_false, false_or, if_true, if_false, ↓reduceIte]; done) | (simp [own_cls, hc4, hc13, hc22, hc31, hc40]; done))), N0, rfl⟩
          · -- pc 40: no
            refine own_go (S' := s₁.setTop (mkF m 46 #[.val (.int p1)] [(.int (5 : Int32))])) (fun target kt => ?_) ?_
            · show Steps p.tables e below (s₁.setTop (mkF m 40 #[.val (.int p1)] [(.int (500 : Int32)), (.int p1)])) target
              refine XS.icmpYes X0.here hx rfl (pc0 := 40) (pc' := 45) rfl (hb hby d_cls_40) rfl (flt hc40).2.1 (by decide) (by decide) ?_
              show Steps p.tables e below (s₁.setTop (mkF m 45 #[.val (.int p1)] [])) target
              refine XS.iconst X0.here hx rfl (hb hby d_cls_45) ?_
              show Steps p.tables e below (s₁.setTop (mkF m 46 #[.val (.int p1)] [(.int (5 : Int32))])) target
              exact kt
            obtain ⟨fs, hr, hrun, hended, hW, hsame⟩ := X0.leave (v := some (.int (5 : Int32))) (fun h => by rw [Bd.returns] at h; cases h)
            refine ⟨_, _, retI X0 hx Bd.returns (hb hby d_cls_46) hr, hrun, hended, _, _, rfl, ?_, ⟨_, rfl⟩, hW, hsame.mono (by decide) (by decide)⟩
            show Q_cls Z p1 h0 n0 _ s₁.heap _
            rw [e0]
            exact ⟨(congrArg (fun z => some (Value.int z)) (by first | (simp only [own_cls, hc4, hc13, hc22, hc31, hc40, not_true_eq_false, not_false_eq_true, and_self, and_true, true_and, and_false, false_and, or_self, or_true, true_or, or_false, false_or, if_true, if_false, ↓reduceIte]; done) | (simp [own_cls, hc4, hc13, hc22, hc31, hc40]; done))), N0, rfl⟩
-- com/example/honeybee/honeybee/crawl/CrawlCountsCountAnswerPinLaw.hit:(II)J
theorem d_hit_0 : decode method_3_code 0 = .ok (.iload_n 0, 1) := by decide +kernel
theorem d_hit_1 : decode method_3_code 1 = .ok (.invokestatic 7, 3) := by decide +kernel
theorem d_hit_4 : decode method_3_code 4 = .ok (.iload_n 1, 1) := by decide +kernel
theorem d_hit_5 : decode method_3_code 5 = .ok (.if_icmp .ne 7, 3) := by decide +kernel
theorem d_hit_8 : decode method_3_code 8 = .ok (.lconst 1, 1) := by decide +kernel
theorem d_hit_9 : decode method_3_code 9 = .ok (.goto 4, 3) := by decide +kernel
theorem d_hit_12 : decode method_3_code 12 = .ok (.lconst 0, 1) := by decide +kernel
theorem d_hit_13 : decode method_3_code 13 = .ok (.lreturn, 1) := by decide +kernel
theorem pn_hit : plainName "com/example/honeybee/honeybee/crawl/CrawlCountsCountAnswerPinLaw" = true := by first | (simp [plainName, overriddenIn]; done) | decide +kernel
theorem ef_hit (m : MethodId) (p1 : Int32) (p2 : Int32) : entryFrame m #[(.int p1), (.int p2)] 2 = mkF m 0 #[.val (.int p1), .val (.int p2)] [] := by first | (simp [entryFrame, mkF, argsToLocals, Value.category]; done) | rfl
def Q_hit (Z : State) (p1 : Int32) (p2 : Int32) (h0 : Heap) (n0 : Nat) (v : Option Value) (h : Heap) (L : List Loc) : Prop := v = some (.long (own_hit p1 p2)) ∧ Fr n0 L ∧ h = h0
set_option maxRecDepth 65536 in
set_option maxHeartbeats 40000000 in
theorem rm_hit (l : Launch) (Z : State) (a0 : Array Value) (hw : ∀ d ∈ tables_1, d.before a0 Z = true) (ws : List Jvm.Cond) (p1 : Int32) (p2 : Int32) (h0 : Heap) (n0 : Nat) (Z0 : n0 ≤ h0.size) :
    MetFree l (⟨"com/example/honeybee/honeybee/crawl/CrawlCountsCountAnswerPinLaw", "hit", "(II)J"⟩ : MethodName) (head1 (Jvm.Cond.code (⟨"com/example/honeybee/honeybee/crawl/CrawlCountsCountAnswerPinLaw", "hit", "(II)J"⟩ : MethodName) method_3_code 2 (some .long) :: ws) ({ frames := 1, cells := 0, slots := 0, locals := 12 } : Room)) (fun a U => a = #[(.int p1), (.int p2)] ∧ Z.Warmed39 U.vm ∧ U.heap = h0) (fun _ _ _ _ _ => True) (fun _ U o U' => ∃ v L, o = .returned v ∧ Q_hit Z p1 p2 h0 n0 v U'.heap L ∧ FrameEnd U o U' L ({ frames := 1, cells := 0, slots := 0, locals := 12 } : Room).cells ({ frames := 1, cells := 0, slots := 0, locals := 12 } : Room).slots) := by
  refine MetFree.of_bodySF (plainFor_of_name pn_hit) hisR ?_
  intro p e s m args below meth c s₁ Bd hml0 hP hK
  obtain ⟨rfl, hZ, hh⟩ := hP
  have hx := Bd.exec
  have hby := Bd.bytes
  have hml : c.maxLocals = 2 := hml0
  have hown : s.vm.findClass "com/example/honeybee/honeybee/crawl/CrawlCountsCountAnswerPinLaw" = some m.cls := findClass_of_methodNamed Bd.named
  have hnm := (name_of_methodNamed Bd.named Bd.method).1
  have X0 : Stand p l e ({ frames := 1, cells := 0, slots := 0, locals := 12 } : Room) s m #[(.int p1), (.int p2)] below meth c s₁ [] 0 0 := Stand.of_body Bd
  have e0 : s₁.heap = h0 := by rw [← hh, Bd.state]; rfl
  have N0 := Fr.nil n0
  refine own_in ?_
  refine own_go (S' := s₁.setTop (mkF m 0 #[.val (.int p1), .val (.int p2)] [])) (fun tgt_ stp_ => castTop (ef_hit m p1 p2) stp_) ?_
  obtain ⟨_, _, ⟨T_1, L_1, k_1, n_1⟩, -, X_1, ⟨Lc_1, hQ_1, l_1, y_1, z_1⟩, st_1⟩ := Jvm.LawKit.callS X0 hx (y := (⟨"com/example/honeybee/honeybee/crawl/CrawlCountsCountAnswerPinLaw", "cls", "(I)I"⟩ : MethodName)) hown (mvT hZ (hw _ (List.mem_of_getElem? (i := 32) rfl))) (mvT hZ (hw _ (List.mem_of_getElem? (i := 33) rfl))) (mvT hZ (hw _ (List.mem_of_getElem? (i := 27) rfl))) (mvT hZ (hw _ (List.mem_of_getElem? (i := 34) rfl))) (by decide) (backOf (W := 0) (rm_cls l Z a0 hw [] p1  h0 n0 Z0 ) hZ (hw _ (List.mem_of_getElem? (i := 34) rfl)) (hw _ (List.mem_of_getElem? (i := 27) rfl)) (by decide) (by decide)) (g := (mkF m 1 #[.val (.int p1), .val (.int p2)] [(.int p1)])) rfl (by rw [hml]; rfl) (argsL := [(.int p1)]) (rest := []) (lenOf pd_I_I rfl) rfl (by show 2 * 0 + _ ≤ _; exact Nat.le_of_eq rfl) (hb hby d_hit_1) (fun _ _ => ⟨rfl, e0, (by decide : 0 + 0 ≤ _), (by decide : 0 + 0 ≤ _)⟩)
  dsimp only [Pt.U, Pt.locs, Pt.cells, Pt.slots] at X_1 l_1 y_1 z_1 st_1 hQ_1
  subst l_1 y_1 z_1
  obtain ⟨rfl, N_1q, p_1_0⟩ := hQ_1
  have N_1 := Fr.app N0 N_1q
  refine own_go (S' := T_1.setTop (mkF m 5 #[.val (.int p1), .val (.int p2)] [(.int p2), (.int (own_cls p1))])) (fun target kt => ?_) ?_
  · show Steps p.tables e below (s₁.setTop (mkF m 0 #[.val (.int p1), .val (.int p2)] [])) target
    refine XS.iloadN X0.here hx rfl (hb hby d_hit_0) rfl ?_
    show Steps p.tables e below (s₁.setTop (mkF m 1 #[.val (.int p1), .val (.int p2)] [(.int p1)])) target
    refine st_1 _ ?_
    show Steps p.tables e below (T_1.setTop (mkF m 4 #[.val (.int p1), .val (.int p2)] [(.int (own_cls p1))])) target
    refine XS.iloadN X_1.here hx rfl (hb hby d_hit_4) rfl ?_
    show Steps p.tables e below (T_1.setTop (mkF m 5 #[.val (.int p1), .val (.int p2)] [(.int p2), (.int (own_cls p1))])) target
    exact kt
  by_cases hc5 : (own_cls p1) = p2
  · -- pc 5: yes
    refine own_go (S' := T_1.setTop (mkF m 13 #[.val (.int p1), .val (.int p2)] [(.long (1 : Int64))])) (fun target kt => ?_) ?_
    · show Steps p.tables e below (T_1.setTop (mkF m 5 #[.val (.int p1), .val (.int p2)] [(.int p2), (.int (own_cls p1))])) target
      refine XS.icmpNo X_1.here hx rfl (hb hby d_hit_5) rfl (teq hc5).2 ?_
      show Steps p.tables e below (T_1.setTop (mkF m 8 #[.val (.int p1), .val (.int p2)] [])) target
      refine XS.lconst X_1.here hx rfl (hb hby d_hit_8) ?_
      show Steps p.tables e below (T_1.setTop (mkF m 9 #[.val (.int p1), .val (.int p2)] [(.long (1 : Int64))])) target
      refine XS.goto X_1.here hx rfl (pc0 := 9) (pc' := 13) rfl (hb hby d_hit_9) (by decide) (by decide) ?_
      show Steps p.tables e below (T_1.setTop (mkF m 13 #[.val (.int p1), .val (.int p2)] [(.long (1 : Int64))])) target
      exact kt
    obtain ⟨fs, hr, hrun, hended, hW, hsame⟩ := X_1.leave (v := some (.long (1 : Int64))) (fun h => by rw [Bd.returns] at h; cases h)
    refine ⟨_, _, Jvm.Stand.lreturnOut X_1 hx Bd.returns (hb hby d_hit_13) hr, hrun, hended, _, _, rfl, ?_, ⟨_, rfl⟩, hW, hsame.mono (by decide) (by decide)⟩
    show Q_hit Z p1 p2 h0 n0 _ T_1.heap _
    rw [p_1_0]
    exact ⟨(congrArg (fun z => some (Value.long z)) (by first | (simp only [own_hit, hc5, not_true_eq_false, not_false_eq_true, and_self, and_true, true_and, and_false, false_and, or_self, or_true, true_or, or_false, false_or, if_true, if_false, ↓reduceIte]; done) | (simp [own_hit, hc5]; done))), N_1, rfl⟩
  · -- pc 5: no
    refine own_go (S' := T_1.setTop (mkF m 13 #[.val (.int p1), .val (.int p2)] [(.long (0 : Int64))])) (fun target kt => ?_) ?_
    · show Steps p.tables e below (T_1.setTop (mkF m 5 #[.val (.int p1), .val (.int p2)] [(.int p2), (.int (own_cls p1))])) target
      refine XS.icmpYes X_1.here hx rfl (pc0 := 5) (pc' := 12) rfl (hb hby d_hit_5) rfl (feq hc5).2 (by decide) (by decide) ?_
      show Steps p.tables e below (T_1.setTop (mkF m 12 #[.val (.int p1), .val (.int p2)] [])) target
      refine XS.lconst X_1.here hx rfl (hb hby d_hit_12) ?_
      show Steps p.tables e below (T_1.setTop (mkF m 13 #[.val (.int p1), .val (.int p2)] [(.long (0 : Int64))])) target
      exact kt
    obtain ⟨fs, hr, hrun, hended, hW, hsame⟩ := X_1.leave (v := some (.long (0 : Int64))) (fun h => by rw [Bd.returns] at h; cases h)
    refine ⟨_, _, Jvm.Stand.lreturnOut X_1 hx Bd.returns (hb hby d_hit_13) hr, hrun, hended, _, _, rfl, ?_, ⟨_, rfl⟩, hW, hsame.mono (by decide) (by decide)⟩
    show Q_hit Z p1 p2 h0 n0 _ T_1.heap _
    rw [p_1_0]
    exact ⟨(congrArg (fun z => some (Value.long z)) (by first | (simp only [own_hit, hc5, not_true_eq_false, not_false_eq_true, and_self, and_true, true_and, and_false, false_and, or_self, or_true, true_or, or_false, false_or, if_true, if_false, ↓reduceIte]; done) | (simp [own_hit, hc5]; done))), N_1, rfl⟩
-- com/example/honeybee/honeybee/crawl/CrawlCountsCountAnswerPinLaw.expect:(IIII)J
theorem d_expt_0 : decode method_4_code 0 = .ok (.iload_n 0, 1) := by decide +kernel
theorem d_expt_1 : decode method_4_code 1 = .ok (.iload_n 3, 1) := by decide +kernel
theorem d_expt_2 : decode method_4_code 2 = .ok (.invokestatic 13, 3) := by decide +kernel
theorem d_expt_5 : decode method_4_code 5 = .ok (.iload_n 1, 1) := by decide +kernel
theorem d_expt_6 : decode method_4_code 6 = .ok (.iload_n 3, 1) := by decide +kernel
theorem d_expt_7 : decode method_4_code 7 = .ok (.invokestatic 13, 3) := by decide +kernel
theorem d_expt_10 : decode method_4_code 10 = .ok (.ladd, 1) := by decide +kernel
theorem d_expt_11 : decode method_4_code 11 = .ok (.iload_n 2, 1) := by decide +kernel
theorem d_expt_12 : decode method_4_code 12 = .ok (.iload_n 3, 1) := by decide +kernel
theorem d_expt_13 : decode method_4_code 13 = .ok (.invokestatic 13, 3) := by decide +kernel
theorem d_expt_16 : decode method_4_code 16 = .ok (.ladd, 1) := by decide +kernel
theorem d_expt_17 : decode method_4_code 17 = .ok (.lreturn, 1) := by decide +kernel
theorem pn_expt : plainName "com/example/honeybee/honeybee/crawl/CrawlCountsCountAnswerPinLaw" = true := by first | (simp [plainName, overriddenIn]; done) | decide +kernel
theorem ef_expt (m : MethodId) (p1 : Int32) (p2 : Int32) (p3 : Int32) (p4 : Int32) : entryFrame m #[(.int p1), (.int p2), (.int p3), (.int p4)] 4 = mkF m 0 #[.val (.int p1), .val (.int p2), .val (.int p3), .val (.int p4)] [] := by first | (simp [entryFrame, mkF, argsToLocals, Value.category]; done) | rfl
def Q_expt (Z : State) (p1 : Int32) (p2 : Int32) (p3 : Int32) (p4 : Int32) (h0 : Heap) (n0 : Nat) (v : Option Value) (h : Heap) (L : List Loc) : Prop := v = some (.long ((own_hit p1 p4 + own_hit p2 p4) + own_hit p3 p4)) ∧ Fr n0 L ∧ h = h0
set_option maxRecDepth 65536 in
set_option maxHeartbeats 40000000 in
theorem rm_expt (l : Launch) (Z : State) (a0 : Array Value) (hw : ∀ d ∈ tables_1, d.before a0 Z = true) (ws : List Jvm.Cond) (p1 : Int32) (p2 : Int32) (p3 : Int32) (p4 : Int32) (h0 : Heap) (n0 : Nat) (Z0 : n0 ≤ h0.size) :
    MetFree l (⟨"com/example/honeybee/honeybee/crawl/CrawlCountsCountAnswerPinLaw", "expect", "(IIII)J"⟩ : MethodName) (head1 (Jvm.Cond.code (⟨"com/example/honeybee/honeybee/crawl/CrawlCountsCountAnswerPinLaw", "expect", "(IIII)J"⟩ : MethodName) method_4_code 4 (some .long) :: ws) ({ frames := 2, cells := 0, slots := 0, locals := 40 } : Room)) (fun a U => a = #[(.int p1), (.int p2), (.int p3), (.int p4)] ∧ Z.Warmed39 U.vm ∧ U.heap = h0) (fun _ _ _ _ _ => True) (fun _ U o U' => ∃ v L, o = .returned v ∧ Q_expt Z p1 p2 p3 p4 h0 n0 v U'.heap L ∧ FrameEnd U o U' L ({ frames := 2, cells := 0, slots := 0, locals := 40 } : Room).cells ({ frames := 2, cells := 0, slots := 0, locals := 40 } : Room).slots) := by
  refine MetFree.of_bodySF (plainFor_of_name pn_expt) hisR ?_
  intro p e s m args below meth c s₁ Bd hml0 hP hK
  obtain ⟨rfl, hZ, hh⟩ := hP
  have hx := Bd.exec
  have hby := Bd.bytes
  have hml : c.maxLocals = 4 := hml0
  have hown : s.vm.findClass "com/example/honeybee/honeybee/crawl/CrawlCountsCountAnswerPinLaw" = some m.cls := findClass_of_methodNamed Bd.named
  have hnm := (name_of_methodNamed Bd.named Bd.method).1
  have X0 : Stand p l e ({ frames := 2, cells := 0, slots := 0, locals := 40 } : Room) s m #[(.int p1), (.int p2), (.int p3), (.int p4)] below meth c s₁ [] 0 0 := Stand.of_body Bd
  have e0 : s₁.heap = h0 := by rw [← hh, Bd.state]; rfl
  have N0 := Fr.nil n0
  refine own_in ?_
  refine own_go (S' := s₁.setTop (mkF m 0 #[.val (.int p1), .val (.int p2), .val (.int p3), .val (.int p4)] [])) (fun tgt_ stp_ => castTop (ef_expt m p1 p2 p3 p4) stp_) ?_
  obtain ⟨_, _, ⟨T_1, L_1, k_1, n_1⟩, -, X_1, ⟨Lc_1, hQ_1, l_1, y_1, z_1⟩, st_1⟩ := Jvm.LawKit.callS X0 hx (y := (⟨"com/example/honeybee/honeybee/crawl/CrawlCountsCountAnswerPinLaw", "hit", "(II)J"⟩ : MethodName)) hown (mvT hZ (hw _ (List.mem_of_getElem? (i := 29) rfl))) (mvT hZ (hw _ (List.mem_of_getElem? (i := 30) rfl))) (mvT hZ (hw _ (List.mem_of_getElem? (i := 27) rfl))) (mvT hZ (hw _ (List.mem_of_getElem? (i := 31) rfl))) (by decide) (backOf (W := 0) (rm_hit l Z a0 hw [] p1 p4  h0 n0 Z0 ) hZ (hw _ (List.mem_of_getElem? (i := 31) rfl)) (hw _ (List.mem_of_getElem? (i := 27) rfl)) (by decide) (by decide)) (g := (mkF m 2 #[.val (.int p1), .val (.int p2), .val (.int p3), .val (.int p4)] [(.int p4), (.int p1)])) rfl (by rw [hml]; rfl) (argsL := [(.int p1), (.int p4)]) (rest := []) (lenOf pd_II_J rfl) rfl (by show 2 * 0 + _ ≤ _; exact Nat.le_of_eq rfl) (hb hby d_expt_2) (fun _ _ => ⟨rfl, e0, (by decide : 0 + 0 ≤ _), (by decide : 0 + 0 ≤ _)⟩)
  dsimp only [Pt.U, Pt.locs, Pt.cells, Pt.slots] at X_1 l_1 y_1 z_1 st_1 hQ_1
  subst l_1 y_1 z_1
  obtain ⟨rfl, N_1q, p_1_0⟩ := hQ_1
  have N_1 := Fr.app N0 N_1q
  obtain ⟨_, _, ⟨T_2, L_2, k_2, n_2⟩, -, X_2, ⟨Lc_2, hQ_2, l_2, y_2, z_2⟩, st_2⟩ := Jvm.LawKit.callS X_1 hx (y := (⟨"com/example/honeybee/honeybee/crawl/CrawlCountsCountAnswerPinLaw", "hit", "(II)J"⟩ : MethodName)) hown (mvT hZ (hw _ (List.mem_of_getElem? (i := 29) rfl))) (mvT hZ (hw _ (List.mem_of_getElem? (i := 30) rfl))) (mvT hZ (hw _ (List.mem_of_getElem? (i := 27) rfl))) (mvT hZ (hw _ (List.mem_of_getElem? (i := 31) rfl))) (by decide) (backOf (W := 2) (rm_hit l Z a0 hw [] p2 p4  h0 n0 Z0 ) hZ (hw _ (List.mem_of_getElem? (i := 31) rfl)) (hw _ (List.mem_of_getElem? (i := 27) rfl)) (by decide) (by decide)) (g := (mkF m 7 #[.val (.int p1), .val (.int p2), .val (.int p3), .val (.int p4)] [(.int p4), (.int p2), (.long (own_hit p1 p4))])) rfl (by rw [hml]; rfl) (argsL := [(.int p2), (.int p4)]) (rest := [(.long (own_hit p1 p4))]) (lenOf pd_II_J rfl) rfl (by show 2 * 0 + _ ≤ _; exact Nat.le_of_eq rfl) (hb hby d_expt_7) (fun _ _ => ⟨rfl, p_1_0, (by decide : 0 + 0 ≤ _), (by decide : 0 + 0 ≤ _)⟩)
  dsimp only [Pt.U, Pt.locs, Pt.cells, Pt.slots] at X_2 l_2 y_2 z_2 st_2 hQ_2
  subst l_2 y_2 z_2
  obtain ⟨rfl, N_2q, p_2_0⟩ := hQ_2
  have N_2 := Fr.app N_1 N_2q
  obtain ⟨_, _, ⟨T_3, L_3, k_3, n_3⟩, -, X_3, ⟨Lc_3, hQ_3, l_3, y_3, z_3⟩, st_3⟩ := Jvm.LawKit.callS X_2 hx (y := (⟨"com/example/honeybee/honeybee/crawl/CrawlCountsCountAnswerPinLaw", "hit", "(II)J"⟩ : MethodName)) hown (mvT hZ (hw _ (List.mem_of_getElem? (i := 29) rfl))) (mvT hZ (hw _ (List.mem_of_getElem? (i := 30) rfl))) (mvT hZ (hw _ (List.mem_of_getElem? (i := 27) rfl))) (mvT hZ (hw _ (List.mem_of_getElem? (i := 31) rfl))) (by decide) (backOf (W := 2) (rm_hit l Z a0 hw [] p3 p4  h0 n0 Z0 ) hZ (hw _ (List.mem_of_getElem? (i := 31) rfl)) (hw _ (List.mem_of_getElem? (i := 27) rfl)) (by decide) (by decide)) (g := (mkF m 13 #[.val (.int p1), .val (.int p2), .val (.int p3), .val (.int p4)] [(.int p4), (.int p3), (.long ((own_hit p1 p4) + (own_hit p2 p4)))])) rfl (by rw [hml]; rfl) (argsL := [(.int p3), (.int p4)]) (rest := [(.long ((own_hit p1 p4) + (own_hit p2 p4)))]) (lenOf pd_II_J rfl) rfl (by show 2 * 0 + _ ≤ _; exact Nat.le_of_eq rfl) (hb hby d_expt_13) (fun _ _ => ⟨rfl, p_2_0, (by decide : 0 + 0 ≤ _), (by decide : 0 + 0 ≤ _)⟩)
  dsimp only [Pt.U, Pt.locs, Pt.cells, Pt.slots] at X_3 l_3 y_3 z_3 st_3 hQ_3
  subst l_3 y_3 z_3
  obtain ⟨rfl, N_3q, p_3_0⟩ := hQ_3
  have N_3 := Fr.app N_2 N_3q
  refine own_go (S' := T_3.setTop (mkF m 17 #[.val (.int p1), .val (.int p2), .val (.int p3), .val (.int p4)] [(.long (((own_hit p1 p4) + (own_hit p2 p4)) + (own_hit p3 p4)))])) (fun target kt => ?_) ?_
  · show Steps p.tables e below (s₁.setTop (mkF m 0 #[.val (.int p1), .val (.int p2), .val (.int p3), .val (.int p4)] [])) target
    refine XS.iloadN X0.here hx rfl (hb hby d_expt_0) rfl ?_
    show Steps p.tables e below (s₁.setTop (mkF m 1 #[.val (.int p1), .val (.int p2), .val (.int p3), .val (.int p4)] [(.int p1)])) target
    refine XS.iloadN X0.here hx rfl (hb hby d_expt_1) rfl ?_
    show Steps p.tables e below (s₁.setTop (mkF m 2 #[.val (.int p1), .val (.int p2), .val (.int p3), .val (.int p4)] [(.int p4), (.int p1)])) target
    refine st_1 _ ?_
    show Steps p.tables e below (T_1.setTop (mkF m 5 #[.val (.int p1), .val (.int p2), .val (.int p3), .val (.int p4)] [(.long (own_hit p1 p4))])) target
    refine XS.iloadN X_1.here hx rfl (hb hby d_expt_5) rfl ?_
    show Steps p.tables e below (T_1.setTop (mkF m 6 #[.val (.int p1), .val (.int p2), .val (.int p3), .val (.int p4)] [(.int p2), (.long (own_hit p1 p4))])) target
    refine XS.iloadN X_1.here hx rfl (hb hby d_expt_6) rfl ?_
    show Steps p.tables e below (T_1.setTop (mkF m 7 #[.val (.int p1), .val (.int p2), .val (.int p3), .val (.int p4)] [(.int p4), (.int p2), (.long (own_hit p1 p4))])) target
    refine st_2 _ ?_
    show Steps p.tables e below (T_2.setTop (mkF m 10 #[.val (.int p1), .val (.int p2), .val (.int p3), .val (.int p4)] [(.long (own_hit p2 p4)), (.long (own_hit p1 p4))])) target
    refine XS.ladd X_2.here hx rfl (hb hby d_expt_10) rfl ?_
    show Steps p.tables e below (T_2.setTop (mkF m 11 #[.val (.int p1), .val (.int p2), .val (.int p3), .val (.int p4)] [(.long ((own_hit p1 p4) + (own_hit p2 p4)))])) target
    refine XS.iloadN X_2.here hx rfl (hb hby d_expt_11) rfl ?_
    show Steps p.tables e below (T_2.setTop (mkF m 12 #[.val (.int p1), .val (.int p2), .val (.int p3), .val (.int p4)] [(.int p3), (.long ((own_hit p1 p4) + (own_hit p2 p4)))])) target
    refine XS.iloadN X_2.here hx rfl (hb hby d_expt_12) rfl ?_
    show Steps p.tables e below (T_2.setTop (mkF m 13 #[.val (.int p1), .val (.int p2), .val (.int p3), .val (.int p4)] [(.int p4), (.int p3), (.long ((own_hit p1 p4) + (own_hit p2 p4)))])) target
    refine st_3 _ ?_
    show Steps p.tables e below (T_3.setTop (mkF m 16 #[.val (.int p1), .val (.int p2), .val (.int p3), .val (.int p4)] [(.long (own_hit p3 p4)), (.long ((own_hit p1 p4) + (own_hit p2 p4)))])) target
    refine XS.ladd X_3.here hx rfl (hb hby d_expt_16) rfl ?_
    show Steps p.tables e below (T_3.setTop (mkF m 17 #[.val (.int p1), .val (.int p2), .val (.int p3), .val (.int p4)] [(.long (((own_hit p1 p4) + (own_hit p2 p4)) + (own_hit p3 p4)))])) target
    exact kt
  obtain ⟨fs, hr, hrun, hended, hW, hsame⟩ := X_3.leave (v := some (.long (((own_hit p1 p4) + (own_hit p2 p4)) + (own_hit p3 p4)))) (fun h => by rw [Bd.returns] at h; cases h)
  refine ⟨_, _, Jvm.Stand.lreturnOut X_3 hx Bd.returns (hb hby d_expt_17) hr, hrun, hended, _, _, rfl, ?_, ⟨_, rfl⟩, hW, hsame.mono (by decide) (by decide)⟩
  show Q_expt Z p1 p2 p3 p4 h0 n0 _ T_3.heap _
  rw [p_3_0]
  exact ⟨(congrArg (fun z => some (Value.long z)) (rfl)), N_3, rfl⟩
-- com/example/honeybee/honeybee/crawl/CrawlCountsCountAnswerPinLaw.law:(III)Z
theorem pn_law : plainName "com/example/honeybee/honeybee/crawl/CrawlCountsCountAnswerPinLaw" = true := by first | (simp [plainName, overriddenIn]; done) | decide +kernel
theorem ef_law (m : MethodId) (ua : Int32) (ub : Int32) (uc : Int32) : entryFrame m #[(.int ua), (.int ub), (.int uc)] maxLocals = mkF m 0 #[.val (.int ua), .val (.int ub), .val (.int uc), .unset, .unset, .unset, .unset, .unset] [] := by first | (simp [entryFrame, mkF, argsToLocals, Value.category, maxLocals]; done) | rfl
def Q_law (Z : State) (ua : Int32) (ub : Int32) (uc : Int32) (h0 : Heap) (n0 : Nat) (v : Option Value) (h : Heap) (L : List Loc) : Prop := v = some (.int (1 : Int32)) ∧ Fr n0 L
set_option maxRecDepth 65536 in
set_option maxHeartbeats 40000000 in
theorem rm_law (l : Launch) (Z : State) (a0 : Array Value) (hw : ∀ d ∈ tables_1, d.before a0 Z = true) (ws : List Jvm.Cond) (ua : Int32) (ub : Int32) (uc : Int32) (h0 : Heap) (n0 : Nat) (Z0 : n0 ≤ h0.size) :
    MetFree l x (head1 (Jvm.Cond.code x code maxLocals ret :: ws) room_1) (fun a U => a = #[(.int ua), (.int ub), (.int uc)] ∧ Z.Warmed39 U.vm ∧ U.heap = h0) (fun _ _ _ _ _ => True) (fun _ U o U' => ∃ v L, o = .returned v ∧ Q_law Z ua ub uc h0 n0 v U'.heap L ∧ FrameEnd U o U' L room_1.cells room_1.slots) := by
  refine MetFree.of_bodySF (plainFor_of_name pn_law) hisR ?_
  intro p e s m args below meth c s₁ Bd hml0 hP hK
  obtain ⟨rfl, hZ, hh⟩ := hP
  have hx := Bd.exec
  have hby := Bd.bytes
  have hml : c.maxLocals = 8 := hml0
  have hown : s.vm.findClass "com/example/honeybee/honeybee/crawl/CrawlCountsCountAnswerPinLaw" = some m.cls := findClass_of_methodNamed Bd.named
  have hnm := (name_of_methodNamed Bd.named Bd.method).1
  have X0 : Stand p l e room_1 s m #[(.int ua), (.int ub), (.int uc)] below meth c s₁ [] 0 0 := Stand.of_body Bd
  have e0 : s₁.heap = h0 := by rw [← hh, Bd.state]; rfl
  have N0 := Fr.nil n0
  refine own_in ?_
  refine own_go (S' := s₁.setTop (mkF m 0 #[.val (.int ua), .val (.int ub), .val (.int uc), .unset, .unset, .unset, .unset, .unset] [])) (fun tgt_ stp_ => castTop (ef_law m ua ub uc) stp_) ?_
  obtain ⟨T_1, h_1, X_1, e_1, E_1, A_1, D_1, -, st_1⟩ := newO X0 hx hZ hown (hw _ (List.mem_of_getElem? (i := 1) rfl)) (hw _ (List.mem_of_getElem? (i := 2) rfl)) (hw _ (List.mem_of_getElem? (i := 3) rfl)) e0 (g := (mkF m 23 #[.val (.int ua), .val (.int ub), .val (.int uc), .val (.int ua), .val (.int (ub &&& (1023 : Int32))), .val (.int ((190 : Int32) + ((uc &&& (2147483647 : Int32)) % (420 : Int32)))), .unset, .unset] [])) rfl (hb hby at_23) (by decide) (by decide)
  obtain ⟨b_1, g_1⟩ : ∃ z, z = h0.size := ⟨_, rfl⟩
  rw [← g_1] at A_1 D_1 st_1
  have gn_b_1 : n0 ≤ b_1 := Nat.le_trans Z0 (Nat.le_of_eq g_1.symm)
  have Z_2 : n0 ≤ h_1.size := Nat.le_trans Z0 E_1.1
  have F_1_byClass : Fld Z h_1 b_1 "com/example/honeybee/honeybee/crawl/CrawlCounts" "byClass" "[J" .null := D_1 (Or.inr (hw _ (List.mem_of_getElem? (i := 12) rfl))) (ty := (.array .long)) (by decide)
  have F_1_failed : Fld Z h_1 b_1 "com/example/honeybee/honeybee/crawl/CrawlCounts" "failed" "J" (.long (0 : Int64)) := D_1 (Or.inl (hw _ (List.mem_of_getElem? (i := 19) rfl))) (ty := .long) (by decide)
  obtain ⟨_, _, ⟨T_4, L_4, k_4, n_4⟩, -, X_4, ⟨Lc_4, hQ_4, l_4, y_4, z_4⟩, st_4⟩ := X_1.specialBack hx (y := (⟨"com/example/honeybee/honeybee/crawl/CrawlCounts", "<init>", "()V"⟩ : MethodName)) rfl hown (mvT hZ (hw _ (List.mem_of_getElem? (i := 4) rfl))) (mvT hZ (hw _ (List.mem_of_getElem? (i := 5) rfl))) (mvT hZ (hw _ (List.mem_of_getElem? (i := 6) rfl))) (by decide) (backOf (W := 1) (rm_ci l Z a0 hw [] b_1  h_1 n0 Z_2 A_1 F_1_byClass F_1_failed gn_b_1) hZ (hw _ (List.mem_of_getElem? (i := 6) rfl)) (hw _ (List.mem_of_getElem? (i := 3) rfl)) (by decide) (by decide)) (g := (mkF m 27 #[.val (.int ua), .val (.int ub), .val (.int uc), .val (.int ua), .val (.int (ub &&& (1023 : Int32))), .val (.int ((190 : Int32) + ((uc &&& (2147483647 : Int32)) % (420 : Int32)))), .unset, .unset] [(.ref b_1), (.ref b_1)])) rfl (by rw [hml]; rfl) (Steps.refl _) (a := b_1) (argsL := []) (rest := [(.ref b_1)]) (lenOf pd__V rfl) rfl (by show 2 * 0 + _ ≤ _; exact Nat.le_of_eq rfl) (hb hby at_27) (fun _ _ => ⟨rfl, e_1, (by decide : 1 + 1 ≤ _), (by decide : 4 + 6 ≤ _)⟩)
  dsimp only [Pt.U, Pt.locs, Pt.cells, Pt.slots] at X_4 l_4 y_4 z_4 st_4 hQ_4
  subst l_4 y_4 z_4
  obtain ⟨bx_4, kx_4, rfl, N_4q, p_4_0, p_4_1, p_4_2, p_4_3, p_4_4, p_4_5, p_4_6⟩ := hQ_4
  have N_4 := Fr.app N0 N_4q
  have Z_5 : n0 ≤ T_4.heap.size := Nat.le_trans Z_2 p_4_0.1
  have gn_bx_4 : n0 ≤ bx_4 := Nat.le_trans Z_2 p_4_4
  have ne_b_1_bx_4 : b_1 ≠ bx_4 := Nat.ne_of_lt (Nat.lt_of_lt_of_le A_1.lt p_4_4)
  obtain ⟨cq_7, kq_7, q_7a, q_7b, q_7c⟩ := isOf hZ rfl p_4_1
  obtain ⟨_, _, ⟨T_7, L_7, k_7, n_7⟩, -, X_7, ⟨Lc_7, hQ_7, l_7, y_7, z_7⟩, st_7⟩ := X_4.virtualBack hx (y := (⟨"com/example/honeybee/honeybee/crawl/CrawlCounts", "countAnswer", "(I)V"⟩ : MethodName)) (z := (⟨"com/example/honeybee/honeybee/crawl/CrawlCounts", "countAnswer", "(I)V"⟩ : MethodName)) hown (mvT hZ (hw _ (List.mem_of_getElem? (i := 13) rfl))) (mvT hZ (hw _ (List.mem_of_getElem? (i := 14) rfl))) (notFace_of_selects (args := #[]) (mvT hZ (hw _ (List.mem_of_getElem? (i := 16) rfl)))) (mvT hZ (hw _ (List.mem_of_getElem? (i := 16) rfl))) (mvT hZ (hw _ (List.mem_of_getElem? (i := 15) rfl))) (by decide) (backOf (W := 0) (rm_ca l Z a0 hw [] b_1 ua bx_4 kx_4 (0 : Int64) (0 : Int64) (0 : Int64) (0 : Int64) (0 : Int64) (0 : Int64) (0 : Int64) T_4.heap n0 Z_5 p_4_1 p_4_2 p_4_3 p_4_6 gn_b_1 gn_bx_4 p_4_5) hZ (hw _ (List.mem_of_getElem? (i := 17) rfl)) (hw _ (List.mem_of_getElem? (i := 3) rfl)) (by decide) (by decide)) q_7a q_7c (g := (mkF m 35 #[.val (.int ua), .val (.int ub), .val (.int uc), .val (.int ua), .val (.int (ub &&& (1023 : Int32))), .val (.int ((190 : Int32) + ((uc &&& (2147483647 : Int32)) % (420 : Int32)))), .val (.ref b_1), .unset] [(.int ua), (.ref b_1)])) rfl (by rw [hml]; rfl) (Steps.refl _) (argsL := [(.int ua)]) (rest := []) (lenOf pd_I_V rfl) rfl (by show 2 * 0 + _ ≤ _; exact Nat.le_of_eq rfl) (hb hby at_35) (fun _ _ => ⟨rfl, rfl, (by decide : 2 + 0 ≤ _), (by decide : 10 + 0 ≤ _)⟩)
  dsimp only [Pt.U, Pt.locs, Pt.cells, Pt.slots] at X_7 l_7 y_7 z_7 st_7 hQ_7
  subst l_7 y_7 z_7
  obtain ⟨rfl, N_7q, p_7_0, p_7_1, p_7_2, p_7_3, p_7_4⟩ := hQ_7
  have N_7 := Fr.app N_4 N_7q
  have Z_8 : n0 ≤ T_7.heap.size := Nat.le_trans Z_5 p_7_0.1
  obtain ⟨cq_10, kq_10, q_10a, q_10b, q_10c⟩ := isOf hZ rfl p_7_1
  obtain ⟨_, _, ⟨T_10, L_10, k_10, n_10⟩, -, X_10, ⟨Lc_10, hQ_10, l_10, y_10, z_10⟩, st_10⟩ := X_7.virtualBack hx (y := (⟨"com/example/honeybee/honeybee/crawl/CrawlCounts", "countAnswer", "(I)V"⟩ : MethodName)) (z := (⟨"com/example/honeybee/honeybee/crawl/CrawlCounts", "countAnswer", "(I)V"⟩ : MethodName)) hown (mvT hZ (hw _ (List.mem_of_getElem? (i := 13) rfl))) (mvT hZ (hw _ (List.mem_of_getElem? (i := 14) rfl))) (notFace_of_selects (args := #[]) (mvT hZ (hw _ (List.mem_of_getElem? (i := 16) rfl)))) (mvT hZ (hw _ (List.mem_of_getElem? (i := 16) rfl))) (mvT hZ (hw _ (List.mem_of_getElem? (i := 15) rfl))) (by decide) (backOf (W := 0) (rm_ca l Z a0 hw [] b_1 (ub &&& (1023 : Int32)) bx_4 kx_4 (0 : Int64) (0 : Int64) ((0 : Int64) + own_hit ua (2 : Int32)) ((0 : Int64) + own_hit ua (3 : Int32)) ((0 : Int64) + own_hit ua (4 : Int32)) ((0 : Int64) + own_hit ua (5 : Int32)) ((0 : Int64) + own_hit ua (-1 : Int32)) T_7.heap n0 Z_8 p_7_1 p_7_2 p_7_3 p_7_4 gn_b_1 gn_bx_4 p_4_5) hZ (hw _ (List.mem_of_getElem? (i := 17) rfl)) (hw _ (List.mem_of_getElem? (i := 3) rfl)) (by decide) (by decide)) q_10a q_10c (g := (mkF m 42 #[.val (.int ua), .val (.int ub), .val (.int uc), .val (.int ua), .val (.int (ub &&& (1023 : Int32))), .val (.int ((190 : Int32) + ((uc &&& (2147483647 : Int32)) % (420 : Int32)))), .val (.ref b_1), .unset] [(.int (ub &&& (1023 : Int32))), (.ref b_1)])) rfl (by rw [hml]; rfl) (Steps.refl _) (argsL := [(.int (ub &&& (1023 : Int32)))]) (rest := []) (lenOf pd_I_V rfl) rfl (by show 2 * 0 + _ ≤ _; exact Nat.le_of_eq rfl) (hb hby at_42) (fun _ _ => ⟨rfl, rfl, (by decide : 2 + 0 ≤ _), (by decide : 10 + 0 ≤ _)⟩)
  dsimp only [Pt.U, Pt.locs, Pt.cells, Pt.slots] at X_10 l_10 y_10 z_10 st_10 hQ_10
  subst l_10 y_10 z_10
  obtain ⟨rfl, N_10q, p_10_0, p_10_1, p_10_2, p_10_3, p_10_4⟩ := hQ_10
  have N_10 := Fr.app N_7 N_10q
  have Z_11 : n0 ≤ T_10.heap.size := Nat.le_trans Z_8 p_10_0.1
  obtain ⟨cq_13, kq_13, q_13a, q_13b, q_13c⟩ := isOf hZ rfl p_10_1
  obtain ⟨_, _, ⟨T_13, L_13, k_13, n_13⟩, -, X_13, ⟨Lc_13, hQ_13, l_13, y_13, z_13⟩, st_13⟩ := X_10.virtualBack hx (y := (⟨"com/example/honeybee/honeybee/crawl/CrawlCounts", "countAnswer", "(I)V"⟩ : MethodName)) (z := (⟨"com/example/honeybee/honeybee/crawl/CrawlCounts", "countAnswer", "(I)V"⟩ : MethodName)) hown (mvT hZ (hw _ (List.mem_of_getElem? (i := 13) rfl))) (mvT hZ (hw _ (List.mem_of_getElem? (i := 14) rfl))) (notFace_of_selects (args := #[]) (mvT hZ (hw _ (List.mem_of_getElem? (i := 16) rfl)))) (mvT hZ (hw _ (List.mem_of_getElem? (i := 16) rfl))) (mvT hZ (hw _ (List.mem_of_getElem? (i := 15) rfl))) (by decide) (backOf (W := 0) (rm_ca l Z a0 hw [] b_1 ((190 : Int32) + ((uc &&& (2147483647 : Int32)) % (420 : Int32))) bx_4 kx_4 (0 : Int64) (0 : Int64) (((0 : Int64) + own_hit ua (2 : Int32)) + own_hit (ub &&& (1023 : Int32)) (2 : Int32)) (((0 : Int64) + own_hit ua (3 : Int32)) + own_hit (ub &&& (1023 : Int32)) (3 : Int32)) (((0 : Int64) + own_hit ua (4 : Int32)) + own_hit (ub &&& (1023 : Int32)) (4 : Int32)) (((0 : Int64) + own_hit ua (5 : Int32)) + own_hit (ub &&& (1023 : Int32)) (5 : Int32)) (((0 : Int64) + own_hit ua (-1 : Int32)) + own_hit (ub &&& (1023 : Int32)) (-1 : Int32)) T_10.heap n0 Z_11 p_10_1 p_10_2 p_10_3 p_10_4 gn_b_1 gn_bx_4 p_4_5) hZ (hw _ (List.mem_of_getElem? (i := 17) rfl)) (hw _ (List.mem_of_getElem? (i := 3) rfl)) (by decide) (by decide)) q_13a q_13c (g := (mkF m 49 #[.val (.int ua), .val (.int ub), .val (.int uc), .val (.int ua), .val (.int (ub &&& (1023 : Int32))), .val (.int ((190 : Int32) + ((uc &&& (2147483647 : Int32)) % (420 : Int32)))), .val (.ref b_1), .unset] [(.int ((190 : Int32) + ((uc &&& (2147483647 : Int32)) % (420 : Int32)))), (.ref b_1)])) rfl (by rw [hml]; rfl) (Steps.refl _) (argsL := [(.int ((190 : Int32) + ((uc &&& (2147483647 : Int32)) % (420 : Int32))))]) (rest := []) (lenOf pd_I_V rfl) rfl (by show 2 * 0 + _ ≤ _; exact Nat.le_of_eq rfl) (hb hby at_49) (fun _ _ => ⟨rfl, rfl, (by decide : 2 + 0 ≤ _), (by decide : 10 + 0 ≤ _)⟩)
  dsimp only [Pt.U, Pt.locs, Pt.cells, Pt.slots] at X_13 l_13 y_13 z_13 st_13 hQ_13
  subst l_13 y_13 z_13
  obtain ⟨rfl, N_13q, p_13_0, p_13_1, p_13_2, p_13_3, p_13_4⟩ := hQ_13
  have N_13 := Fr.app N_10 N_13q
  have Z_14 : n0 ≤ T_13.heap.size := Nat.le_trans Z_11 p_13_0.1
  obtain ⟨cq_16, kq_16, q_16a, q_16b, q_16c⟩ := isOf hZ rfl p_13_1
  obtain ⟨_, _, ⟨T_16, L_16, k_16, n_16⟩, -, X_16, ⟨Lc_16, hQ_16, l_16, y_16, z_16⟩, st_16⟩ := X_13.virtualBack hx (y := (⟨"com/example/honeybee/honeybee/crawl/CrawlCounts", "answered", "(I)J"⟩ : MethodName)) (z := (⟨"com/example/honeybee/honeybee/crawl/CrawlCounts", "answered", "(I)J"⟩ : MethodName)) hown (mvT hZ (hw _ (List.mem_of_getElem? (i := 20) rfl))) (mvT hZ (hw _ (List.mem_of_getElem? (i := 21) rfl))) (notFace_of_selects (args := #[]) (mvT hZ (hw _ (List.mem_of_getElem? (i := 23) rfl)))) (mvT hZ (hw _ (List.mem_of_getElem? (i := 23) rfl))) (mvT hZ (hw _ (List.mem_of_getElem? (i := 22) rfl))) (by decide) (backOf (W := 0) (rm_ans l Z a0 hw [] b_1 (2 : Int32) bx_4 kx_4 (0 : Int64) (0 : Int64) ((((0 : Int64) + own_hit ua (2 : Int32)) + own_hit (ub &&& (1023 : Int32)) (2 : Int32)) + own_hit ((190 : Int32) + ((uc &&& (2147483647 : Int32)) % (420 : Int32))) (2 : Int32)) ((((0 : Int64) + own_hit ua (3 : Int32)) + own_hit (ub &&& (1023 : Int32)) (3 : Int32)) + own_hit ((190 : Int32) + ((uc &&& (2147483647 : Int32)) % (420 : Int32))) (3 : Int32)) ((((0 : Int64) + own_hit ua (4 : Int32)) + own_hit (ub &&& (1023 : Int32)) (4 : Int32)) + own_hit ((190 : Int32) + ((uc &&& (2147483647 : Int32)) % (420 : Int32))) (4 : Int32)) ((((0 : Int64) + own_hit ua (5 : Int32)) + own_hit (ub &&& (1023 : Int32)) (5 : Int32)) + own_hit ((190 : Int32) + ((uc &&& (2147483647 : Int32)) % (420 : Int32))) (5 : Int32)) ((((0 : Int64) + own_hit ua (2 : Int32)) + own_hit (ub &&& (1023 : Int32)) (2 : Int32)) + own_hit ((190 : Int32) + ((uc &&& (2147483647 : Int32)) % (420 : Int32))) (2 : Int32)) T_13.heap n0 Z_14 p_13_2 p_13_4 (by decide) rfl) hZ (hw _ (List.mem_of_getElem? (i := 24) rfl)) (hw _ (List.mem_of_getElem? (i := 3) rfl)) (by decide) (by decide)) q_16a q_16c (g := (mkF m 63 #[.val (.int ua), .val (.int ub), .val (.int uc), .val (.int ua), .val (.int (ub &&& (1023 : Int32))), .val (.int ((190 : Int32) + ((uc &&& (2147483647 : Int32)) % (420 : Int32)))), .val (.ref b_1), .val (.int (1 : Int32))] [(.int (2 : Int32)), (.ref b_1)])) rfl (by rw [hml]; rfl) (Steps.refl _) (argsL := [(.int (2 : Int32))]) (rest := []) (lenOf pd_I_J rfl) rfl (by show 2 * 0 + _ ≤ _; exact Nat.le_of_eq rfl) (hb hby at_63) (fun _ _ => ⟨rfl, rfl, (by decide : 2 + 0 ≤ _), (by decide : 10 + 0 ≤ _)⟩)
  dsimp only [Pt.U, Pt.locs, Pt.cells, Pt.slots] at X_16 l_16 y_16 z_16 st_16 hQ_16
  subst l_16 y_16 z_16
  obtain ⟨rfl, N_16q, p_16_0⟩ := hQ_16
  have N_16 := Fr.app N_13 N_16q
  obtain ⟨_, _, ⟨T_17, L_17, k_17, n_17⟩, -, X_17, ⟨Lc_17, hQ_17, l_17, y_17, z_17⟩, st_17⟩ := Jvm.LawKit.callS X_16 hx (y := (⟨"com/example/honeybee/honeybee/crawl/CrawlCountsCountAnswerPinLaw", "expect", "(IIII)J"⟩ : MethodName)) hown (mvT hZ (hw _ (List.mem_of_getElem? (i := 25) rfl))) (mvT hZ (hw _ (List.mem_of_getElem? (i := 26) rfl))) (mvT hZ (hw _ (List.mem_of_getElem? (i := 27) rfl))) (mvT hZ (hw _ (List.mem_of_getElem? (i := 28) rfl))) (by decide) (backOf (W := 2) (rm_expt l Z a0 hw [] ua (ub &&& (1023 : Int32)) ((190 : Int32) + ((uc &&& (2147483647 : Int32)) % (420 : Int32))) (2 : Int32)  T_13.heap n0 Z_14 ) hZ (hw _ (List.mem_of_getElem? (i := 28) rfl)) (hw _ (List.mem_of_getElem? (i := 27) rfl)) (by decide) (by decide)) (g := (mkF m 72 #[.val (.int ua), .val (.int ub), .val (.int uc), .val (.int ua), .val (.int (ub &&& (1023 : Int32))), .val (.int ((190 : Int32) + ((uc &&& (2147483647 : Int32)) % (420 : Int32)))), .val (.ref b_1), .val (.int (1 : Int32))] [(.int (2 : Int32)), (.int ((190 : Int32) + ((uc &&& (2147483647 : Int32)) % (420 : Int32)))), (.int (ub &&& (1023 : Int32))), (.int ua), (.long ((((0 : Int64) + own_hit ua (2 : Int32)) + own_hit (ub &&& (1023 : Int32)) (2 : Int32)) + own_hit ((190 : Int32) + ((uc &&& (2147483647 : Int32)) % (420 : Int32))) (2 : Int32)))])) rfl (by rw [hml]; rfl) (argsL := [(.int ua), (.int (ub &&& (1023 : Int32))), (.int ((190 : Int32) + ((uc &&& (2147483647 : Int32)) % (420 : Int32)))), (.int (2 : Int32))]) (rest := [(.long ((((0 : Int64) + own_hit ua (2 : Int32)) + own_hit (ub &&& (1023 : Int32)) (2 : Int32)) + own_hit ((190 : Int32) + ((uc &&& (2147483647 : Int32)) % (420 : Int32))) (2 : Int32)))]) (lenOf pd_IIII_J rfl) rfl (by show 2 * 0 + _ ≤ _; exact Nat.le_of_eq rfl) (hb hby at_72) (fun _ _ => ⟨rfl, p_16_0, (by decide : 2 + 0 ≤ _), (by decide : 10 + 0 ≤ _)⟩)
  dsimp only [Pt.U, Pt.locs, Pt.cells, Pt.slots] at X_17 l_17 y_17 z_17 st_17 hQ_17
  subst l_17 y_17 z_17
  obtain ⟨rfl, N_17q, p_17_0⟩ := hQ_17
  have N_17 := Fr.app N_16 N_17q
  obtain ⟨cq_18, kq_18, q_18a, q_18b, q_18c⟩ := isOf hZ p_17_0 p_13_1
  obtain ⟨_, _, ⟨T_18, L_18, k_18, n_18⟩, -, X_18, ⟨Lc_18, hQ_18, l_18, y_18, z_18⟩, st_18⟩ := X_17.virtualBack hx (y := (⟨"com/example/honeybee/honeybee/crawl/CrawlCounts", "answered", "(I)J"⟩ : MethodName)) (z := (⟨"com/example/honeybee/honeybee/crawl/CrawlCounts", "answered", "(I)J"⟩ : MethodName)) hown (mvT hZ (hw _ (List.mem_of_getElem? (i := 20) rfl))) (mvT hZ (hw _ (List.mem_of_getElem? (i := 21) rfl))) (notFace_of_selects (args := #[]) (mvT hZ (hw _ (List.mem_of_getElem? (i := 23) rfl)))) (mvT hZ (hw _ (List.mem_of_getElem? (i := 23) rfl))) (mvT hZ (hw _ (List.mem_of_getElem? (i := 22) rfl))) (by decide) (backOf (W := 0) (rm_ans l Z a0 hw [] b_1 (3 : Int32) bx_4 kx_4 (0 : Int64) (0 : Int64) ((((0 : Int64) + own_hit ua (2 : Int32)) + own_hit (ub &&& (1023 : Int32)) (2 : Int32)) + own_hit ((190 : Int32) + ((uc &&& (2147483647 : Int32)) % (420 : Int32))) (2 : Int32)) ((((0 : Int64) + own_hit ua (3 : Int32)) + own_hit (ub &&& (1023 : Int32)) (3 : Int32)) + own_hit ((190 : Int32) + ((uc &&& (2147483647 : Int32)) % (420 : Int32))) (3 : Int32)) ((((0 : Int64) + own_hit ua (4 : Int32)) + own_hit (ub &&& (1023 : Int32)) (4 : Int32)) + own_hit ((190 : Int32) + ((uc &&& (2147483647 : Int32)) % (420 : Int32))) (4 : Int32)) ((((0 : Int64) + own_hit ua (5 : Int32)) + own_hit (ub &&& (1023 : Int32)) (5 : Int32)) + own_hit ((190 : Int32) + ((uc &&& (2147483647 : Int32)) % (420 : Int32))) (5 : Int32)) ((((0 : Int64) + own_hit ua (3 : Int32)) + own_hit (ub &&& (1023 : Int32)) (3 : Int32)) + own_hit ((190 : Int32) + ((uc &&& (2147483647 : Int32)) % (420 : Int32))) (3 : Int32)) T_13.heap n0 Z_14 p_13_2 p_13_4 (by decide) rfl) hZ (hw _ (List.mem_of_getElem? (i := 24) rfl)) (hw _ (List.mem_of_getElem? (i := 3) rfl)) (by decide) (by decide)) q_18a q_18c (g := (mkF m 94 #[.val (.int ua), .val (.int ub), .val (.int uc), .val (.int ua), .val (.int (ub &&& (1023 : Int32))), .val (.int ((190 : Int32) + ((uc &&& (2147483647 : Int32)) % (420 : Int32)))), .val (.ref b_1), .val (.int (1 : Int32))] [(.int (3 : Int32)), (.ref b_1)])) rfl (by rw [hml]; rfl) (Steps.refl _) (argsL := [(.int (3 : Int32))]) (rest := []) (lenOf pd_I_J rfl) rfl (by show 2 * 0 + _ ≤ _; exact Nat.le_of_eq rfl) (hb hby at_94) (fun _ _ => ⟨rfl, p_17_0, (by decide : 2 + 0 ≤ _), (by decide : 10 + 0 ≤ _)⟩)
  dsimp only [Pt.U, Pt.locs, Pt.cells, Pt.slots] at X_18 l_18 y_18 z_18 st_18 hQ_18
  subst l_18 y_18 z_18
  obtain ⟨rfl, N_18q, p_18_0⟩ := hQ_18
  have N_18 := Fr.app N_17 N_18q
  obtain ⟨_, _, ⟨T_19, L_19, k_19, n_19⟩, -, X_19, ⟨Lc_19, hQ_19, l_19, y_19, z_19⟩, st_19⟩ := Jvm.LawKit.callS X_18 hx (y := (⟨"com/example/honeybee/honeybee/crawl/CrawlCountsCountAnswerPinLaw", "expect", "(IIII)J"⟩ : MethodName)) hown (mvT hZ (hw _ (List.mem_of_getElem? (i := 25) rfl))) (mvT hZ (hw _ (List.mem_of_getElem? (i := 26) rfl))) (mvT hZ (hw _ (List.mem_of_getElem? (i := 27) rfl))) (mvT hZ (hw _ (List.mem_of_getElem? (i := 28) rfl))) (by decide) (backOf (W := 2) (rm_expt l Z a0 hw [] ua (ub &&& (1023 : Int32)) ((190 : Int32) + ((uc &&& (2147483647 : Int32)) % (420 : Int32))) (3 : Int32)  T_13.heap n0 Z_14 ) hZ (hw _ (List.mem_of_getElem? (i := 28) rfl)) (hw _ (List.mem_of_getElem? (i := 27) rfl)) (by decide) (by decide)) (g := (mkF m 103 #[.val (.int ua), .val (.int ub), .val (.int uc), .val (.int ua), .val (.int (ub &&& (1023 : Int32))), .val (.int ((190 : Int32) + ((uc &&& (2147483647 : Int32)) % (420 : Int32)))), .val (.ref b_1), .val (.int (1 : Int32))] [(.int (3 : Int32)), (.int ((190 : Int32) + ((uc &&& (2147483647 : Int32)) % (420 : Int32)))), (.int (ub &&& (1023 : Int32))), (.int ua), (.long ((((0 : Int64) + own_hit ua (3 : Int32)) + own_hit (ub &&& (1023 : Int32)) (3 : Int32)) + own_hit ((190 : Int32) + ((uc &&& (2147483647 : Int32)) % (420 : Int32))) (3 : Int32)))])) rfl (by rw [hml]; rfl) (argsL := [(.int ua), (.int (ub &&& (1023 : Int32))), (.int ((190 : Int32) + ((uc &&& (2147483647 : Int32)) % (420 : Int32)))), (.int (3 : Int32))]) (rest := [(.long ((((0 : Int64) + own_hit ua (3 : Int32)) + own_hit (ub &&& (1023 : Int32)) (3 : Int32)) + own_hit ((190 : Int32) + ((uc &&& (2147483647 : Int32)) % (420 : Int32))) (3 : Int32)))]) (lenOf pd_IIII_J rfl) rfl (by show 2 * 0 + _ ≤ _; exact Nat.le_of_eq rfl) (hb hby at_103) (fun _ _ => ⟨rfl, p_18_0, (by decide : 2 + 0 ≤ _), (by decide : 10 + 0 ≤ _)⟩)
  dsimp only [Pt.U, Pt.locs, Pt.cells, Pt.slots] at X_19 l_19 y_19 z_19 st_19 hQ_19
  subst l_19 y_19 z_19
  obtain ⟨rfl, N_19q, p_19_0⟩ := hQ_19
  have N_19 := Fr.app N_18 N_19q
  obtain ⟨cq_20, kq_20, q_20a, q_20b, q_20c⟩ := isOf hZ p_19_0 p_13_1
  obtain ⟨_, _, ⟨T_20, L_20, k_20, n_20⟩, -, X_20, ⟨Lc_20, hQ_20, l_20, y_20, z_20⟩, st_20⟩ := X_19.virtualBack hx (y := (⟨"com/example/honeybee/honeybee/crawl/CrawlCounts", "answered", "(I)J"⟩ : MethodName)) (z := (⟨"com/example/honeybee/honeybee/crawl/CrawlCounts", "answered", "(I)J"⟩ : MethodName)) hown (mvT hZ (hw _ (List.mem_of_getElem? (i := 20) rfl))) (mvT hZ (hw _ (List.mem_of_getElem? (i := 21) rfl))) (notFace_of_selects (args := #[]) (mvT hZ (hw _ (List.mem_of_getElem? (i := 23) rfl)))) (mvT hZ (hw _ (List.mem_of_getElem? (i := 23) rfl))) (mvT hZ (hw _ (List.mem_of_getElem? (i := 22) rfl))) (by decide) (backOf (W := 0) (rm_ans l Z a0 hw [] b_1 (4 : Int32) bx_4 kx_4 (0 : Int64) (0 : Int64) ((((0 : Int64) + own_hit ua (2 : Int32)) + own_hit (ub &&& (1023 : Int32)) (2 : Int32)) + own_hit ((190 : Int32) + ((uc &&& (2147483647 : Int32)) % (420 : Int32))) (2 : Int32)) ((((0 : Int64) + own_hit ua (3 : Int32)) + own_hit (ub &&& (1023 : Int32)) (3 : Int32)) + own_hit ((190 : Int32) + ((uc &&& (2147483647 : Int32)) % (420 : Int32))) (3 : Int32)) ((((0 : Int64) + own_hit ua (4 : Int32)) + own_hit (ub &&& (1023 : Int32)) (4 : Int32)) + own_hit ((190 : Int32) + ((uc &&& (2147483647 : Int32)) % (420 : Int32))) (4 : Int32)) ((((0 : Int64) + own_hit ua (5 : Int32)) + own_hit (ub &&& (1023 : Int32)) (5 : Int32)) + own_hit ((190 : Int32) + ((uc &&& (2147483647 : Int32)) % (420 : Int32))) (5 : Int32)) ((((0 : Int64) + own_hit ua (4 : Int32)) + own_hit (ub &&& (1023 : Int32)) (4 : Int32)) + own_hit ((190 : Int32) + ((uc &&& (2147483647 : Int32)) % (420 : Int32))) (4 : Int32)) T_13.heap n0 Z_14 p_13_2 p_13_4 (by decide) rfl) hZ (hw _ (List.mem_of_getElem? (i := 24) rfl)) (hw _ (List.mem_of_getElem? (i := 3) rfl)) (by decide) (by decide)) q_20a q_20c (g := (mkF m 125 #[.val (.int ua), .val (.int ub), .val (.int uc), .val (.int ua), .val (.int (ub &&& (1023 : Int32))), .val (.int ((190 : Int32) + ((uc &&& (2147483647 : Int32)) % (420 : Int32)))), .val (.ref b_1), .val (.int (1 : Int32))] [(.int (4 : Int32)), (.ref b_1)])) rfl (by rw [hml]; rfl) (Steps.refl _) (argsL := [(.int (4 : Int32))]) (rest := []) (lenOf pd_I_J rfl) rfl (by show 2 * 0 + _ ≤ _; exact Nat.le_of_eq rfl) (hb hby at_125) (fun _ _ => ⟨rfl, p_19_0, (by decide : 2 + 0 ≤ _), (by decide : 10 + 0 ≤ _)⟩)
  dsimp only [Pt.U, Pt.locs, Pt.cells, Pt.slots] at X_20 l_20 y_20 z_20 st_20 hQ_20
  subst l_20 y_20 z_20
  obtain ⟨rfl, N_20q, p_20_0⟩ := hQ_20
  have N_20 := Fr.app N_19 N_20q
  obtain ⟨_, _, ⟨T_21, L_21, k_21, n_21⟩, -, X_21, ⟨Lc_21, hQ_21, l_21, y_21, z_21⟩, st_21⟩ := Jvm.LawKit.callS X_20 hx (y := (⟨"com/example/honeybee/honeybee/crawl/CrawlCountsCountAnswerPinLaw", "expect", "(IIII)J"⟩ : MethodName)) hown (mvT hZ (hw _ (List.mem_of_getElem? (i := 25) rfl))) (mvT hZ (hw _ (List.mem_of_getElem? (i := 26) rfl))) (mvT hZ (hw _ (List.mem_of_getElem? (i := 27) rfl))) (mvT hZ (hw _ (List.mem_of_getElem? (i := 28) rfl))) (by decide) (backOf (W := 2) (rm_expt l Z a0 hw [] ua (ub &&& (1023 : Int32)) ((190 : Int32) + ((uc &&& (2147483647 : Int32)) % (420 : Int32))) (4 : Int32)  T_13.heap n0 Z_14 ) hZ (hw _ (List.mem_of_getElem? (i := 28) rfl)) (hw _ (List.mem_of_getElem? (i := 27) rfl)) (by decide) (by decide)) (g := (mkF m 134 #[.val (.int ua), .val (.int ub), .val (.int uc), .val (.int ua), .val (.int (ub &&& (1023 : Int32))), .val (.int ((190 : Int32) + ((uc &&& (2147483647 : Int32)) % (420 : Int32)))), .val (.ref b_1), .val (.int (1 : Int32))] [(.int (4 : Int32)), (.int ((190 : Int32) + ((uc &&& (2147483647 : Int32)) % (420 : Int32)))), (.int (ub &&& (1023 : Int32))), (.int ua), (.long ((((0 : Int64) + own_hit ua (4 : Int32)) + own_hit (ub &&& (1023 : Int32)) (4 : Int32)) + own_hit ((190 : Int32) + ((uc &&& (2147483647 : Int32)) % (420 : Int32))) (4 : Int32)))])) rfl (by rw [hml]; rfl) (argsL := [(.int ua), (.int (ub &&& (1023 : Int32))), (.int ((190 : Int32) + ((uc &&& (2147483647 : Int32)) % (420 : Int32)))), (.int (4 : Int32))]) (rest := [(.long ((((0 : Int64) + own_hit ua (4 : Int32)) + own_hit (ub &&& (1023 : Int32)) (4 : Int32)) + own_hit ((190 : Int32) + ((uc &&& (2147483647 : Int32)) % (420 : Int32))) (4 : Int32)))]) (lenOf pd_IIII_J rfl) rfl (by show 2 * 0 + _ ≤ _; exact Nat.le_of_eq rfl) (hb hby at_134) (fun _ _ => ⟨rfl, p_20_0, (by decide : 2 + 0 ≤ _), (by decide : 10 + 0 ≤ _)⟩)
  dsimp only [Pt.U, Pt.locs, Pt.cells, Pt.slots] at X_21 l_21 y_21 z_21 st_21 hQ_21
  subst l_21 y_21 z_21
  obtain ⟨rfl, N_21q, p_21_0⟩ := hQ_21
  have N_21 := Fr.app N_20 N_21q
  obtain ⟨cq_22, kq_22, q_22a, q_22b, q_22c⟩ := isOf hZ p_21_0 p_13_1
  obtain ⟨_, _, ⟨T_22, L_22, k_22, n_22⟩, -, X_22, ⟨Lc_22, hQ_22, l_22, y_22, z_22⟩, st_22⟩ := X_21.virtualBack hx (y := (⟨"com/example/honeybee/honeybee/crawl/CrawlCounts", "answered", "(I)J"⟩ : MethodName)) (z := (⟨"com/example/honeybee/honeybee/crawl/CrawlCounts", "answered", "(I)J"⟩ : MethodName)) hown (mvT hZ (hw _ (List.mem_of_getElem? (i := 20) rfl))) (mvT hZ (hw _ (List.mem_of_getElem? (i := 21) rfl))) (notFace_of_selects (args := #[]) (mvT hZ (hw _ (List.mem_of_getElem? (i := 23) rfl)))) (mvT hZ (hw _ (List.mem_of_getElem? (i := 23) rfl))) (mvT hZ (hw _ (List.mem_of_getElem? (i := 22) rfl))) (by decide) (backOf (W := 0) (rm_ans l Z a0 hw [] b_1 (5 : Int32) bx_4 kx_4 (0 : Int64) (0 : Int64) ((((0 : Int64) + own_hit ua (2 : Int32)) + own_hit (ub &&& (1023 : Int32)) (2 : Int32)) + own_hit ((190 : Int32) + ((uc &&& (2147483647 : Int32)) % (420 : Int32))) (2 : Int32)) ((((0 : Int64) + own_hit ua (3 : Int32)) + own_hit (ub &&& (1023 : Int32)) (3 : Int32)) + own_hit ((190 : Int32) + ((uc &&& (2147483647 : Int32)) % (420 : Int32))) (3 : Int32)) ((((0 : Int64) + own_hit ua (4 : Int32)) + own_hit (ub &&& (1023 : Int32)) (4 : Int32)) + own_hit ((190 : Int32) + ((uc &&& (2147483647 : Int32)) % (420 : Int32))) (4 : Int32)) ((((0 : Int64) + own_hit ua (5 : Int32)) + own_hit (ub &&& (1023 : Int32)) (5 : Int32)) + own_hit ((190 : Int32) + ((uc &&& (2147483647 : Int32)) % (420 : Int32))) (5 : Int32)) ((((0 : Int64) + own_hit ua (5 : Int32)) + own_hit (ub &&& (1023 : Int32)) (5 : Int32)) + own_hit ((190 : Int32) + ((uc &&& (2147483647 : Int32)) % (420 : Int32))) (5 : Int32)) T_13.heap n0 Z_14 p_13_2 p_13_4 (by decide) rfl) hZ (hw _ (List.mem_of_getElem? (i := 24) rfl)) (hw _ (List.mem_of_getElem? (i := 3) rfl)) (by decide) (by decide)) q_22a q_22c (g := (mkF m 156 #[.val (.int ua), .val (.int ub), .val (.int uc), .val (.int ua), .val (.int (ub &&& (1023 : Int32))), .val (.int ((190 : Int32) + ((uc &&& (2147483647 : Int32)) % (420 : Int32)))), .val (.ref b_1), .val (.int (1 : Int32))] [(.int (5 : Int32)), (.ref b_1)])) rfl (by rw [hml]; rfl) (Steps.refl _) (argsL := [(.int (5 : Int32))]) (rest := []) (lenOf pd_I_J rfl) rfl (by show 2 * 0 + _ ≤ _; exact Nat.le_of_eq rfl) (hb hby at_156) (fun _ _ => ⟨rfl, p_21_0, (by decide : 2 + 0 ≤ _), (by decide : 10 + 0 ≤ _)⟩)
  dsimp only [Pt.U, Pt.locs, Pt.cells, Pt.slots] at X_22 l_22 y_22 z_22 st_22 hQ_22
  subst l_22 y_22 z_22
  obtain ⟨rfl, N_22q, p_22_0⟩ := hQ_22
  have N_22 := Fr.app N_21 N_22q
  obtain ⟨_, _, ⟨T_23, L_23, k_23, n_23⟩, -, X_23, ⟨Lc_23, hQ_23, l_23, y_23, z_23⟩, st_23⟩ := Jvm.LawKit.callS X_22 hx (y := (⟨"com/example/honeybee/honeybee/crawl/CrawlCountsCountAnswerPinLaw", "expect", "(IIII)J"⟩ : MethodName)) hown (mvT hZ (hw _ (List.mem_of_getElem? (i := 25) rfl))) (mvT hZ (hw _ (List.mem_of_getElem? (i := 26) rfl))) (mvT hZ (hw _ (List.mem_of_getElem? (i := 27) rfl))) (mvT hZ (hw _ (List.mem_of_getElem? (i := 28) rfl))) (by decide) (backOf (W := 2) (rm_expt l Z a0 hw [] ua (ub &&& (1023 : Int32)) ((190 : Int32) + ((uc &&& (2147483647 : Int32)) % (420 : Int32))) (5 : Int32)  T_13.heap n0 Z_14 ) hZ (hw _ (List.mem_of_getElem? (i := 28) rfl)) (hw _ (List.mem_of_getElem? (i := 27) rfl)) (by decide) (by decide)) (g := (mkF m 165 #[.val (.int ua), .val (.int ub), .val (.int uc), .val (.int ua), .val (.int (ub &&& (1023 : Int32))), .val (.int ((190 : Int32) + ((uc &&& (2147483647 : Int32)) % (420 : Int32)))), .val (.ref b_1), .val (.int (1 : Int32))] [(.int (5 : Int32)), (.int ((190 : Int32) + ((uc &&& (2147483647 : Int32)) % (420 : Int32)))), (.int (ub &&& (1023 : Int32))), (.int ua), (.long ((((0 : Int64) + own_hit ua (5 : Int32)) + own_hit (ub &&& (1023 : Int32)) (5 : Int32)) + own_hit ((190 : Int32) + ((uc &&& (2147483647 : Int32)) % (420 : Int32))) (5 : Int32)))])) rfl (by rw [hml]; rfl) (argsL := [(.int ua), (.int (ub &&& (1023 : Int32))), (.int ((190 : Int32) + ((uc &&& (2147483647 : Int32)) % (420 : Int32)))), (.int (5 : Int32))]) (rest := [(.long ((((0 : Int64) + own_hit ua (5 : Int32)) + own_hit (ub &&& (1023 : Int32)) (5 : Int32)) + own_hit ((190 : Int32) + ((uc &&& (2147483647 : Int32)) % (420 : Int32))) (5 : Int32)))]) (lenOf pd_IIII_J rfl) rfl (by show 2 * 0 + _ ≤ _; exact Nat.le_of_eq rfl) (hb hby at_165) (fun _ _ => ⟨rfl, p_22_0, (by decide : 2 + 0 ≤ _), (by decide : 10 + 0 ≤ _)⟩)
  dsimp only [Pt.U, Pt.locs, Pt.cells, Pt.slots] at X_23 l_23 y_23 z_23 st_23 hQ_23
  subst l_23 y_23 z_23
  obtain ⟨rfl, N_23q, p_23_0⟩ := hQ_23
  have N_23 := Fr.app N_22 N_23q
  obtain ⟨cq_24, kq_24, q_24a, q_24b, q_24c⟩ := isOf hZ p_23_0 p_13_1
  obtain ⟨_, _, ⟨T_24, L_24, k_24, n_24⟩, -, X_24, ⟨Lc_24, hQ_24, l_24, y_24, z_24⟩, st_24⟩ := X_23.virtualBack hx (y := (⟨"com/example/honeybee/honeybee/crawl/CrawlCounts", "failed", "()J"⟩ : MethodName)) (z := (⟨"com/example/honeybee/honeybee/crawl/CrawlCounts", "failed", "()J"⟩ : MethodName)) hown (mvT hZ (hw _ (List.mem_of_getElem? (i := 35) rfl))) (mvT hZ (hw _ (List.mem_of_getElem? (i := 36) rfl))) (notFace_of_selects (args := #[]) (mvT hZ (hw _ (List.mem_of_getElem? (i := 38) rfl)))) (mvT hZ (hw _ (List.mem_of_getElem? (i := 38) rfl))) (mvT hZ (hw _ (List.mem_of_getElem? (i := 37) rfl))) (by decide) (backOf (W := 0) (rm_fld l Z a0 hw [] b_1 ((((0 : Int64) + own_hit ua (-1 : Int32)) + own_hit (ub &&& (1023 : Int32)) (-1 : Int32)) + own_hit ((190 : Int32) + ((uc &&& (2147483647 : Int32)) % (420 : Int32))) (-1 : Int32)) T_13.heap n0 Z_14 p_13_3) hZ (hw _ (List.mem_of_getElem? (i := 39) rfl)) (hw _ (List.mem_of_getElem? (i := 3) rfl)) (by decide) (by decide)) q_24a q_24c (g := (mkF m 186 #[.val (.int ua), .val (.int ub), .val (.int uc), .val (.int ua), .val (.int (ub &&& (1023 : Int32))), .val (.int ((190 : Int32) + ((uc &&& (2147483647 : Int32)) % (420 : Int32)))), .val (.ref b_1), .val (.int (1 : Int32))] [(.ref b_1)])) rfl (by rw [hml]; rfl) (Steps.refl _) (argsL := []) (rest := []) (lenOf pd__J rfl) rfl (by show 2 * 0 + _ ≤ _; exact Nat.le_of_eq rfl) (hb hby at_186) (fun _ _ => ⟨rfl, p_23_0, (by decide : 2 + 0 ≤ _), (by decide : 10 + 0 ≤ _)⟩)
  dsimp only [Pt.U, Pt.locs, Pt.cells, Pt.slots] at X_24 l_24 y_24 z_24 st_24 hQ_24
  subst l_24 y_24 z_24
  obtain ⟨rfl, N_24q, p_24_0⟩ := hQ_24
  have N_24 := Fr.app N_23 N_24q
  obtain ⟨_, _, ⟨T_25, L_25, k_25, n_25⟩, -, X_25, ⟨Lc_25, hQ_25, l_25, y_25, z_25⟩, st_25⟩ := Jvm.LawKit.callS X_24 hx (y := (⟨"com/example/honeybee/honeybee/crawl/CrawlCountsCountAnswerPinLaw", "expect", "(IIII)J"⟩ : MethodName)) hown (mvT hZ (hw _ (List.mem_of_getElem? (i := 25) rfl))) (mvT hZ (hw _ (List.mem_of_getElem? (i := 26) rfl))) (mvT hZ (hw _ (List.mem_of_getElem? (i := 27) rfl))) (mvT hZ (hw _ (List.mem_of_getElem? (i := 28) rfl))) (by decide) (backOf (W := 2) (rm_expt l Z a0 hw [] ua (ub &&& (1023 : Int32)) ((190 : Int32) + ((uc &&& (2147483647 : Int32)) % (420 : Int32))) (-1 : Int32)  T_13.heap n0 Z_14 ) hZ (hw _ (List.mem_of_getElem? (i := 28) rfl)) (hw _ (List.mem_of_getElem? (i := 27) rfl)) (by decide) (by decide)) (g := (mkF m 195 #[.val (.int ua), .val (.int ub), .val (.int uc), .val (.int ua), .val (.int (ub &&& (1023 : Int32))), .val (.int ((190 : Int32) + ((uc &&& (2147483647 : Int32)) % (420 : Int32)))), .val (.ref b_1), .val (.int (1 : Int32))] [(.int (-1 : Int32)), (.int ((190 : Int32) + ((uc &&& (2147483647 : Int32)) % (420 : Int32)))), (.int (ub &&& (1023 : Int32))), (.int ua), (.long ((((0 : Int64) + own_hit ua (-1 : Int32)) + own_hit (ub &&& (1023 : Int32)) (-1 : Int32)) + own_hit ((190 : Int32) + ((uc &&& (2147483647 : Int32)) % (420 : Int32))) (-1 : Int32)))])) rfl (by rw [hml]; rfl) (argsL := [(.int ua), (.int (ub &&& (1023 : Int32))), (.int ((190 : Int32) + ((uc &&& (2147483647 : Int32)) % (420 : Int32)))), (.int (-1 : Int32))]) (rest := [(.long ((((0 : Int64) + own_hit ua (-1 : Int32)) + own_hit (ub &&& (1023 : Int32)) (-1 : Int32)) + own_hit ((190 : Int32) + ((uc &&& (2147483647 : Int32)) % (420 : Int32))) (-1 : Int32)))]) (lenOf pd_IIII_J rfl) rfl (by show 2 * 0 + _ ≤ _; exact Nat.le_of_eq rfl) (hb hby at_195) (fun _ _ => ⟨rfl, p_24_0, (by decide : 2 + 0 ≤ _), (by decide : 10 + 0 ≤ _)⟩)
  dsimp only [Pt.U, Pt.locs, Pt.cells, Pt.slots] at X_25 l_25 y_25 z_25 st_25 hQ_25
  subst l_25 y_25 z_25
  obtain ⟨rfl, N_25q, p_25_0⟩ := hQ_25
  have N_25 := Fr.app N_24 N_25q
  obtain ⟨cq_26, kq_26, q_26a, q_26b, q_26c⟩ := isOf hZ p_25_0 p_13_1
  obtain ⟨_, _, ⟨T_26, L_26, k_26, n_26⟩, -, X_26, ⟨Lc_26, hQ_26, l_26, y_26, z_26⟩, st_26⟩ := X_25.virtualBack hx (y := (⟨"com/example/honeybee/honeybee/crawl/CrawlCounts", "pages", "()J"⟩ : MethodName)) (z := (⟨"com/example/honeybee/honeybee/crawl/CrawlCounts", "pages", "()J"⟩ : MethodName)) hown (mvT hZ (hw _ (List.mem_of_getElem? (i := 40) rfl))) (mvT hZ (hw _ (List.mem_of_getElem? (i := 41) rfl))) (notFace_of_selects (args := #[]) (mvT hZ (hw _ (List.mem_of_getElem? (i := 43) rfl)))) (mvT hZ (hw _ (List.mem_of_getElem? (i := 43) rfl))) (mvT hZ (hw _ (List.mem_of_getElem? (i := 42) rfl))) (by decide) (backOf (W := 0) (rm_pages l Z a0 hw [] b_1 bx_4 kx_4 (0 : Int64) (0 : Int64) ((((0 : Int64) + own_hit ua (2 : Int32)) + own_hit (ub &&& (1023 : Int32)) (2 : Int32)) + own_hit ((190 : Int32) + ((uc &&& (2147483647 : Int32)) % (420 : Int32))) (2 : Int32)) ((((0 : Int64) + own_hit ua (3 : Int32)) + own_hit (ub &&& (1023 : Int32)) (3 : Int32)) + own_hit ((190 : Int32) + ((uc &&& (2147483647 : Int32)) % (420 : Int32))) (3 : Int32)) ((((0 : Int64) + own_hit ua (4 : Int32)) + own_hit (ub &&& (1023 : Int32)) (4 : Int32)) + own_hit ((190 : Int32) + ((uc &&& (2147483647 : Int32)) % (420 : Int32))) (4 : Int32)) ((((0 : Int64) + own_hit ua (5 : Int32)) + own_hit (ub &&& (1023 : Int32)) (5 : Int32)) + own_hit ((190 : Int32) + ((uc &&& (2147483647 : Int32)) % (420 : Int32))) (5 : Int32)) ((((0 : Int64) + own_hit ua (-1 : Int32)) + own_hit (ub &&& (1023 : Int32)) (-1 : Int32)) + own_hit ((190 : Int32) + ((uc &&& (2147483647 : Int32)) % (420 : Int32))) (-1 : Int32)) T_13.heap n0 Z_14 p_13_1 p_13_2 p_13_3 p_13_4) hZ (hw _ (List.mem_of_getElem? (i := 44) rfl)) (hw _ (List.mem_of_getElem? (i := 3) rfl)) (by decide) (by decide)) q_26a q_26c (g := (mkF m 216 #[.val (.int ua), .val (.int ub), .val (.int uc), .val (.int ua), .val (.int (ub &&& (1023 : Int32))), .val (.int ((190 : Int32) + ((uc &&& (2147483647 : Int32)) % (420 : Int32)))), .val (.ref b_1), .val (.int (1 : Int32))] [(.ref b_1)])) rfl (by rw [hml]; rfl) (Steps.refl _) (argsL := []) (rest := []) (lenOf pd__J rfl) rfl (by show 2 * 0 + _ ≤ _; exact Nat.le_of_eq rfl) (hb hby at_216) (fun _ _ => ⟨rfl, p_25_0, (by decide : 2 + 0 ≤ _), (by decide : 10 + 0 ≤ _)⟩)
  dsimp only [Pt.U, Pt.locs, Pt.cells, Pt.slots] at X_26 l_26 y_26 z_26 st_26 hQ_26
  subst l_26 y_26 z_26
  obtain ⟨rfl, N_26q, p_26_0⟩ := hQ_26
  have N_26 := Fr.app N_25 N_26q
  refine own_go (S' := T_26.setTop (mkF m 235 #[.val (.int ua), .val (.int ub), .val (.int uc), .val (.int ua), .val (.int (ub &&& (1023 : Int32))), .val (.int ((190 : Int32) + ((uc &&& (2147483647 : Int32)) % (420 : Int32)))), .val (.ref b_1), .val (.int (1 : Int32))] [(.int (1 : Int32))])) (fun target kt => ?_) ?_
  · show Steps p.tables e below (s₁.setTop (mkF m 0 #[.val (.int ua), .val (.int ub), .val (.int uc), .unset, .unset, .unset, .unset, .unset] [])) target
    refine XS.iloadN X0.here hx rfl (hb hby at_0) rfl ?_
    show Steps p.tables e below (s₁.setTop (mkF m 1 #[.val (.int ua), .val (.int ub), .val (.int uc), .unset, .unset, .unset, .unset, .unset] [(.int ua)])) target
    refine XS.istoreN X0.here hx rfl (hb hby at_1) rfl (l' := #[.val (.int ua), .val (.int ub), .val (.int uc), .val (.int ua), .unset, .unset, .unset, .unset]) rfl ?_
    show Steps p.tables e below (s₁.setTop (mkF m 2 #[.val (.int ua), .val (.int ub), .val (.int uc), .val (.int ua), .unset, .unset, .unset, .unset] [])) target
    refine XS.iloadN X0.here hx rfl (hb hby at_2) rfl ?_
    show Steps p.tables e below (s₁.setTop (mkF m 3 #[.val (.int ua), .val (.int ub), .val (.int uc), .val (.int ua), .unset, .unset, .unset, .unset] [(.int ub)])) target
    refine XS.sipush X0.here hx rfl (hb hby at_3) ?_
    show Steps p.tables e below (s₁.setTop (mkF m 6 #[.val (.int ua), .val (.int ub), .val (.int uc), .val (.int ua), .unset, .unset, .unset, .unset] [(.int (1023 : Int32)), (.int ub)])) target
    refine XS.iand X0.here hx rfl (hb hby at_6) rfl ?_
    show Steps p.tables e below (s₁.setTop (mkF m 7 #[.val (.int ua), .val (.int ub), .val (.int uc), .val (.int ua), .unset, .unset, .unset, .unset] [(.int (ub &&& (1023 : Int32)))])) target
    refine XS.istore X0.here hx rfl (hb hby at_7) rfl (l' := #[.val (.int ua), .val (.int ub), .val (.int uc), .val (.int ua), .val (.int (ub &&& (1023 : Int32))), .unset, .unset, .unset]) rfl ?_
    show Steps p.tables e below (s₁.setTop (mkF m 9 #[.val (.int ua), .val (.int ub), .val (.int uc), .val (.int ua), .val (.int (ub &&& (1023 : Int32))), .unset, .unset, .unset] [])) target
    refine XS.sipush X0.here hx rfl (hb hby at_9) ?_
    show Steps p.tables e below (s₁.setTop (mkF m 12 #[.val (.int ua), .val (.int ub), .val (.int uc), .val (.int ua), .val (.int (ub &&& (1023 : Int32))), .unset, .unset, .unset] [(.int (190 : Int32))])) target
    refine XS.iloadN X0.here hx rfl (hb hby at_12) rfl ?_
    show Steps p.tables e below (s₁.setTop (mkF m 13 #[.val (.int ua), .val (.int ub), .val (.int uc), .val (.int ua), .val (.int (ub &&& (1023 : Int32))), .unset, .unset, .unset] [(.int uc), (.int (190 : Int32))])) target
    refine X0.ldcInt hx hown (mvT hZ (hw _ (List.mem_of_getElem? (i := 0) rfl))) (g := (mkF m 13 #[.val (.int ua), .val (.int ub), .val (.int uc), .val (.int ua), .val (.int (ub &&& (1023 : Int32))), .unset, .unset, .unset] [(.int uc), (.int (190 : Int32))])) rfl (hb hby at_13) _ ?_
    show Steps p.tables e below (s₁.setTop (mkF m 15 #[.val (.int ua), .val (.int ub), .val (.int uc), .val (.int ua), .val (.int (ub &&& (1023 : Int32))), .unset, .unset, .unset] [(.int (2147483647 : Int32)), (.int uc), (.int (190 : Int32))])) target
    refine XS.iand X0.here hx rfl (hb hby at_15) rfl ?_
    show Steps p.tables e below (s₁.setTop (mkF m 16 #[.val (.int ua), .val (.int ub), .val (.int uc), .val (.int ua), .val (.int (ub &&& (1023 : Int32))), .unset, .unset, .unset] [(.int (uc &&& (2147483647 : Int32))), (.int (190 : Int32))])) target
    refine XS.sipush X0.here hx rfl (hb hby at_16) ?_
    show Steps p.tables e below (s₁.setTop (mkF m 19 #[.val (.int ua), .val (.int ub), .val (.int uc), .val (.int ua), .val (.int (ub &&& (1023 : Int32))), .unset, .unset, .unset] [(.int (420 : Int32)), (.int (uc &&& (2147483647 : Int32))), (.int (190 : Int32))])) target
    refine iremM X0 hx rfl (hb hby at_19) rfl (by decide) ?_
    show Steps p.tables e below (s₁.setTop (mkF m 20 #[.val (.int ua), .val (.int ub), .val (.int uc), .val (.int ua), .val (.int (ub &&& (1023 : Int32))), .unset, .unset, .unset] [(.int ((uc &&& (2147483647 : Int32)) % (420 : Int32))), (.int (190 : Int32))])) target
    refine XS.iadd X0.here hx rfl (hb hby at_20) rfl ?_
    show Steps p.tables e below (s₁.setTop (mkF m 21 #[.val (.int ua), .val (.int ub), .val (.int uc), .val (.int ua), .val (.int (ub &&& (1023 : Int32))), .unset, .unset, .unset] [(.int ((190 : Int32) + ((uc &&& (2147483647 : Int32)) % (420 : Int32))))])) target
    refine XS.istore X0.here hx rfl (hb hby at_21) rfl (l' := #[.val (.int ua), .val (.int ub), .val (.int uc), .val (.int ua), .val (.int (ub &&& (1023 : Int32))), .val (.int ((190 : Int32) + ((uc &&& (2147483647 : Int32)) % (420 : Int32)))), .unset, .unset]) rfl ?_
    show Steps p.tables e below (s₁.setTop (mkF m 23 #[.val (.int ua), .val (.int ub), .val (.int uc), .val (.int ua), .val (.int (ub &&& (1023 : Int32))), .val (.int ((190 : Int32) + ((uc &&& (2147483647 : Int32)) % (420 : Int32)))), .unset, .unset] [])) target
    refine st_1 _ ?_
    show Steps p.tables e below (T_1.setTop (mkF m 26 #[.val (.int ua), .val (.int ub), .val (.int uc), .val (.int ua), .val (.int (ub &&& (1023 : Int32))), .val (.int ((190 : Int32) + ((uc &&& (2147483647 : Int32)) % (420 : Int32)))), .unset, .unset] [(.ref b_1)])) target
    refine XS.dup X_1.here hx rfl (hb hby at_26) rfl rfl ?_
    show Steps p.tables e below (T_1.setTop (mkF m 27 #[.val (.int ua), .val (.int ub), .val (.int uc), .val (.int ua), .val (.int (ub &&& (1023 : Int32))), .val (.int ((190 : Int32) + ((uc &&& (2147483647 : Int32)) % (420 : Int32)))), .unset, .unset] [(.ref b_1), (.ref b_1)])) target
    refine st_4.trans ?_
    show Steps p.tables e below (T_4.setTop (mkF m 30 #[.val (.int ua), .val (.int ub), .val (.int uc), .val (.int ua), .val (.int (ub &&& (1023 : Int32))), .val (.int ((190 : Int32) + ((uc &&& (2147483647 : Int32)) % (420 : Int32)))), .unset, .unset] [(.ref b_1)])) target
    refine XS.astore X_4.here hx rfl (hb hby at_30) rfl rfl (l' := #[.val (.int ua), .val (.int ub), .val (.int uc), .val (.int ua), .val (.int (ub &&& (1023 : Int32))), .val (.int ((190 : Int32) + ((uc &&& (2147483647 : Int32)) % (420 : Int32)))), .val (.ref b_1), .unset]) rfl ?_
    show Steps p.tables e below (T_4.setTop (mkF m 32 #[.val (.int ua), .val (.int ub), .val (.int uc), .val (.int ua), .val (.int (ub &&& (1023 : Int32))), .val (.int ((190 : Int32) + ((uc &&& (2147483647 : Int32)) % (420 : Int32)))), .val (.ref b_1), .unset] [])) target
    refine XS.aload X_4.here hx rfl (hb hby at_32) rfl rfl ?_
    show Steps p.tables e below (T_4.setTop (mkF m 34 #[.val (.int ua), .val (.int ub), .val (.int uc), .val (.int ua), .val (.int (ub &&& (1023 : Int32))), .val (.int ((190 : Int32) + ((uc &&& (2147483647 : Int32)) % (420 : Int32)))), .val (.ref b_1), .unset] [(.ref b_1)])) target
    refine XS.iloadN X_4.here hx rfl (hb hby at_34) rfl ?_
    show Steps p.tables e below (T_4.setTop (mkF m 35 #[.val (.int ua), .val (.int ub), .val (.int uc), .val (.int ua), .val (.int (ub &&& (1023 : Int32))), .val (.int ((190 : Int32) + ((uc &&& (2147483647 : Int32)) % (420 : Int32)))), .val (.ref b_1), .unset] [(.int ua), (.ref b_1)])) target
    refine st_7.trans ?_
    show Steps p.tables e below (T_7.setTop (mkF m 38 #[.val (.int ua), .val (.int ub), .val (.int uc), .val (.int ua), .val (.int (ub &&& (1023 : Int32))), .val (.int ((190 : Int32) + ((uc &&& (2147483647 : Int32)) % (420 : Int32)))), .val (.ref b_1), .unset] [])) target
    refine XS.aload X_7.here hx rfl (hb hby at_38) rfl rfl ?_
    show Steps p.tables e below (T_7.setTop (mkF m 40 #[.val (.int ua), .val (.int ub), .val (.int uc), .val (.int ua), .val (.int (ub &&& (1023 : Int32))), .val (.int ((190 : Int32) + ((uc &&& (2147483647 : Int32)) % (420 : Int32)))), .val (.ref b_1), .unset] [(.ref b_1)])) target
    refine XS.iload X_7.here hx rfl (hb hby at_40) rfl ?_
    show Steps p.tables e below (T_7.setTop (mkF m 42 #[.val (.int ua), .val (.int ub), .val (.int uc), .val (.int ua), .val (.int (ub &&& (1023 : Int32))), .val (.int ((190 : Int32) + ((uc &&& (2147483647 : Int32)) % (420 : Int32)))), .val (.ref b_1), .unset] [(.int (ub &&& (1023 : Int32))), (.ref b_1)])) target
    refine st_10.trans ?_
    show Steps p.tables e below (T_10.setTop (mkF m 45 #[.val (.int ua), .val (.int ub), .val (.int uc), .val (.int ua), .val (.int (ub &&& (1023 : Int32))), .val (.int ((190 : Int32) + ((uc &&& (2147483647 : Int32)) % (420 : Int32)))), .val (.ref b_1), .unset] [])) target
    refine XS.aload X_10.here hx rfl (hb hby at_45) rfl rfl ?_
    show Steps p.tables e below (T_10.setTop (mkF m 47 #[.val (.int ua), .val (.int ub), .val (.int uc), .val (.int ua), .val (.int (ub &&& (1023 : Int32))), .val (.int ((190 : Int32) + ((uc &&& (2147483647 : Int32)) % (420 : Int32)))), .val (.ref b_1), .unset] [(.ref b_1)])) target
    refine XS.iload X_10.here hx rfl (hb hby at_47) rfl ?_
    show Steps p.tables e below (T_10.setTop (mkF m 49 #[.val (.int ua), .val (.int ub), .val (.int uc), .val (.int ua), .val (.int (ub &&& (1023 : Int32))), .val (.int ((190 : Int32) + ((uc &&& (2147483647 : Int32)) % (420 : Int32)))), .val (.ref b_1), .unset] [(.int ((190 : Int32) + ((uc &&& (2147483647 : Int32)) % (420 : Int32)))), (.ref b_1)])) target
    refine st_13.trans ?_
    show Steps p.tables e below (T_13.setTop (mkF m 52 #[.val (.int ua), .val (.int ub), .val (.int uc), .val (.int ua), .val (.int (ub &&& (1023 : Int32))), .val (.int ((190 : Int32) + ((uc &&& (2147483647 : Int32)) % (420 : Int32)))), .val (.ref b_1), .unset] [])) target
    refine XS.iconst X_13.here hx rfl (hb hby at_52) ?_
    show Steps p.tables e below (T_13.setTop (mkF m 53 #[.val (.int ua), .val (.int ub), .val (.int uc), .val (.int ua), .val (.int (ub &&& (1023 : Int32))), .val (.int ((190 : Int32) + ((uc &&& (2147483647 : Int32)) % (420 : Int32)))), .val (.ref b_1), .unset] [(.int (1 : Int32))])) target
    refine XS.istore X_13.here hx rfl (hb hby at_53) rfl (l' := #[.val (.int ua), .val (.int ub), .val (.int uc), .val (.int ua), .val (.int (ub &&& (1023 : Int32))), .val (.int ((190 : Int32) + ((uc &&& (2147483647 : Int32)) % (420 : Int32)))), .val (.ref b_1), .val (.int (1 : Int32))]) rfl ?_
    show Steps p.tables e below (T_13.setTop (mkF m 55 #[.val (.int ua), .val (.int ub), .val (.int uc), .val (.int ua), .val (.int (ub &&& (1023 : Int32))), .val (.int ((190 : Int32) + ((uc &&& (2147483647 : Int32)) % (420 : Int32)))), .val (.ref b_1), .val (.int (1 : Int32))] [])) target
    refine XS.iload X_13.here hx rfl (hb hby at_55) rfl ?_
    show Steps p.tables e below (T_13.setTop (mkF m 57 #[.val (.int ua), .val (.int ub), .val (.int uc), .val (.int ua), .val (.int (ub &&& (1023 : Int32))), .val (.int ((190 : Int32) + ((uc &&& (2147483647 : Int32)) % (420 : Int32)))), .val (.ref b_1), .val (.int (1 : Int32))] [(.int (1 : Int32))])) target
    refine XS.ifNo X_13.here hx rfl (hb hby at_57) rfl ((if0 _ _).trans (feq (by decide : ¬ ((1 : Int32) = (0 : Int32)))).1) ?_
    show Steps p.tables e below (T_13.setTop (mkF m 60 #[.val (.int ua), .val (.int ub), .val (.int uc), .val (.int ua), .val (.int (ub &&& (1023 : Int32))), .val (.int ((190 : Int32) + ((uc &&& (2147483647 : Int32)) % (420 : Int32)))), .val (.ref b_1), .val (.int (1 : Int32))] [])) target
    refine XS.aload X_13.here hx rfl (hb hby at_60) rfl rfl ?_
    show Steps p.tables e below (T_13.setTop (mkF m 62 #[.val (.int ua), .val (.int ub), .val (.int uc), .val (.int ua), .val (.int (ub &&& (1023 : Int32))), .val (.int ((190 : Int32) + ((uc &&& (2147483647 : Int32)) % (420 : Int32)))), .val (.ref b_1), .val (.int (1 : Int32))] [(.ref b_1)])) target
    refine XS.iconst X_13.here hx rfl (hb hby at_62) ?_
    show Steps p.tables e below (T_13.setTop (mkF m 63 #[.val (.int ua), .val (.int ub), .val (.int uc), .val (.int ua), .val (.int (ub &&& (1023 : Int32))), .val (.int ((190 : Int32) + ((uc &&& (2147483647 : Int32)) % (420 : Int32)))), .val (.ref b_1), .val (.int (1 : Int32))] [(.int (2 : Int32)), (.ref b_1)])) target
    refine st_16.trans ?_
    show Steps p.tables e below (T_16.setTop (mkF m 66 #[.val (.int ua), .val (.int ub), .val (.int uc), .val (.int ua), .val (.int (ub &&& (1023 : Int32))), .val (.int ((190 : Int32) + ((uc &&& (2147483647 : Int32)) % (420 : Int32)))), .val (.ref b_1), .val (.int (1 : Int32))] [(.long ((((0 : Int64) + own_hit ua (2 : Int32)) + own_hit (ub &&& (1023 : Int32)) (2 : Int32)) + own_hit ((190 : Int32) + ((uc &&& (2147483647 : Int32)) % (420 : Int32))) (2 : Int32)))])) target
    refine XS.iloadN X_16.here hx rfl (hb hby at_66) rfl ?_
    show Steps p.tables e below (T_16.setTop (mkF m 67 #[.val (.int ua), .val (.int ub), .val (.int uc), .val (.int ua), .val (.int (ub &&& (1023 : Int32))), .val (.int ((190 : Int32) + ((uc &&& (2147483647 : Int32)) % (420 : Int32)))), .val (.ref b_1), .val (.int (1 : Int32))] [(.int ua), (.long ((((0 : Int64) + own_hit ua (2 : Int32)) + own_hit (ub &&& (1023 : Int32)) (2 : Int32)) + own_hit ((190 : Int32) + ((uc &&& (2147483647 : Int32)) % (420 : Int32))) (2 : Int32)))])) target
    refine XS.iload X_16.here hx rfl (hb hby at_67) rfl ?_
    show Steps p.tables e below (T_16.setTop (mkF m 69 #[.val (.int ua), .val (.int ub), .val (.int uc), .val (.int ua), .val (.int (ub &&& (1023 : Int32))), .val (.int ((190 : Int32) + ((uc &&& (2147483647 : Int32)) % (420 : Int32)))), .val (.ref b_1), .val (.int (1 : Int32))] [(.int (ub &&& (1023 : Int32))), (.int ua), (.long ((((0 : Int64) + own_hit ua (2 : Int32)) + own_hit (ub &&& (1023 : Int32)) (2 : Int32)) + own_hit ((190 : Int32) + ((uc &&& (2147483647 : Int32)) % (420 : Int32))) (2 : Int32)))])) target
    refine XS.iload X_16.here hx rfl (hb hby at_69) rfl ?_
    show Steps p.tables e below (T_16.setTop (mkF m 71 #[.val (.int ua), .val (.int ub), .val (.int uc), .val (.int ua), .val (.int (ub &&& (1023 : Int32))), .val (.int ((190 : Int32) + ((uc &&& (2147483647 : Int32)) % (420 : Int32)))), .val (.ref b_1), .val (.int (1 : Int32))] [(.int ((190 : Int32) + ((uc &&& (2147483647 : Int32)) % (420 : Int32)))), (.int (ub &&& (1023 : Int32))), (.int ua), (.long ((((0 : Int64) + own_hit ua (2 : Int32)) + own_hit (ub &&& (1023 : Int32)) (2 : Int32)) + own_hit ((190 : Int32) + ((uc &&& (2147483647 : Int32)) % (420 : Int32))) (2 : Int32)))])) target
    refine XS.iconst X_16.here hx rfl (hb hby at_71) ?_
    show Steps p.tables e below (T_16.setTop (mkF m 72 #[.val (.int ua), .val (.int ub), .val (.int uc), .val (.int ua), .val (.int (ub &&& (1023 : Int32))), .val (.int ((190 : Int32) + ((uc &&& (2147483647 : Int32)) % (420 : Int32)))), .val (.ref b_1), .val (.int (1 : Int32))] [(.int (2 : Int32)), (.int ((190 : Int32) + ((uc &&& (2147483647 : Int32)) % (420 : Int32)))), (.int (ub &&& (1023 : Int32))), (.int ua), (.long ((((0 : Int64) + own_hit ua (2 : Int32)) + own_hit (ub &&& (1023 : Int32)) (2 : Int32)) + own_hit ((190 : Int32) + ((uc &&& (2147483647 : Int32)) % (420 : Int32))) (2 : Int32)))])) target
    refine st_17 _ ?_
    show Steps p.tables e below (T_17.setTop (mkF m 75 #[.val (.int ua), .val (.int ub), .val (.int uc), .val (.int ua), .val (.int (ub &&& (1023 : Int32))), .val (.int ((190 : Int32) + ((uc &&& (2147483647 : Int32)) % (420 : Int32)))), .val (.ref b_1), .val (.int (1 : Int32))] [(.long ((own_hit ua (2 : Int32) + own_hit (ub &&& (1023 : Int32)) (2 : Int32)) + own_hit ((190 : Int32) + ((uc &&& (2147483647 : Int32)) % (420 : Int32))) (2 : Int32))), (.long ((((0 : Int64) + own_hit ua (2 : Int32)) + own_hit (ub &&& (1023 : Int32)) (2 : Int32)) + own_hit ((190 : Int32) + ((uc &&& (2147483647 : Int32)) % (420 : Int32))) (2 : Int32)))])) target
    refine XS.lcmp X_17.here hx rfl (hb hby at_75) rfl ?_
    show Steps p.tables e below (T_17.setTop (mkF m 76 #[.val (.int ua), .val (.int ub), .val (.int uc), .val (.int ua), .val (.int (ub &&& (1023 : Int32))), .val (.int ((190 : Int32) + ((uc &&& (2147483647 : Int32)) % (420 : Int32)))), .val (.ref b_1), .val (.int (1 : Int32))] [(.int (lcmpW ((((0 : Int64) + own_hit ua (2 : Int32)) + own_hit (ub &&& (1023 : Int32)) (2 : Int32)) + own_hit ((190 : Int32) + ((uc &&& (2147483647 : Int32)) % (420 : Int32))) (2 : Int32)) ((own_hit ua (2 : Int32) + own_hit (ub &&& (1023 : Int32)) (2 : Int32)) + own_hit ((190 : Int32) + ((uc &&& (2147483647 : Int32)) % (420 : Int32))) (2 : Int32))))])) target
    refine XS.ifNo X_17.here hx rfl (hb hby at_76) rfl ((if0 _ _).trans (teq (own_l1 (by simp only [Int64.zero_add] : ((((0 : Int64) + own_hit ua (2 : Int32)) + own_hit (ub &&& (1023 : Int32)) (2 : Int32)) + own_hit ((190 : Int32) + ((uc &&& (2147483647 : Int32)) % (420 : Int32))) (2 : Int32)) = ((own_hit ua (2 : Int32) + own_hit (ub &&& (1023 : Int32)) (2 : Int32)) + own_hit ((190 : Int32) + ((uc &&& (2147483647 : Int32)) % (420 : Int32))) (2 : Int32))))).2) ?_
    show Steps p.tables e below (T_17.setTop (mkF m 79 #[.val (.int ua), .val (.int ub), .val (.int uc), .val (.int ua), .val (.int (ub &&& (1023 : Int32))), .val (.int ((190 : Int32) + ((uc &&& (2147483647 : Int32)) % (420 : Int32)))), .val (.ref b_1), .val (.int (1 : Int32))] [])) target
    refine XS.iconst X_17.here hx rfl (hb hby at_79) ?_
    show Steps p.tables e below (T_17.setTop (mkF m 80 #[.val (.int ua), .val (.int ub), .val (.int uc), .val (.int ua), .val (.int (ub &&& (1023 : Int32))), .val (.int ((190 : Int32) + ((uc &&& (2147483647 : Int32)) % (420 : Int32)))), .val (.ref b_1), .val (.int (1 : Int32))] [(.int (1 : Int32))])) target
    refine XS.goto X_17.here hx rfl (pc0 := 80) (pc' := 84) rfl (hb hby at_80) (by decide) (by decide) ?_
    show Steps p.tables e below (T_17.setTop (mkF m 84 #[.val (.int ua), .val (.int ub), .val (.int uc), .val (.int ua), .val (.int (ub &&& (1023 : Int32))), .val (.int ((190 : Int32) + ((uc &&& (2147483647 : Int32)) % (420 : Int32)))), .val (.ref b_1), .val (.int (1 : Int32))] [(.int (1 : Int32))])) target
    refine XS.istore X_17.here hx rfl (hb hby at_84) rfl (l' := #[.val (.int ua), .val (.int ub), .val (.int uc), .val (.int ua), .val (.int (ub &&& (1023 : Int32))), .val (.int ((190 : Int32) + ((uc &&& (2147483647 : Int32)) % (420 : Int32)))), .val (.ref b_1), .val (.int (1 : Int32))]) rfl ?_
    show Steps p.tables e below (T_17.setTop (mkF m 86 #[.val (.int ua), .val (.int ub), .val (.int uc), .val (.int ua), .val (.int (ub &&& (1023 : Int32))), .val (.int ((190 : Int32) + ((uc &&& (2147483647 : Int32)) % (420 : Int32)))), .val (.ref b_1), .val (.int (1 : Int32))] [])) target
    refine XS.iload X_17.here hx rfl (hb hby at_86) rfl ?_
    show Steps p.tables e below (T_17.setTop (mkF m 88 #[.val (.int ua), .val (.int ub), .val (.int uc), .val (.int ua), .val (.int (ub &&& (1023 : Int32))), .val (.int ((190 : Int32) + ((uc &&& (2147483647 : Int32)) % (420 : Int32)))), .val (.ref b_1), .val (.int (1 : Int32))] [(.int (1 : Int32))])) target
    refine XS.ifNo X_17.here hx rfl (hb hby at_88) rfl ((if0 _ _).trans (feq (by decide : ¬ ((1 : Int32) = (0 : Int32)))).1) ?_
    show Steps p.tables e below (T_17.setTop (mkF m 91 #[.val (.int ua), .val (.int ub), .val (.int uc), .val (.int ua), .val (.int (ub &&& (1023 : Int32))), .val (.int ((190 : Int32) + ((uc &&& (2147483647 : Int32)) % (420 : Int32)))), .val (.ref b_1), .val (.int (1 : Int32))] [])) target
    refine XS.aload X_17.here hx rfl (hb hby at_91) rfl rfl ?_
    show Steps p.tables e below (T_17.setTop (mkF m 93 #[.val (.int ua), .val (.int ub), .val (.int uc), .val (.int ua), .val (.int (ub &&& (1023 : Int32))), .val (.int ((190 : Int32) + ((uc &&& (2147483647 : Int32)) % (420 : Int32)))), .val (.ref b_1), .val (.int (1 : Int32))] [(.ref b_1)])) target
    refine XS.iconst X_17.here hx rfl (hb hby at_93) ?_
    show Steps p.tables e below (T_17.setTop (mkF m 94 #[.val (.int ua), .val (.int ub), .val (.int uc), .val (.int ua), .val (.int (ub &&& (1023 : Int32))), .val (.int ((190 : Int32) + ((uc &&& (2147483647 : Int32)) % (420 : Int32)))), .val (.ref b_1), .val (.int (1 : Int32))] [(.int (3 : Int32)), (.ref b_1)])) target
    refine st_18.trans ?_
    show Steps p.tables e below (T_18.setTop (mkF m 97 #[.val (.int ua), .val (.int ub), .val (.int uc), .val (.int ua), .val (.int (ub &&& (1023 : Int32))), .val (.int ((190 : Int32) + ((uc &&& (2147483647 : Int32)) % (420 : Int32)))), .val (.ref b_1), .val (.int (1 : Int32))] [(.long ((((0 : Int64) + own_hit ua (3 : Int32)) + own_hit (ub &&& (1023 : Int32)) (3 : Int32)) + own_hit ((190 : Int32) + ((uc &&& (2147483647 : Int32)) % (420 : Int32))) (3 : Int32)))])) target
    refine XS.iloadN X_18.here hx rfl (hb hby at_97) rfl ?_
    show Steps p.tables e below (T_18.setTop (mkF m 98 #[.val (.int ua), .val (.int ub), .val (.int uc), .val (.int ua), .val (.int (ub &&& (1023 : Int32))), .val (.int ((190 : Int32) + ((uc &&& (2147483647 : Int32)) % (420 : Int32)))), .val (.ref b_1), .val (.int (1 : Int32))] [(.int ua), (.long ((((0 : Int64) + own_hit ua (3 : Int32)) + own_hit (ub &&& (1023 : Int32)) (3 : Int32)) + own_hit ((190 : Int32) + ((uc &&& (2147483647 : Int32)) % (420 : Int32))) (3 : Int32)))])) target
    refine XS.iload X_18.here hx rfl (hb hby at_98) rfl ?_
    show Steps p.tables e below (T_18.setTop (mkF m 100 #[.val (.int ua), .val (.int ub), .val (.int uc), .val (.int ua), .val (.int (ub &&& (1023 : Int32))), .val (.int ((190 : Int32) + ((uc &&& (2147483647 : Int32)) % (420 : Int32)))), .val (.ref b_1), .val (.int (1 : Int32))] [(.int (ub &&& (1023 : Int32))), (.int ua), (.long ((((0 : Int64) + own_hit ua (3 : Int32)) + own_hit (ub &&& (1023 : Int32)) (3 : Int32)) + own_hit ((190 : Int32) + ((uc &&& (2147483647 : Int32)) % (420 : Int32))) (3 : Int32)))])) target
    refine XS.iload X_18.here hx rfl (hb hby at_100) rfl ?_
    show Steps p.tables e below (T_18.setTop (mkF m 102 #[.val (.int ua), .val (.int ub), .val (.int uc), .val (.int ua), .val (.int (ub &&& (1023 : Int32))), .val (.int ((190 : Int32) + ((uc &&& (2147483647 : Int32)) % (420 : Int32)))), .val (.ref b_1), .val (.int (1 : Int32))] [(.int ((190 : Int32) + ((uc &&& (2147483647 : Int32)) % (420 : Int32)))), (.int (ub &&& (1023 : Int32))), (.int ua), (.long ((((0 : Int64) + own_hit ua (3 : Int32)) + own_hit (ub &&& (1023 : Int32)) (3 : Int32)) + own_hit ((190 : Int32) + ((uc &&& (2147483647 : Int32)) % (420 : Int32))) (3 : Int32)))])) target
    refine XS.iconst X_18.here hx rfl (hb hby at_102) ?_
    show Steps p.tables e below (T_18.setTop (mkF m 103 #[.val (.int ua), .val (.int ub), .val (.int uc), .val (.int ua), .val (.int (ub &&& (1023 : Int32))), .val (.int ((190 : Int32) + ((uc &&& (2147483647 : Int32)) % (420 : Int32)))), .val (.ref b_1), .val (.int (1 : Int32))] [(.int (3 : Int32)), (.int ((190 : Int32) + ((uc &&& (2147483647 : Int32)) % (420 : Int32)))), (.int (ub &&& (1023 : Int32))), (.int ua), (.long ((((0 : Int64) + own_hit ua (3 : Int32)) + own_hit (ub &&& (1023 : Int32)) (3 : Int32)) + own_hit ((190 : Int32) + ((uc &&& (2147483647 : Int32)) % (420 : Int32))) (3 : Int32)))])) target
    refine st_19 _ ?_
    show Steps p.tables e below (T_19.setTop (mkF m 106 #[.val (.int ua), .val (.int ub), .val (.int uc), .val (.int ua), .val (.int (ub &&& (1023 : Int32))), .val (.int ((190 : Int32) + ((uc &&& (2147483647 : Int32)) % (420 : Int32)))), .val (.ref b_1), .val (.int (1 : Int32))] [(.long ((own_hit ua (3 : Int32) + own_hit (ub &&& (1023 : Int32)) (3 : Int32)) + own_hit ((190 : Int32) + ((uc &&& (2147483647 : Int32)) % (420 : Int32))) (3 : Int32))), (.long ((((0 : Int64) + own_hit ua (3 : Int32)) + own_hit (ub &&& (1023 : Int32)) (3 : Int32)) + own_hit ((190 : Int32) + ((uc &&& (2147483647 : Int32)) % (420 : Int32))) (3 : Int32)))])) target
    refine XS.lcmp X_19.here hx rfl (hb hby at_106) rfl ?_
    show Steps p.tables e below (T_19.setTop (mkF m 107 #[.val (.int ua), .val (.int ub), .val (.int uc), .val (.int ua), .val (.int (ub &&& (1023 : Int32))), .val (.int ((190 : Int32) + ((uc &&& (2147483647 : Int32)) % (420 : Int32)))), .val (.ref b_1), .val (.int (1 : Int32))] [(.int (lcmpW ((((0 : Int64) + own_hit ua (3 : Int32)) + own_hit (ub &&& (1023 : Int32)) (3 : Int32)) + own_hit ((190 : Int32) + ((uc &&& (2147483647 : Int32)) % (420 : Int32))) (3 : Int32)) ((own_hit ua (3 : Int32) + own_hit (ub &&& (1023 : Int32)) (3 : Int32)) + own_hit ((190 : Int32) + ((uc &&& (2147483647 : Int32)) % (420 : Int32))) (3 : Int32))))])) target
    refine XS.ifNo X_19.here hx rfl (hb hby at_107) rfl ((if0 _ _).trans (teq (own_l1 (by simp only [Int64.zero_add] : ((((0 : Int64) + own_hit ua (3 : Int32)) + own_hit (ub &&& (1023 : Int32)) (3 : Int32)) + own_hit ((190 : Int32) + ((uc &&& (2147483647 : Int32)) % (420 : Int32))) (3 : Int32)) = ((own_hit ua (3 : Int32) + own_hit (ub &&& (1023 : Int32)) (3 : Int32)) + own_hit ((190 : Int32) + ((uc &&& (2147483647 : Int32)) % (420 : Int32))) (3 : Int32))))).2) ?_
    show Steps p.tables e below (T_19.setTop (mkF m 110 #[.val (.int ua), .val (.int ub), .val (.int uc), .val (.int ua), .val (.int (ub &&& (1023 : Int32))), .val (.int ((190 : Int32) + ((uc &&& (2147483647 : Int32)) % (420 : Int32)))), .val (.ref b_1), .val (.int (1 : Int32))] [])) target
    refine XS.iconst X_19.here hx rfl (hb hby at_110) ?_
    show Steps p.tables e below (T_19.setTop (mkF m 111 #[.val (.int ua), .val (.int ub), .val (.int uc), .val (.int ua), .val (.int (ub &&& (1023 : Int32))), .val (.int ((190 : Int32) + ((uc &&& (2147483647 : Int32)) % (420 : Int32)))), .val (.ref b_1), .val (.int (1 : Int32))] [(.int (1 : Int32))])) target
    refine XS.goto X_19.here hx rfl (pc0 := 111) (pc' := 115) rfl (hb hby at_111) (by decide) (by decide) ?_
    show Steps p.tables e below (T_19.setTop (mkF m 115 #[.val (.int ua), .val (.int ub), .val (.int uc), .val (.int ua), .val (.int (ub &&& (1023 : Int32))), .val (.int ((190 : Int32) + ((uc &&& (2147483647 : Int32)) % (420 : Int32)))), .val (.ref b_1), .val (.int (1 : Int32))] [(.int (1 : Int32))])) target
    refine XS.istore X_19.here hx rfl (hb hby at_115) rfl (l' := #[.val (.int ua), .val (.int ub), .val (.int uc), .val (.int ua), .val (.int (ub &&& (1023 : Int32))), .val (.int ((190 : Int32) + ((uc &&& (2147483647 : Int32)) % (420 : Int32)))), .val (.ref b_1), .val (.int (1 : Int32))]) rfl ?_
    show Steps p.tables e below (T_19.setTop (mkF m 117 #[.val (.int ua), .val (.int ub), .val (.int uc), .val (.int ua), .val (.int (ub &&& (1023 : Int32))), .val (.int ((190 : Int32) + ((uc &&& (2147483647 : Int32)) % (420 : Int32)))), .val (.ref b_1), .val (.int (1 : Int32))] [])) target
    refine XS.iload X_19.here hx rfl (hb hby at_117) rfl ?_
    show Steps p.tables e below (T_19.setTop (mkF m 119 #[.val (.int ua), .val (.int ub), .val (.int uc), .val (.int ua), .val (.int (ub &&& (1023 : Int32))), .val (.int ((190 : Int32) + ((uc &&& (2147483647 : Int32)) % (420 : Int32)))), .val (.ref b_1), .val (.int (1 : Int32))] [(.int (1 : Int32))])) target
    refine XS.ifNo X_19.here hx rfl (hb hby at_119) rfl ((if0 _ _).trans (feq (by decide : ¬ ((1 : Int32) = (0 : Int32)))).1) ?_
    show Steps p.tables e below (T_19.setTop (mkF m 122 #[.val (.int ua), .val (.int ub), .val (.int uc), .val (.int ua), .val (.int (ub &&& (1023 : Int32))), .val (.int ((190 : Int32) + ((uc &&& (2147483647 : Int32)) % (420 : Int32)))), .val (.ref b_1), .val (.int (1 : Int32))] [])) target
    refine XS.aload X_19.here hx rfl (hb hby at_122) rfl rfl ?_
    show Steps p.tables e below (T_19.setTop (mkF m 124 #[.val (.int ua), .val (.int ub), .val (.int uc), .val (.int ua), .val (.int (ub &&& (1023 : Int32))), .val (.int ((190 : Int32) + ((uc &&& (2147483647 : Int32)) % (420 : Int32)))), .val (.ref b_1), .val (.int (1 : Int32))] [(.ref b_1)])) target
    refine XS.iconst X_19.here hx rfl (hb hby at_124) ?_
    show Steps p.tables e below (T_19.setTop (mkF m 125 #[.val (.int ua), .val (.int ub), .val (.int uc), .val (.int ua), .val (.int (ub &&& (1023 : Int32))), .val (.int ((190 : Int32) + ((uc &&& (2147483647 : Int32)) % (420 : Int32)))), .val (.ref b_1), .val (.int (1 : Int32))] [(.int (4 : Int32)), (.ref b_1)])) target
    refine st_20.trans ?_
    show Steps p.tables e below (T_20.setTop (mkF m 128 #[.val (.int ua), .val (.int ub), .val (.int uc), .val (.int ua), .val (.int (ub &&& (1023 : Int32))), .val (.int ((190 : Int32) + ((uc &&& (2147483647 : Int32)) % (420 : Int32)))), .val (.ref b_1), .val (.int (1 : Int32))] [(.long ((((0 : Int64) + own_hit ua (4 : Int32)) + own_hit (ub &&& (1023 : Int32)) (4 : Int32)) + own_hit ((190 : Int32) + ((uc &&& (2147483647 : Int32)) % (420 : Int32))) (4 : Int32)))])) target
    refine XS.iloadN X_20.here hx rfl (hb hby at_128) rfl ?_
    show Steps p.tables e below (T_20.setTop (mkF m 129 #[.val (.int ua), .val (.int ub), .val (.int uc), .val (.int ua), .val (.int (ub &&& (1023 : Int32))), .val (.int ((190 : Int32) + ((uc &&& (2147483647 : Int32)) % (420 : Int32)))), .val (.ref b_1), .val (.int (1 : Int32))] [(.int ua), (.long ((((0 : Int64) + own_hit ua (4 : Int32)) + own_hit (ub &&& (1023 : Int32)) (4 : Int32)) + own_hit ((190 : Int32) + ((uc &&& (2147483647 : Int32)) % (420 : Int32))) (4 : Int32)))])) target
    refine XS.iload X_20.here hx rfl (hb hby at_129) rfl ?_
    show Steps p.tables e below (T_20.setTop (mkF m 131 #[.val (.int ua), .val (.int ub), .val (.int uc), .val (.int ua), .val (.int (ub &&& (1023 : Int32))), .val (.int ((190 : Int32) + ((uc &&& (2147483647 : Int32)) % (420 : Int32)))), .val (.ref b_1), .val (.int (1 : Int32))] [(.int (ub &&& (1023 : Int32))), (.int ua), (.long ((((0 : Int64) + own_hit ua (4 : Int32)) + own_hit (ub &&& (1023 : Int32)) (4 : Int32)) + own_hit ((190 : Int32) + ((uc &&& (2147483647 : Int32)) % (420 : Int32))) (4 : Int32)))])) target
    refine XS.iload X_20.here hx rfl (hb hby at_131) rfl ?_
    show Steps p.tables e below (T_20.setTop (mkF m 133 #[.val (.int ua), .val (.int ub), .val (.int uc), .val (.int ua), .val (.int (ub &&& (1023 : Int32))), .val (.int ((190 : Int32) + ((uc &&& (2147483647 : Int32)) % (420 : Int32)))), .val (.ref b_1), .val (.int (1 : Int32))] [(.int ((190 : Int32) + ((uc &&& (2147483647 : Int32)) % (420 : Int32)))), (.int (ub &&& (1023 : Int32))), (.int ua), (.long ((((0 : Int64) + own_hit ua (4 : Int32)) + own_hit (ub &&& (1023 : Int32)) (4 : Int32)) + own_hit ((190 : Int32) + ((uc &&& (2147483647 : Int32)) % (420 : Int32))) (4 : Int32)))])) target
    refine XS.iconst X_20.here hx rfl (hb hby at_133) ?_
    show Steps p.tables e below (T_20.setTop (mkF m 134 #[.val (.int ua), .val (.int ub), .val (.int uc), .val (.int ua), .val (.int (ub &&& (1023 : Int32))), .val (.int ((190 : Int32) + ((uc &&& (2147483647 : Int32)) % (420 : Int32)))), .val (.ref b_1), .val (.int (1 : Int32))] [(.int (4 : Int32)), (.int ((190 : Int32) + ((uc &&& (2147483647 : Int32)) % (420 : Int32)))), (.int (ub &&& (1023 : Int32))), (.int ua), (.long ((((0 : Int64) + own_hit ua (4 : Int32)) + own_hit (ub &&& (1023 : Int32)) (4 : Int32)) + own_hit ((190 : Int32) + ((uc &&& (2147483647 : Int32)) % (420 : Int32))) (4 : Int32)))])) target
    refine st_21 _ ?_
    show Steps p.tables e below (T_21.setTop (mkF m 137 #[.val (.int ua), .val (.int ub), .val (.int uc), .val (.int ua), .val (.int (ub &&& (1023 : Int32))), .val (.int ((190 : Int32) + ((uc &&& (2147483647 : Int32)) % (420 : Int32)))), .val (.ref b_1), .val (.int (1 : Int32))] [(.long ((own_hit ua (4 : Int32) + own_hit (ub &&& (1023 : Int32)) (4 : Int32)) + own_hit ((190 : Int32) + ((uc &&& (2147483647 : Int32)) % (420 : Int32))) (4 : Int32))), (.long ((((0 : Int64) + own_hit ua (4 : Int32)) + own_hit (ub &&& (1023 : Int32)) (4 : Int32)) + own_hit ((190 : Int32) + ((uc &&& (2147483647 : Int32)) % (420 : Int32))) (4 : Int32)))])) target
    refine XS.lcmp X_21.here hx rfl (hb hby at_137) rfl ?_
    show Steps p.tables e below (T_21.setTop (mkF m 138 #[.val (.int ua), .val (.int ub), .val (.int uc), .val (.int ua), .val (.int (ub &&& (1023 : Int32))), .val (.int ((190 : Int32) + ((uc &&& (2147483647 : Int32)) % (420 : Int32)))), .val (.ref b_1), .val (.int (1 : Int32))] [(.int (lcmpW ((((0 : Int64) + own_hit ua (4 : Int32)) + own_hit (ub &&& (1023 : Int32)) (4 : Int32)) + own_hit ((190 : Int32) + ((uc &&& (2147483647 : Int32)) % (420 : Int32))) (4 : Int32)) ((own_hit ua (4 : Int32) + own_hit (ub &&& (1023 : Int32)) (4 : Int32)) + own_hit ((190 : Int32) + ((uc &&& (2147483647 : Int32)) % (420 : Int32))) (4 : Int32))))])) target
    refine XS.ifNo X_21.here hx rfl (hb hby at_138) rfl ((if0 _ _).trans (teq (own_l1 (by simp only [Int64.zero_add] : ((((0 : Int64) + own_hit ua (4 : Int32)) + own_hit (ub &&& (1023 : Int32)) (4 : Int32)) + own_hit ((190 : Int32) + ((uc &&& (2147483647 : Int32)) % (420 : Int32))) (4 : Int32)) = ((own_hit ua (4 : Int32) + own_hit (ub &&& (1023 : Int32)) (4 : Int32)) + own_hit ((190 : Int32) + ((uc &&& (2147483647 : Int32)) % (420 : Int32))) (4 : Int32))))).2) ?_
    show Steps p.tables e below (T_21.setTop (mkF m 141 #[.val (.int ua), .val (.int ub), .val (.int uc), .val (.int ua), .val (.int (ub &&& (1023 : Int32))), .val (.int ((190 : Int32) + ((uc &&& (2147483647 : Int32)) % (420 : Int32)))), .val (.ref b_1), .val (.int (1 : Int32))] [])) target
    refine XS.iconst X_21.here hx rfl (hb hby at_141) ?_
    show Steps p.tables e below (T_21.setTop (mkF m 142 #[.val (.int ua), .val (.int ub), .val (.int uc), .val (.int ua), .val (.int (ub &&& (1023 : Int32))), .val (.int ((190 : Int32) + ((uc &&& (2147483647 : Int32)) % (420 : Int32)))), .val (.ref b_1), .val (.int (1 : Int32))] [(.int (1 : Int32))])) target
    refine XS.goto X_21.here hx rfl (pc0 := 142) (pc' := 146) rfl (hb hby at_142) (by decide) (by decide) ?_
    show Steps p.tables e below (T_21.setTop (mkF m 146 #[.val (.int ua), .val (.int ub), .val (.int uc), .val (.int ua), .val (.int (ub &&& (1023 : Int32))), .val (.int ((190 : Int32) + ((uc &&& (2147483647 : Int32)) % (420 : Int32)))), .val (.ref b_1), .val (.int (1 : Int32))] [(.int (1 : Int32))])) target
    refine XS.istore X_21.here hx rfl (hb hby at_146) rfl (l' := #[.val (.int ua), .val (.int ub), .val (.int uc), .val (.int ua), .val (.int (ub &&& (1023 : Int32))), .val (.int ((190 : Int32) + ((uc &&& (2147483647 : Int32)) % (420 : Int32)))), .val (.ref b_1), .val (.int (1 : Int32))]) rfl ?_
    show Steps p.tables e below (T_21.setTop (mkF m 148 #[.val (.int ua), .val (.int ub), .val (.int uc), .val (.int ua), .val (.int (ub &&& (1023 : Int32))), .val (.int ((190 : Int32) + ((uc &&& (2147483647 : Int32)) % (420 : Int32)))), .val (.ref b_1), .val (.int (1 : Int32))] [])) target
    refine XS.iload X_21.here hx rfl (hb hby at_148) rfl ?_
    show Steps p.tables e below (T_21.setTop (mkF m 150 #[.val (.int ua), .val (.int ub), .val (.int uc), .val (.int ua), .val (.int (ub &&& (1023 : Int32))), .val (.int ((190 : Int32) + ((uc &&& (2147483647 : Int32)) % (420 : Int32)))), .val (.ref b_1), .val (.int (1 : Int32))] [(.int (1 : Int32))])) target
    refine XS.ifNo X_21.here hx rfl (hb hby at_150) rfl ((if0 _ _).trans (feq (by decide : ¬ ((1 : Int32) = (0 : Int32)))).1) ?_
    show Steps p.tables e below (T_21.setTop (mkF m 153 #[.val (.int ua), .val (.int ub), .val (.int uc), .val (.int ua), .val (.int (ub &&& (1023 : Int32))), .val (.int ((190 : Int32) + ((uc &&& (2147483647 : Int32)) % (420 : Int32)))), .val (.ref b_1), .val (.int (1 : Int32))] [])) target
    refine XS.aload X_21.here hx rfl (hb hby at_153) rfl rfl ?_
    show Steps p.tables e below (T_21.setTop (mkF m 155 #[.val (.int ua), .val (.int ub), .val (.int uc), .val (.int ua), .val (.int (ub &&& (1023 : Int32))), .val (.int ((190 : Int32) + ((uc &&& (2147483647 : Int32)) % (420 : Int32)))), .val (.ref b_1), .val (.int (1 : Int32))] [(.ref b_1)])) target
    refine XS.iconst X_21.here hx rfl (hb hby at_155) ?_
    show Steps p.tables e below (T_21.setTop (mkF m 156 #[.val (.int ua), .val (.int ub), .val (.int uc), .val (.int ua), .val (.int (ub &&& (1023 : Int32))), .val (.int ((190 : Int32) + ((uc &&& (2147483647 : Int32)) % (420 : Int32)))), .val (.ref b_1), .val (.int (1 : Int32))] [(.int (5 : Int32)), (.ref b_1)])) target
    refine st_22.trans ?_
    show Steps p.tables e below (T_22.setTop (mkF m 159 #[.val (.int ua), .val (.int ub), .val (.int uc), .val (.int ua), .val (.int (ub &&& (1023 : Int32))), .val (.int ((190 : Int32) + ((uc &&& (2147483647 : Int32)) % (420 : Int32)))), .val (.ref b_1), .val (.int (1 : Int32))] [(.long ((((0 : Int64) + own_hit ua (5 : Int32)) + own_hit (ub &&& (1023 : Int32)) (5 : Int32)) + own_hit ((190 : Int32) + ((uc &&& (2147483647 : Int32)) % (420 : Int32))) (5 : Int32)))])) target
    refine XS.iloadN X_22.here hx rfl (hb hby at_159) rfl ?_
    show Steps p.tables e below (T_22.setTop (mkF m 160 #[.val (.int ua), .val (.int ub), .val (.int uc), .val (.int ua), .val (.int (ub &&& (1023 : Int32))), .val (.int ((190 : Int32) + ((uc &&& (2147483647 : Int32)) % (420 : Int32)))), .val (.ref b_1), .val (.int (1 : Int32))] [(.int ua), (.long ((((0 : Int64) + own_hit ua (5 : Int32)) + own_hit (ub &&& (1023 : Int32)) (5 : Int32)) + own_hit ((190 : Int32) + ((uc &&& (2147483647 : Int32)) % (420 : Int32))) (5 : Int32)))])) target
    refine XS.iload X_22.here hx rfl (hb hby at_160) rfl ?_
    show Steps p.tables e below (T_22.setTop (mkF m 162 #[.val (.int ua), .val (.int ub), .val (.int uc), .val (.int ua), .val (.int (ub &&& (1023 : Int32))), .val (.int ((190 : Int32) + ((uc &&& (2147483647 : Int32)) % (420 : Int32)))), .val (.ref b_1), .val (.int (1 : Int32))] [(.int (ub &&& (1023 : Int32))), (.int ua), (.long ((((0 : Int64) + own_hit ua (5 : Int32)) + own_hit (ub &&& (1023 : Int32)) (5 : Int32)) + own_hit ((190 : Int32) + ((uc &&& (2147483647 : Int32)) % (420 : Int32))) (5 : Int32)))])) target
    refine XS.iload X_22.here hx rfl (hb hby at_162) rfl ?_
    show Steps p.tables e below (T_22.setTop (mkF m 164 #[.val (.int ua), .val (.int ub), .val (.int uc), .val (.int ua), .val (.int (ub &&& (1023 : Int32))), .val (.int ((190 : Int32) + ((uc &&& (2147483647 : Int32)) % (420 : Int32)))), .val (.ref b_1), .val (.int (1 : Int32))] [(.int ((190 : Int32) + ((uc &&& (2147483647 : Int32)) % (420 : Int32)))), (.int (ub &&& (1023 : Int32))), (.int ua), (.long ((((0 : Int64) + own_hit ua (5 : Int32)) + own_hit (ub &&& (1023 : Int32)) (5 : Int32)) + own_hit ((190 : Int32) + ((uc &&& (2147483647 : Int32)) % (420 : Int32))) (5 : Int32)))])) target
    refine XS.iconst X_22.here hx rfl (hb hby at_164) ?_
    show Steps p.tables e below (T_22.setTop (mkF m 165 #[.val (.int ua), .val (.int ub), .val (.int uc), .val (.int ua), .val (.int (ub &&& (1023 : Int32))), .val (.int ((190 : Int32) + ((uc &&& (2147483647 : Int32)) % (420 : Int32)))), .val (.ref b_1), .val (.int (1 : Int32))] [(.int (5 : Int32)), (.int ((190 : Int32) + ((uc &&& (2147483647 : Int32)) % (420 : Int32)))), (.int (ub &&& (1023 : Int32))), (.int ua), (.long ((((0 : Int64) + own_hit ua (5 : Int32)) + own_hit (ub &&& (1023 : Int32)) (5 : Int32)) + own_hit ((190 : Int32) + ((uc &&& (2147483647 : Int32)) % (420 : Int32))) (5 : Int32)))])) target
    refine st_23 _ ?_
    show Steps p.tables e below (T_23.setTop (mkF m 168 #[.val (.int ua), .val (.int ub), .val (.int uc), .val (.int ua), .val (.int (ub &&& (1023 : Int32))), .val (.int ((190 : Int32) + ((uc &&& (2147483647 : Int32)) % (420 : Int32)))), .val (.ref b_1), .val (.int (1 : Int32))] [(.long ((own_hit ua (5 : Int32) + own_hit (ub &&& (1023 : Int32)) (5 : Int32)) + own_hit ((190 : Int32) + ((uc &&& (2147483647 : Int32)) % (420 : Int32))) (5 : Int32))), (.long ((((0 : Int64) + own_hit ua (5 : Int32)) + own_hit (ub &&& (1023 : Int32)) (5 : Int32)) + own_hit ((190 : Int32) + ((uc &&& (2147483647 : Int32)) % (420 : Int32))) (5 : Int32)))])) target
    refine XS.lcmp X_23.here hx rfl (hb hby at_168) rfl ?_
    show Steps p.tables e below (T_23.setTop (mkF m 169 #[.val (.int ua), .val (.int ub), .val (.int uc), .val (.int ua), .val (.int (ub &&& (1023 : Int32))), .val (.int ((190 : Int32) + ((uc &&& (2147483647 : Int32)) % (420 : Int32)))), .val (.ref b_1), .val (.int (1 : Int32))] [(.int (lcmpW ((((0 : Int64) + own_hit ua (5 : Int32)) + own_hit (ub &&& (1023 : Int32)) (5 : Int32)) + own_hit ((190 : Int32) + ((uc &&& (2147483647 : Int32)) % (420 : Int32))) (5 : Int32)) ((own_hit ua (5 : Int32) + own_hit (ub &&& (1023 : Int32)) (5 : Int32)) + own_hit ((190 : Int32) + ((uc &&& (2147483647 : Int32)) % (420 : Int32))) (5 : Int32))))])) target
    refine XS.ifNo X_23.here hx rfl (hb hby at_169) rfl ((if0 _ _).trans (teq (own_l1 (by simp only [Int64.zero_add] : ((((0 : Int64) + own_hit ua (5 : Int32)) + own_hit (ub &&& (1023 : Int32)) (5 : Int32)) + own_hit ((190 : Int32) + ((uc &&& (2147483647 : Int32)) % (420 : Int32))) (5 : Int32)) = ((own_hit ua (5 : Int32) + own_hit (ub &&& (1023 : Int32)) (5 : Int32)) + own_hit ((190 : Int32) + ((uc &&& (2147483647 : Int32)) % (420 : Int32))) (5 : Int32))))).2) ?_
    show Steps p.tables e below (T_23.setTop (mkF m 172 #[.val (.int ua), .val (.int ub), .val (.int uc), .val (.int ua), .val (.int (ub &&& (1023 : Int32))), .val (.int ((190 : Int32) + ((uc &&& (2147483647 : Int32)) % (420 : Int32)))), .val (.ref b_1), .val (.int (1 : Int32))] [])) target
    refine XS.iconst X_23.here hx rfl (hb hby at_172) ?_
    show Steps p.tables e below (T_23.setTop (mkF m 173 #[.val (.int ua), .val (.int ub), .val (.int uc), .val (.int ua), .val (.int (ub &&& (1023 : Int32))), .val (.int ((190 : Int32) + ((uc &&& (2147483647 : Int32)) % (420 : Int32)))), .val (.ref b_1), .val (.int (1 : Int32))] [(.int (1 : Int32))])) target
    refine XS.goto X_23.here hx rfl (pc0 := 173) (pc' := 177) rfl (hb hby at_173) (by decide) (by decide) ?_
    show Steps p.tables e below (T_23.setTop (mkF m 177 #[.val (.int ua), .val (.int ub), .val (.int uc), .val (.int ua), .val (.int (ub &&& (1023 : Int32))), .val (.int ((190 : Int32) + ((uc &&& (2147483647 : Int32)) % (420 : Int32)))), .val (.ref b_1), .val (.int (1 : Int32))] [(.int (1 : Int32))])) target
    refine XS.istore X_23.here hx rfl (hb hby at_177) rfl (l' := #[.val (.int ua), .val (.int ub), .val (.int uc), .val (.int ua), .val (.int (ub &&& (1023 : Int32))), .val (.int ((190 : Int32) + ((uc &&& (2147483647 : Int32)) % (420 : Int32)))), .val (.ref b_1), .val (.int (1 : Int32))]) rfl ?_
    show Steps p.tables e below (T_23.setTop (mkF m 179 #[.val (.int ua), .val (.int ub), .val (.int uc), .val (.int ua), .val (.int (ub &&& (1023 : Int32))), .val (.int ((190 : Int32) + ((uc &&& (2147483647 : Int32)) % (420 : Int32)))), .val (.ref b_1), .val (.int (1 : Int32))] [])) target
    refine XS.iload X_23.here hx rfl (hb hby at_179) rfl ?_
    show Steps p.tables e below (T_23.setTop (mkF m 181 #[.val (.int ua), .val (.int ub), .val (.int uc), .val (.int ua), .val (.int (ub &&& (1023 : Int32))), .val (.int ((190 : Int32) + ((uc &&& (2147483647 : Int32)) % (420 : Int32)))), .val (.ref b_1), .val (.int (1 : Int32))] [(.int (1 : Int32))])) target
    refine XS.ifNo X_23.here hx rfl (hb hby at_181) rfl ((if0 _ _).trans (feq (by decide : ¬ ((1 : Int32) = (0 : Int32)))).1) ?_
    show Steps p.tables e below (T_23.setTop (mkF m 184 #[.val (.int ua), .val (.int ub), .val (.int uc), .val (.int ua), .val (.int (ub &&& (1023 : Int32))), .val (.int ((190 : Int32) + ((uc &&& (2147483647 : Int32)) % (420 : Int32)))), .val (.ref b_1), .val (.int (1 : Int32))] [])) target
    refine XS.aload X_23.here hx rfl (hb hby at_184) rfl rfl ?_
    show Steps p.tables e below (T_23.setTop (mkF m 186 #[.val (.int ua), .val (.int ub), .val (.int uc), .val (.int ua), .val (.int (ub &&& (1023 : Int32))), .val (.int ((190 : Int32) + ((uc &&& (2147483647 : Int32)) % (420 : Int32)))), .val (.ref b_1), .val (.int (1 : Int32))] [(.ref b_1)])) target
    refine st_24.trans ?_
    show Steps p.tables e below (T_24.setTop (mkF m 189 #[.val (.int ua), .val (.int ub), .val (.int uc), .val (.int ua), .val (.int (ub &&& (1023 : Int32))), .val (.int ((190 : Int32) + ((uc &&& (2147483647 : Int32)) % (420 : Int32)))), .val (.ref b_1), .val (.int (1 : Int32))] [(.long ((((0 : Int64) + own_hit ua (-1 : Int32)) + own_hit (ub &&& (1023 : Int32)) (-1 : Int32)) + own_hit ((190 : Int32) + ((uc &&& (2147483647 : Int32)) % (420 : Int32))) (-1 : Int32)))])) target
    refine XS.iloadN X_24.here hx rfl (hb hby at_189) rfl ?_
    show Steps p.tables e below (T_24.setTop (mkF m 190 #[.val (.int ua), .val (.int ub), .val (.int uc), .val (.int ua), .val (.int (ub &&& (1023 : Int32))), .val (.int ((190 : Int32) + ((uc &&& (2147483647 : Int32)) % (420 : Int32)))), .val (.ref b_1), .val (.int (1 : Int32))] [(.int ua), (.long ((((0 : Int64) + own_hit ua (-1 : Int32)) + own_hit (ub &&& (1023 : Int32)) (-1 : Int32)) + own_hit ((190 : Int32) + ((uc &&& (2147483647 : Int32)) % (420 : Int32))) (-1 : Int32)))])) target
    refine XS.iload X_24.here hx rfl (hb hby at_190) rfl ?_
    show Steps p.tables e below (T_24.setTop (mkF m 192 #[.val (.int ua), .val (.int ub), .val (.int uc), .val (.int ua), .val (.int (ub &&& (1023 : Int32))), .val (.int ((190 : Int32) + ((uc &&& (2147483647 : Int32)) % (420 : Int32)))), .val (.ref b_1), .val (.int (1 : Int32))] [(.int (ub &&& (1023 : Int32))), (.int ua), (.long ((((0 : Int64) + own_hit ua (-1 : Int32)) + own_hit (ub &&& (1023 : Int32)) (-1 : Int32)) + own_hit ((190 : Int32) + ((uc &&& (2147483647 : Int32)) % (420 : Int32))) (-1 : Int32)))])) target
    refine XS.iload X_24.here hx rfl (hb hby at_192) rfl ?_
    show Steps p.tables e below (T_24.setTop (mkF m 194 #[.val (.int ua), .val (.int ub), .val (.int uc), .val (.int ua), .val (.int (ub &&& (1023 : Int32))), .val (.int ((190 : Int32) + ((uc &&& (2147483647 : Int32)) % (420 : Int32)))), .val (.ref b_1), .val (.int (1 : Int32))] [(.int ((190 : Int32) + ((uc &&& (2147483647 : Int32)) % (420 : Int32)))), (.int (ub &&& (1023 : Int32))), (.int ua), (.long ((((0 : Int64) + own_hit ua (-1 : Int32)) + own_hit (ub &&& (1023 : Int32)) (-1 : Int32)) + own_hit ((190 : Int32) + ((uc &&& (2147483647 : Int32)) % (420 : Int32))) (-1 : Int32)))])) target
    refine XS.iconst X_24.here hx rfl (hb hby at_194) ?_
    show Steps p.tables e below (T_24.setTop (mkF m 195 #[.val (.int ua), .val (.int ub), .val (.int uc), .val (.int ua), .val (.int (ub &&& (1023 : Int32))), .val (.int ((190 : Int32) + ((uc &&& (2147483647 : Int32)) % (420 : Int32)))), .val (.ref b_1), .val (.int (1 : Int32))] [(.int (-1 : Int32)), (.int ((190 : Int32) + ((uc &&& (2147483647 : Int32)) % (420 : Int32)))), (.int (ub &&& (1023 : Int32))), (.int ua), (.long ((((0 : Int64) + own_hit ua (-1 : Int32)) + own_hit (ub &&& (1023 : Int32)) (-1 : Int32)) + own_hit ((190 : Int32) + ((uc &&& (2147483647 : Int32)) % (420 : Int32))) (-1 : Int32)))])) target
    refine st_25 _ ?_
    show Steps p.tables e below (T_25.setTop (mkF m 198 #[.val (.int ua), .val (.int ub), .val (.int uc), .val (.int ua), .val (.int (ub &&& (1023 : Int32))), .val (.int ((190 : Int32) + ((uc &&& (2147483647 : Int32)) % (420 : Int32)))), .val (.ref b_1), .val (.int (1 : Int32))] [(.long ((own_hit ua (-1 : Int32) + own_hit (ub &&& (1023 : Int32)) (-1 : Int32)) + own_hit ((190 : Int32) + ((uc &&& (2147483647 : Int32)) % (420 : Int32))) (-1 : Int32))), (.long ((((0 : Int64) + own_hit ua (-1 : Int32)) + own_hit (ub &&& (1023 : Int32)) (-1 : Int32)) + own_hit ((190 : Int32) + ((uc &&& (2147483647 : Int32)) % (420 : Int32))) (-1 : Int32)))])) target
    refine XS.lcmp X_25.here hx rfl (hb hby at_198) rfl ?_
    show Steps p.tables e below (T_25.setTop (mkF m 199 #[.val (.int ua), .val (.int ub), .val (.int uc), .val (.int ua), .val (.int (ub &&& (1023 : Int32))), .val (.int ((190 : Int32) + ((uc &&& (2147483647 : Int32)) % (420 : Int32)))), .val (.ref b_1), .val (.int (1 : Int32))] [(.int (lcmpW ((((0 : Int64) + own_hit ua (-1 : Int32)) + own_hit (ub &&& (1023 : Int32)) (-1 : Int32)) + own_hit ((190 : Int32) + ((uc &&& (2147483647 : Int32)) % (420 : Int32))) (-1 : Int32)) ((own_hit ua (-1 : Int32) + own_hit (ub &&& (1023 : Int32)) (-1 : Int32)) + own_hit ((190 : Int32) + ((uc &&& (2147483647 : Int32)) % (420 : Int32))) (-1 : Int32))))])) target
    refine XS.ifNo X_25.here hx rfl (hb hby at_199) rfl ((if0 _ _).trans (teq (own_l1 (by simp only [Int64.zero_add] : ((((0 : Int64) + own_hit ua (-1 : Int32)) + own_hit (ub &&& (1023 : Int32)) (-1 : Int32)) + own_hit ((190 : Int32) + ((uc &&& (2147483647 : Int32)) % (420 : Int32))) (-1 : Int32)) = ((own_hit ua (-1 : Int32) + own_hit (ub &&& (1023 : Int32)) (-1 : Int32)) + own_hit ((190 : Int32) + ((uc &&& (2147483647 : Int32)) % (420 : Int32))) (-1 : Int32))))).2) ?_
    show Steps p.tables e below (T_25.setTop (mkF m 202 #[.val (.int ua), .val (.int ub), .val (.int uc), .val (.int ua), .val (.int (ub &&& (1023 : Int32))), .val (.int ((190 : Int32) + ((uc &&& (2147483647 : Int32)) % (420 : Int32)))), .val (.ref b_1), .val (.int (1 : Int32))] [])) target
    refine XS.iconst X_25.here hx rfl (hb hby at_202) ?_
    show Steps p.tables e below (T_25.setTop (mkF m 203 #[.val (.int ua), .val (.int ub), .val (.int uc), .val (.int ua), .val (.int (ub &&& (1023 : Int32))), .val (.int ((190 : Int32) + ((uc &&& (2147483647 : Int32)) % (420 : Int32)))), .val (.ref b_1), .val (.int (1 : Int32))] [(.int (1 : Int32))])) target
    refine XS.goto X_25.here hx rfl (pc0 := 203) (pc' := 207) rfl (hb hby at_203) (by decide) (by decide) ?_
    show Steps p.tables e below (T_25.setTop (mkF m 207 #[.val (.int ua), .val (.int ub), .val (.int uc), .val (.int ua), .val (.int (ub &&& (1023 : Int32))), .val (.int ((190 : Int32) + ((uc &&& (2147483647 : Int32)) % (420 : Int32)))), .val (.ref b_1), .val (.int (1 : Int32))] [(.int (1 : Int32))])) target
    refine XS.istore X_25.here hx rfl (hb hby at_207) rfl (l' := #[.val (.int ua), .val (.int ub), .val (.int uc), .val (.int ua), .val (.int (ub &&& (1023 : Int32))), .val (.int ((190 : Int32) + ((uc &&& (2147483647 : Int32)) % (420 : Int32)))), .val (.ref b_1), .val (.int (1 : Int32))]) rfl ?_
    show Steps p.tables e below (T_25.setTop (mkF m 209 #[.val (.int ua), .val (.int ub), .val (.int uc), .val (.int ua), .val (.int (ub &&& (1023 : Int32))), .val (.int ((190 : Int32) + ((uc &&& (2147483647 : Int32)) % (420 : Int32)))), .val (.ref b_1), .val (.int (1 : Int32))] [])) target
    refine XS.iload X_25.here hx rfl (hb hby at_209) rfl ?_
    show Steps p.tables e below (T_25.setTop (mkF m 211 #[.val (.int ua), .val (.int ub), .val (.int uc), .val (.int ua), .val (.int (ub &&& (1023 : Int32))), .val (.int ((190 : Int32) + ((uc &&& (2147483647 : Int32)) % (420 : Int32)))), .val (.ref b_1), .val (.int (1 : Int32))] [(.int (1 : Int32))])) target
    refine XS.ifNo X_25.here hx rfl (hb hby at_211) rfl ((if0 _ _).trans (feq (by decide : ¬ ((1 : Int32) = (0 : Int32)))).1) ?_
    show Steps p.tables e below (T_25.setTop (mkF m 214 #[.val (.int ua), .val (.int ub), .val (.int uc), .val (.int ua), .val (.int (ub &&& (1023 : Int32))), .val (.int ((190 : Int32) + ((uc &&& (2147483647 : Int32)) % (420 : Int32)))), .val (.ref b_1), .val (.int (1 : Int32))] [])) target
    refine XS.aload X_25.here hx rfl (hb hby at_214) rfl rfl ?_
    show Steps p.tables e below (T_25.setTop (mkF m 216 #[.val (.int ua), .val (.int ub), .val (.int uc), .val (.int ua), .val (.int (ub &&& (1023 : Int32))), .val (.int ((190 : Int32) + ((uc &&& (2147483647 : Int32)) % (420 : Int32)))), .val (.ref b_1), .val (.int (1 : Int32))] [(.ref b_1)])) target
    refine st_26.trans ?_
    show Steps p.tables e below (T_26.setTop (mkF m 219 #[.val (.int ua), .val (.int ub), .val (.int uc), .val (.int ua), .val (.int (ub &&& (1023 : Int32))), .val (.int ((190 : Int32) + ((uc &&& (2147483647 : Int32)) % (420 : Int32)))), .val (.ref b_1), .val (.int (1 : Int32))] [(.long ((((((((0 : Int64) + own_hit ua (2 : Int32)) + own_hit (ub &&& (1023 : Int32)) (2 : Int32)) + own_hit ((190 : Int32) + ((uc &&& (2147483647 : Int32)) % (420 : Int32))) (2 : Int32)) + ((((0 : Int64) + own_hit ua (3 : Int32)) + own_hit (ub &&& (1023 : Int32)) (3 : Int32)) + own_hit ((190 : Int32) + ((uc &&& (2147483647 : Int32)) % (420 : Int32))) (3 : Int32))) + ((((0 : Int64) + own_hit ua (4 : Int32)) + own_hit (ub &&& (1023 : Int32)) (4 : Int32)) + own_hit ((190 : Int32) + ((uc &&& (2147483647 : Int32)) % (420 : Int32))) (4 : Int32))) + ((((0 : Int64) + own_hit ua (5 : Int32)) + own_hit (ub &&& (1023 : Int32)) (5 : Int32)) + own_hit ((190 : Int32) + ((uc &&& (2147483647 : Int32)) % (420 : Int32))) (5 : Int32))) + ((((0 : Int64) + own_hit ua (-1 : Int32)) + own_hit (ub &&& (1023 : Int32)) (-1 : Int32)) + own_hit ((190 : Int32) + ((uc &&& (2147483647 : Int32)) % (420 : Int32))) (-1 : Int32))))])) target
    refine X_26.ldc2Long hx hown (mvT hZ (hw _ (List.mem_of_getElem? (i := 45) rfl))) (g := (mkF m 219 #[.val (.int ua), .val (.int ub), .val (.int uc), .val (.int ua), .val (.int (ub &&& (1023 : Int32))), .val (.int ((190 : Int32) + ((uc &&& (2147483647 : Int32)) % (420 : Int32)))), .val (.ref b_1), .val (.int (1 : Int32))] [(.long ((((((((0 : Int64) + own_hit ua (2 : Int32)) + own_hit (ub &&& (1023 : Int32)) (2 : Int32)) + own_hit ((190 : Int32) + ((uc &&& (2147483647 : Int32)) % (420 : Int32))) (2 : Int32)) + ((((0 : Int64) + own_hit ua (3 : Int32)) + own_hit (ub &&& (1023 : Int32)) (3 : Int32)) + own_hit ((190 : Int32) + ((uc &&& (2147483647 : Int32)) % (420 : Int32))) (3 : Int32))) + ((((0 : Int64) + own_hit ua (4 : Int32)) + own_hit (ub &&& (1023 : Int32)) (4 : Int32)) + own_hit ((190 : Int32) + ((uc &&& (2147483647 : Int32)) % (420 : Int32))) (4 : Int32))) + ((((0 : Int64) + own_hit ua (5 : Int32)) + own_hit (ub &&& (1023 : Int32)) (5 : Int32)) + own_hit ((190 : Int32) + ((uc &&& (2147483647 : Int32)) % (420 : Int32))) (5 : Int32))) + ((((0 : Int64) + own_hit ua (-1 : Int32)) + own_hit (ub &&& (1023 : Int32)) (-1 : Int32)) + own_hit ((190 : Int32) + ((uc &&& (2147483647 : Int32)) % (420 : Int32))) (-1 : Int32))))])) rfl (hb hby at_219) _ ?_
    show Steps p.tables e below (T_26.setTop (mkF m 222 #[.val (.int ua), .val (.int ub), .val (.int uc), .val (.int ua), .val (.int (ub &&& (1023 : Int32))), .val (.int ((190 : Int32) + ((uc &&& (2147483647 : Int32)) % (420 : Int32)))), .val (.ref b_1), .val (.int (1 : Int32))] [(.long (3 : Int64)), (.long ((((((((0 : Int64) + own_hit ua (2 : Int32)) + own_hit (ub &&& (1023 : Int32)) (2 : Int32)) + own_hit ((190 : Int32) + ((uc &&& (2147483647 : Int32)) % (420 : Int32))) (2 : Int32)) + ((((0 : Int64) + own_hit ua (3 : Int32)) + own_hit (ub &&& (1023 : Int32)) (3 : Int32)) + own_hit ((190 : Int32) + ((uc &&& (2147483647 : Int32)) % (420 : Int32))) (3 : Int32))) + ((((0 : Int64) + own_hit ua (4 : Int32)) + own_hit (ub &&& (1023 : Int32)) (4 : Int32)) + own_hit ((190 : Int32) + ((uc &&& (2147483647 : Int32)) % (420 : Int32))) (4 : Int32))) + ((((0 : Int64) + own_hit ua (5 : Int32)) + own_hit (ub &&& (1023 : Int32)) (5 : Int32)) + own_hit ((190 : Int32) + ((uc &&& (2147483647 : Int32)) % (420 : Int32))) (5 : Int32))) + ((((0 : Int64) + own_hit ua (-1 : Int32)) + own_hit (ub &&& (1023 : Int32)) (-1 : Int32)) + own_hit ((190 : Int32) + ((uc &&& (2147483647 : Int32)) % (420 : Int32))) (-1 : Int32))))])) target
    refine XS.lcmp X_26.here hx rfl (hb hby at_222) rfl ?_
    show Steps p.tables e below (T_26.setTop (mkF m 223 #[.val (.int ua), .val (.int ub), .val (.int uc), .val (.int ua), .val (.int (ub &&& (1023 : Int32))), .val (.int ((190 : Int32) + ((uc &&& (2147483647 : Int32)) % (420 : Int32)))), .val (.ref b_1), .val (.int (1 : Int32))] [(.int (lcmpW ((((((((0 : Int64) + own_hit ua (2 : Int32)) + own_hit (ub &&& (1023 : Int32)) (2 : Int32)) + own_hit ((190 : Int32) + ((uc &&& (2147483647 : Int32)) % (420 : Int32))) (2 : Int32)) + ((((0 : Int64) + own_hit ua (3 : Int32)) + own_hit (ub &&& (1023 : Int32)) (3 : Int32)) + own_hit ((190 : Int32) + ((uc &&& (2147483647 : Int32)) % (420 : Int32))) (3 : Int32))) + ((((0 : Int64) + own_hit ua (4 : Int32)) + own_hit (ub &&& (1023 : Int32)) (4 : Int32)) + own_hit ((190 : Int32) + ((uc &&& (2147483647 : Int32)) % (420 : Int32))) (4 : Int32))) + ((((0 : Int64) + own_hit ua (5 : Int32)) + own_hit (ub &&& (1023 : Int32)) (5 : Int32)) + own_hit ((190 : Int32) + ((uc &&& (2147483647 : Int32)) % (420 : Int32))) (5 : Int32))) + ((((0 : Int64) + own_hit ua (-1 : Int32)) + own_hit (ub &&& (1023 : Int32)) (-1 : Int32)) + own_hit ((190 : Int32) + ((uc &&& (2147483647 : Int32)) % (420 : Int32))) (-1 : Int32))) (3 : Int64)))])) target
    refine XS.ifNo X_26.here hx rfl (hb hby at_223) rfl ((if0 _ _).trans (teq (own_l1 (own_pages _ _ _ : ((((((((0 : Int64) + own_hit ua (2 : Int32)) + own_hit (ub &&& (1023 : Int32)) (2 : Int32)) + own_hit ((190 : Int32) + ((uc &&& (2147483647 : Int32)) % (420 : Int32))) (2 : Int32)) + ((((0 : Int64) + own_hit ua (3 : Int32)) + own_hit (ub &&& (1023 : Int32)) (3 : Int32)) + own_hit ((190 : Int32) + ((uc &&& (2147483647 : Int32)) % (420 : Int32))) (3 : Int32))) + ((((0 : Int64) + own_hit ua (4 : Int32)) + own_hit (ub &&& (1023 : Int32)) (4 : Int32)) + own_hit ((190 : Int32) + ((uc &&& (2147483647 : Int32)) % (420 : Int32))) (4 : Int32))) + ((((0 : Int64) + own_hit ua (5 : Int32)) + own_hit (ub &&& (1023 : Int32)) (5 : Int32)) + own_hit ((190 : Int32) + ((uc &&& (2147483647 : Int32)) % (420 : Int32))) (5 : Int32))) + ((((0 : Int64) + own_hit ua (-1 : Int32)) + own_hit (ub &&& (1023 : Int32)) (-1 : Int32)) + own_hit ((190 : Int32) + ((uc &&& (2147483647 : Int32)) % (420 : Int32))) (-1 : Int32))) = (3 : Int64)))).2) ?_
    show Steps p.tables e below (T_26.setTop (mkF m 226 #[.val (.int ua), .val (.int ub), .val (.int uc), .val (.int ua), .val (.int (ub &&& (1023 : Int32))), .val (.int ((190 : Int32) + ((uc &&& (2147483647 : Int32)) % (420 : Int32)))), .val (.ref b_1), .val (.int (1 : Int32))] [])) target
    refine XS.iconst X_26.here hx rfl (hb hby at_226) ?_
    show Steps p.tables e below (T_26.setTop (mkF m 227 #[.val (.int ua), .val (.int ub), .val (.int uc), .val (.int ua), .val (.int (ub &&& (1023 : Int32))), .val (.int ((190 : Int32) + ((uc &&& (2147483647 : Int32)) % (420 : Int32)))), .val (.ref b_1), .val (.int (1 : Int32))] [(.int (1 : Int32))])) target
    refine XS.goto X_26.here hx rfl (pc0 := 227) (pc' := 231) rfl (hb hby at_227) (by decide) (by decide) ?_
    show Steps p.tables e below (T_26.setTop (mkF m 231 #[.val (.int ua), .val (.int ub), .val (.int uc), .val (.int ua), .val (.int (ub &&& (1023 : Int32))), .val (.int ((190 : Int32) + ((uc &&& (2147483647 : Int32)) % (420 : Int32)))), .val (.ref b_1), .val (.int (1 : Int32))] [(.int (1 : Int32))])) target
    refine XS.istore X_26.here hx rfl (hb hby at_231) rfl (l' := #[.val (.int ua), .val (.int ub), .val (.int uc), .val (.int ua), .val (.int (ub &&& (1023 : Int32))), .val (.int ((190 : Int32) + ((uc &&& (2147483647 : Int32)) % (420 : Int32)))), .val (.ref b_1), .val (.int (1 : Int32))]) rfl ?_
    show Steps p.tables e below (T_26.setTop (mkF m 233 #[.val (.int ua), .val (.int ub), .val (.int uc), .val (.int ua), .val (.int (ub &&& (1023 : Int32))), .val (.int ((190 : Int32) + ((uc &&& (2147483647 : Int32)) % (420 : Int32)))), .val (.ref b_1), .val (.int (1 : Int32))] [])) target
    refine XS.iload X_26.here hx rfl (hb hby at_233) rfl ?_
    show Steps p.tables e below (T_26.setTop (mkF m 235 #[.val (.int ua), .val (.int ub), .val (.int uc), .val (.int ua), .val (.int (ub &&& (1023 : Int32))), .val (.int ((190 : Int32) + ((uc &&& (2147483647 : Int32)) % (420 : Int32)))), .val (.ref b_1), .val (.int (1 : Int32))] [(.int (1 : Int32))])) target
    exact kt
  obtain ⟨fs, hr, hrun, hended, hW, hsame⟩ := X_26.leave (v := some (.int (1 : Int32))) (fun h => by rw [Bd.returns] at h; cases h)
  refine ⟨_, _, retN X_26 hx (t := .boolean) Bd.returns (by simp) (hb hby at_235) hr, hrun, hended, _, _, rfl, ?_, ⟨_, rfl⟩, hW, hsame.mono (by decide) (by decide)⟩
  show Q_law Z ua ub uc h0 n0 _ T_26.heap _
  rw [p_26_0]
  exact ⟨rfl, N_26⟩
set_option maxRecDepth 65536 in
set_option maxHeartbeats 40000000 in
theorem comes_1 {Post : Tables → Env → Array Value → State → Outcome → State → Prop} (hpost : ∀ tb e args s v u, (limb_1_1.after args s (.returned v) u = true ∧ limb_1_2.after args s (.returned v) u = true ∧ True) → FrameEnd s (.returned v) u (Jvm.fieldLocs frame_1_writes args s ++ Jvm.arrayLocs frame_1_arrays args s ++ Jvm.staticLocs frame_1_statics s) 16 128 → Post tb e args s (.returned v) u) :
    ArmFor flags0 classFile x code maxLocals ret World_1 tables_1 room_1 Calls_1 rest_1 Pre_1 Post := by
  intro l hfl _ _ p e ha hc hk s m args below hf hA hF happ hP
  obtain ⟨hcalls, hrest, hpre⟩ := hP
  obtain ⟨-, -, -, hnamed, -, -, -, hat⟩ := (Spec.applies_iff hf).mp happ
  obtain ⟨hg, hn⟩ := and_e (Cond.before_iff.mp (show (Jvm.Cond.and given_1 narrow_1).before args s = true from hpre))
  obtain ⟨gc0, gd0⟩ := and_e hg
  obtain ⟨gc1, gd1⟩ := and_e gd0
  obtain ⟨gc2, gd2⟩ := and_e gd1
  obtain ⟨w0, w1, w2, rfl⟩ : ∃ w0 w1 w2 : Value, args = #[w0, w1, w2] := by
    have hs : args.size = 3 := by simpa [Cond.value, given_1] using gc0
    obtain ⟨L⟩ := args
    match L, hs with
    | [w0, w1, w2], _ => exact ⟨w0, w1, w2, rfl⟩
  have hw := fun d (hd : d ∈ tables_1) => atoms_spec (ws := Jvm.Cond.code x code maxLocals ret :: tables_1) hat d (List.mem_cons_of_mem _ hd)
  obtain ⟨i0, ei0⟩ := is_v gc1
  obtain rfl : w0 = (.int i0) := Option.some.inj ei0
  obtain ⟨i1, ei1⟩ := is_v gc2
  obtain rfl : w1 = (.int i1) := Option.some.inj ei1
  obtain ⟨i2, ei2⟩ := is_v gd2
  obtain rfl : w2 = (.int i2) := Option.some.inj ei2
  obtain ⟨n, o, h1, h2, h3, _, L, rfl, ⟨rfl, N⟩, hq⟩ := rm_law l s _ hw tables_1 i0 i1 i2 s.heap s.heap.size (Nat.le_refl _) p e ha hc hk s m _ below hf ((Spec.applies_iff_loose hf).mp happ).1 ⟨rfl, State.Warmed39.refl s, rfl⟩ trivial
  refine ⟨n, _, h1, h2, h3, hpost _ _ _ _ _ _ ⟨Cond.after_iff.mpr rfl, Cond.after_iff.mpr (eq_i res_at (Term.int_eval (1)) rfl), trivial⟩ ⟨hq.1, hq.2.1, (hq.2.2.sift fun y hy => Or.inr (N y hy)).mono (by decide) (by decide)⟩⟩
theorem main_1_1 : Claimed_1_1 := comes_1 fun _ _ _ _ _ _ h hF => ⟨h.1, hF⟩
theorem main_1_2 : Claimed_1_2 := comes_1 fun _ _ _ _ _ _ h hF => ⟨h.2.1, hF⟩
end Jvm.Pilot.@@N@@
namespace Jvm.Pilot.@@N@@
open Jvm Jvm.ClassFile Sem Op Lib Jvm.Free Jvm.Stand Jvm.Pilot.@@N@@.Jvm.D
/-! MADE BY PROGRAM (witnessworld.py) out of the Statement's table words and the real class files: 11 classes; the members and pool entries that the words name. The judged class is class 1, her method 4. -/
namespace start1
open Jvm.ClassFile
def u (s : String) : CpInfo := .utf8 (stringToUtf16 s)
/-- a pool by its gaps: so many unusable entries, then the entry; so many at the end -/
def gap : Nat → List CpInfo → List CpInfo
  | 0, r => r
  | n + 1, r => .unusable :: gap n r
def poolList (es : List (Nat × CpInfo)) (last : Nat) : List CpInfo := es.foldr (fun e r => gap e.1 (e.2 :: r)) (gap last [])
def pool (es : List (Nat × CpInfo)) (last : Nat) : Array CpInfo := ⟨poolList es last⟩
def fileOf (pool : Array CpInfo) (this : Nat) (attrs : Array Attribute := #[]) (ms : Array MethodInfo := #[]) (fl : Nat := 33) (sup : Nat := 0) (ifs : Array Nat := #[]) (fds : Array FieldInfo := #[]) : ClassFile where
  minorVersion := 0
  majorVersion := 65
  constantPool := pool
  accessFlags := fl
  thisClass := this
  superClass := sup
  interfaces := ifs
  fields := fds
  methods := ms
  attributes := attrs
def plain (name : String) (sup : Option ClassId) : Class where
  name := name
  kind := .ordinary
  loader := none
  accessFlags := 33
  super := sup
  interfaces := #[]
  cf := none
  fields := #[]
  methods := #[]
  instanceTypes := #[]
  staticTypes := #[]
  resolved := #[]
  callSites := []
  init := .initialized
  statics := none
  mirror := none

def pool0 : Array CpInfo := pool [(5, u "<init>"), (0, u "()V"), (1, .class_ 10), (1, u "java/lang/Object")] 113

def k0c0 : Code := { maxStack := 0, maxLocals := 1, code := object_method_1_code, exceptionTable := #[], attributes := #[] }
def k0m0 : Method := { name := "<init>", desc := "()V", sig := { parameters := [], returnType := none }, accessFlags := 1, code := some k0c0 }
/-- java/lang/Object -/
def k0 : Class := { plain "java/lang/Object" none with
  accessFlags := 33
  interfaces := #[]
  cf := some (fileOf pool0 8 #[] #[{ accessFlags := 1, nameIndex := 5, descriptorIndex := 6, attributes := #[] }] 33 0 #[] #[])
  fields := #[]
  methods := #[k0m0]
  instanceTypes := #[]
  staticTypes := #[]
  resolved := Array.replicate 124 none
  statics := none }

def pool1 : Array CpInfo := pool [(2, .class_ 4), (0, .nameAndType 5 6), (0, u "java/lang/Object"), (0, u "<init>"), (0, u "()V"), (0, .methodref 8 9), (0, .class_ 10), (0, .nameAndType 11 12), (0, u "com/example/honeybee/honeybee/crawl/CrawlCountsCountAnswerPinLaw"), (0, u "cls"), (0, u "(I)I"), (0, .methodref 8 14), (0, .nameAndType 15 16), (0, u "hit"), (0, u "(II)J"), (0, .integer 2147483647), (0, .class_ 19), (0, u "com/example/honeybee/honeybee/crawl/CrawlCounts"), (0, .methodref 18 3), (0, .methodref 18 22), (0, .nameAndType 23 24), (0, u "countAnswer"), (0, u "(I)V"), (0, .methodref 18 26), (0, .nameAndType 27 28), (0, u "answered"), (0, u "(I)J"), (0, .methodref 8 30), (0, .nameAndType 31 32), (0, u "expect"), (0, u "(IIII)J"), (0, .methodref 18 34), (0, .nameAndType 35 36), (0, u "failed"), (0, u "()J"), (0, .methodref 18 38), (0, .nameAndType 39 36), (0, u "pages"), (0, .long 3), (4, u "law"), (0, u "(III)Z")] 2

def k1m0 : Method := { name := "<init>", desc := "()V", sig := { parameters := [], returnType := none }, accessFlags := 1, code := none }
def k1c1 : Code := { maxStack := 2, maxLocals := 1, code := method_2_code, exceptionTable := #[], attributes := #[] }
def k1m1 : Method := { name := "cls", desc := "(I)I", sig := { parameters := [.int], returnType := some .int }, accessFlags := 10, code := some k1c1 }
def k1c2 : Code := { maxStack := 2, maxLocals := 2, code := method_3_code, exceptionTable := #[], attributes := #[] }
def k1m2 : Method := { name := "hit", desc := "(II)J", sig := { parameters := [.int, .int], returnType := some .long }, accessFlags := 10, code := some k1c2 }
def k1c3 : Code := { maxStack := 4, maxLocals := 4, code := method_4_code, exceptionTable := #[], attributes := #[] }
def k1m3 : Method := { name := "expect", desc := "(IIII)J", sig := { parameters := [.int, .int, .int, .int], returnType := some .long }, accessFlags := 10, code := some k1c3 }
def k1c4 : Code := { maxStack := 6, maxLocals := 8, code := code, exceptionTable := #[], attributes := #[] }
def k1m4 : Method := { name := "law", desc := "(III)Z", sig := { parameters := [.int, .int, .int], returnType := some .boolean }, accessFlags := 9, code := some k1c4 }
/-- com/example/honeybee/honeybee/crawl/CrawlCountsCountAnswerPinLaw -/
def k1 : Class := { plain "com/example/honeybee/honeybee/crawl/CrawlCountsCountAnswerPinLaw" (some 0) with
  accessFlags := 49
  interfaces := #[]
  cf := some (fileOf pool1 8 #[] #[{ accessFlags := 1, nameIndex := 5, descriptorIndex := 6, attributes := #[] }, { accessFlags := 10, nameIndex := 11, descriptorIndex := 12, attributes := #[] }, { accessFlags := 10, nameIndex := 15, descriptorIndex := 16, attributes := #[] }, { accessFlags := 10, nameIndex := 31, descriptorIndex := 32, attributes := #[] }, { accessFlags := 9, nameIndex := 45, descriptorIndex := 46, attributes := #[] }] 49 2 #[] #[])
  fields := #[]
  methods := #[k1m0, k1m1, k1m2, k1m3, k1m4]
  instanceTypes := #[]
  staticTypes := #[]
  resolved := Array.replicate 49 none
  statics := none }

def pool2 : Array CpInfo := pool [(1, .methodref 2 3), (0, .class_ 4), (0, .nameAndType 5 6), (0, u "java/lang/Object"), (0, u "<init>"), (0, u "()V"), (0, .fieldref 8 9), (0, .class_ 10), (0, .nameAndType 11 12), (0, u "com/example/honeybee/honeybee/crawl/CrawlCounts"), (0, u "byClass"), (0, u "[J"), (0, .fieldref 8 14), (0, .nameAndType 15 16), (0, u "failed"), (0, u "J"), (2, u "duplicates"), (2, u "disallowed"), (2, u "countAnswer"), (0, u "(I)V"), (4, u "pages"), (0, u "()J"), (0, u "answered"), (0, u "(I)J")] 2

def k2c0 : Code := { maxStack := 2, maxLocals := 1, code := prog_1_method_1_code, exceptionTable := #[], attributes := #[] }
def k2m0 : Method := { name := "<init>", desc := "()V", sig := { parameters := [], returnType := none }, accessFlags := 1, code := some k2c0 }
def k2c1 : Code := { maxStack := 6, maxLocals := 2, code := prog_1_method_2_code, exceptionTable := #[], attributes := #[] }
def k2m1 : Method := { name := "countAnswer", desc := "(I)V", sig := { parameters := [.int], returnType := none }, accessFlags := 0, code := some k2c1 }
def k2c2 : Code := { maxStack := 4, maxLocals := 1, code := prog_1_method_6_code, exceptionTable := #[], attributes := #[] }
def k2m2 : Method := { name := "pages", desc := "()J", sig := { parameters := [], returnType := some .long }, accessFlags := 1, code := some k2c2 }
def k2c3 : Code := { maxStack := 2, maxLocals := 2, code := prog_1_method_7_code, exceptionTable := #[], attributes := #[] }
def k2m3 : Method := { name := "answered", desc := "(I)J", sig := { parameters := [.int], returnType := some .long }, accessFlags := 1, code := some k2c3 }
def k2c4 : Code := { maxStack := 2, maxLocals := 1, code := prog_1_method_8_code, exceptionTable := #[], attributes := #[] }
def k2m4 : Method := { name := "failed", desc := "()J", sig := { parameters := [], returnType := some .long }, accessFlags := 1, code := some k2c4 }
/-- com/example/honeybee/honeybee/crawl/CrawlCounts -/
def k2 : Class := { plain "com/example/honeybee/honeybee/crawl/CrawlCounts" (some 0) with
  accessFlags := 49
  interfaces := #[]
  cf := some (fileOf pool2 8 #[] #[{ accessFlags := 1, nameIndex := 5, descriptorIndex := 6, attributes := #[] }, { accessFlags := 0, nameIndex := 25, descriptorIndex := 26, attributes := #[] }, { accessFlags := 1, nameIndex := 31, descriptorIndex := 32, attributes := #[] }, { accessFlags := 1, nameIndex := 33, descriptorIndex := 34, attributes := #[] }, { accessFlags := 1, nameIndex := 15, descriptorIndex := 32, attributes := #[] }] 49 2 #[] #[{ accessFlags := 18, nameIndex := 11, descriptorIndex := 12, attributes := #[] }, { accessFlags := 2, nameIndex := 15, descriptorIndex := 16, attributes := #[] }, { accessFlags := 2, nameIndex := 19, descriptorIndex := 16, attributes := #[] }, { accessFlags := 2, nameIndex := 22, descriptorIndex := 16, attributes := #[] }])
  fields := #[{ name := "byClass", type := (.array .long), accessFlags := 18, slot := 0, constantValue := 0 }, { name := "failed", type := .long, accessFlags := 2, slot := 1, constantValue := 0 }, { name := "duplicates", type := .long, accessFlags := 2, slot := 2, constantValue := 0 }, { name := "disallowed", type := .long, accessFlags := 2, slot := 3, constantValue := 0 }]
  methods := #[k2m0, k2m1, k2m2, k2m3, k2m4]
  instanceTypes := #[(.array .long), .long, .long, .long]
  staticTypes := #[]
  resolved := Array.replicate 37 none
  statics := none }

def pool3 : Array CpInfo := pool [(1, u "java/lang/Cloneable"), (0, .class_ 1), (0, u "java/lang/Object"), (0, .class_ 3)] 3

/-- java/lang/Cloneable -/
def k3 : Class := { plain "java/lang/Cloneable" (some 0) with
  accessFlags := 1537
  interfaces := #[]
  cf := some (fileOf pool3 2 #[] #[] 1537 4 #[] #[])
  fields := #[]
  methods := #[]
  instanceTypes := #[]
  staticTypes := #[]
  resolved := Array.replicate 8 none
  statics := none }

def pool4 : Array CpInfo := pool [(1, u "java/io/Serializable"), (0, .class_ 1), (0, u "java/lang/Object"), (0, .class_ 3)] 3

/-- java/io/Serializable -/
def k4 : Class := { plain "java/io/Serializable" (some 0) with
  accessFlags := 1537
  interfaces := #[]
  cf := some (fileOf pool4 2 #[] #[] 1537 4 #[] #[])
  fields := #[]
  methods := #[]
  instanceTypes := #[]
  staticTypes := #[]
  resolved := Array.replicate 8 none
  statics := none }

/-- the primitive byte -/
def k5 : Class := { plain "byte" none with kind := .primitive 'B', accessFlags := 0x411 }
/-- [B -/
def k6 : Class := { plain "[B" (some 0) with kind := .array 5 .byte, interfaces := #[3, 4], accessFlags := 1041 }

/-- the primitive int -/
def k7 : Class := { plain "int" none with kind := .primitive 'I', accessFlags := 0x411 }
/-- [I -/
def k8 : Class := { plain "[I" (some 0) with kind := .array 7 .int, interfaces := #[3, 4], accessFlags := 1041 }

/-- the primitive long -/
def k9 : Class := { plain "long" none with kind := .primitive 'J', accessFlags := 0x411 }
/-- [J -/
def k10 : Class := { plain "[J" (some 0) with kind := .array 9 .long, interfaces := #[3, 4], accessFlags := 1041 }

def heap : Heap := #[]
def classes : Array Class := #[k0, k1, k2, k3, k4, k5, k6, k7, k8, k9, k10]
def interned : List (Array UInt16 × Addr) := []
def slotsUsed : Nat := 0
def theMethod : MethodId := ⟨1, 4⟩
def args0 : Array Value := #[.int 5, .int 205, .int 2]
def aboutOver (below : List Frame) : State where
  vm := { classes := classes, interned := interned.toArray }
  heap := heap
  slotsUsed := slotsUsed
  threads := #[{ frames := .invoking theMethod args0 :: below }]
def below0 : List Frame := [.native { method := ⟨0, 0⟩, args := #[] }]
def about1 : State := aboutOver below0
def p0 : Program := .bare "" "" ""
def e0 : Env := launch0.env 0 0 0
theorem w_frames : about1.frames = Frame.invoking theMethod args0 :: below0 := rfl
set_option maxRecDepth 65536 in
theorem w_args : argsFit about1.vm theMethod args0 = true := by decide +kernel
set_option maxRecDepth 65536 in
theorem w_heap : heapFits about1 = true := by decide +kernel
set_option maxRecDepth 65536 in
theorem w_runnable : about1.curStatus? = some .runnable := by decide +kernel
set_option maxRecDepth 65536 in
theorem w_alone : about1.alone = true := by decide +kernel
set_option maxRecDepth 65536 in
theorem w_named : about1.methodNamed? x = some theMethod := by decide +kernel
set_option maxRecDepth 65536 in
theorem w_hears : about1.hears theMethod below0 = true := by decide +kernel
set_option maxRecDepth 65536 in
theorem w_ripe : about1.ripe theMethod args0 below0 = true := by decide +kernel
theorem w_running : about1.status = .running := rfl
set_option maxRecDepth 65536 in
theorem w_room : about1.hasRoom e0.platform room_1 = true :=
  launch0.hasRoom_least _ room_1 (by decide +kernel) (by decide +kernel) (by decide +kernel) (by decide +kernel) (by decide +kernel) (by decide +kernel)
theorem allAtoms_all (ts : List Jvm.Cond) (a : Array Jvm.Value) (st : Jvm.State) : (allAtoms ts).before a st = ts.all (fun c => c.before a st) := by
  induction ts with
  | nil => rfl
  | cons c t ih =>
    show (Jvm.Cond.and c (allAtoms t)).before a st = _
    rw [Jvm.Cond.before_and, ih, List.all_cons]
def words1 : List Jvm.Cond := Jvm.Cond.code x code maxLocals ret :: tables_1
/-- a 'code' word, met by the world's own term for the bytes: nothing is compared byte by byte -/
theorem code_word {y : MethodName} {bytes : ByteArray} {mx : Nat} {rt : Option FieldType} {a : Array Value} {s : State} {m : MethodId} {meth : Method} {c : Code} (h1 : s.methodNamed? y = some m) (h2 : s.vm.method? m = some meth) (h3 : meth.code = some c) (h4 : c.code = bytes)
    (h5 : (c.maxLocals == mx && c.exceptionTable.isEmpty && decide (c.maxStack ≤ mostOperands) && decide (meth.sig.returnType = rt) && !meth.locks && decide (parseMethodDescriptor y.desc = some meth.sig)) = true) : (Jvm.Cond.code y bytes mx rt).before a s = true := by
  simp only [Bool.and_eq_true, beq_iff_eq, Bool.not_eq_true', decide_eq_true_eq] at h5
  obtain ⟨⟨⟨⟨⟨g1, g2⟩, g3⟩, g4⟩, g5⟩, g6⟩ := h5
  simp [Cond.before, Cond.holds, Cond.value, h1, h2, h3, h4, g1, g2, g3, g4, g5, g6]
def isCode : Jvm.Cond → Bool
  | .code _ _ _ _ => true
  | _ => false
theorem all_split {L : List Jvm.Cond} {P : Jvm.Cond → Bool} (h1 : L.all (fun c => isCode c || P c) = true) (h2 : ∀ c ∈ L.filter isCode, P c = true) : L.all P = true := by
  refine List.all_eq_true.mpr fun c hc => ?_
  have h := List.all_eq_true.mp h1 c hc
  rcases Bool.eq_false_or_eq_true (isCode c) with hi | hi
  · exact h2 c (List.mem_filter.mpr ⟨hc, hi⟩)
  · simpa [hi] using h
set_option maxRecDepth 65536 in
theorem w_c0 : (Jvm.Cond.code x code maxLocals ret).before args0 about1 = true := code_word (m := ⟨1, 4⟩) (meth := k1m4) (c := k1c4) (by decide +kernel) rfl rfl rfl (by decide +kernel)
set_option maxRecDepth 65536 in
theorem w_c1 : (Jvm.Cond.code ({ cls := "com/example/honeybee/honeybee/crawl/CrawlCounts", name := "<init>", desc := "()V" } : Jvm.MethodName) prog_1_method_1_code (1 : Nat) (Option.none : Option Jvm.ClassFile.FieldType)).before args0 about1 = true := code_word (m := ⟨2, 0⟩) (meth := k2m0) (c := k2c0) (by decide +kernel) rfl rfl rfl (by decide +kernel)
set_option maxRecDepth 65536 in
theorem w_c2 : (Jvm.Cond.code ({ cls := "java/lang/Object", name := "<init>", desc := "()V" } : Jvm.MethodName) object_method_1_code (1 : Nat) (Option.none : Option Jvm.ClassFile.FieldType)).before args0 about1 = true := code_word (m := ⟨0, 0⟩) (meth := k0m0) (c := k0c0) (by decide +kernel) rfl rfl rfl (by decide +kernel)
set_option maxRecDepth 65536 in
theorem w_c3 : (Jvm.Cond.code ({ cls := "com/example/honeybee/honeybee/crawl/CrawlCounts", name := "countAnswer", desc := "(I)V" } : Jvm.MethodName) prog_1_method_2_code (2 : Nat) (Option.none : Option Jvm.ClassFile.FieldType)).before args0 about1 = true := code_word (m := ⟨2, 1⟩) (meth := k2m1) (c := k2c1) (by decide +kernel) rfl rfl rfl (by decide +kernel)
set_option maxRecDepth 65536 in
theorem w_c4 : (Jvm.Cond.code ({ cls := "com/example/honeybee/honeybee/crawl/CrawlCounts", name := "answered", desc := "(I)J" } : Jvm.MethodName) prog_1_method_7_code (2 : Nat) (Option.some Jvm.ClassFile.FieldType.long)).before args0 about1 = true := code_word (m := ⟨2, 3⟩) (meth := k2m3) (c := k2c3) (by decide +kernel) rfl rfl rfl (by decide +kernel)
set_option maxRecDepth 65536 in
theorem w_c5 : (Jvm.Cond.code ({ cls := "com/example/honeybee/honeybee/crawl/CrawlCountsCountAnswerPinLaw", name := "expect", desc := "(IIII)J" } : Jvm.MethodName) method_4_code (4 : Nat) (Option.some Jvm.ClassFile.FieldType.long)).before args0 about1 = true := code_word (m := ⟨1, 3⟩) (meth := k1m3) (c := k1c3) (by decide +kernel) rfl rfl rfl (by decide +kernel)
set_option maxRecDepth 65536 in
theorem w_c6 : (Jvm.Cond.code ({ cls := "com/example/honeybee/honeybee/crawl/CrawlCountsCountAnswerPinLaw", name := "hit", desc := "(II)J" } : Jvm.MethodName) method_3_code (2 : Nat) (Option.some Jvm.ClassFile.FieldType.long)).before args0 about1 = true := code_word (m := ⟨1, 2⟩) (meth := k1m2) (c := k1c2) (by decide +kernel) rfl rfl rfl (by decide +kernel)
set_option maxRecDepth 65536 in
theorem w_c7 : (Jvm.Cond.code ({ cls := "com/example/honeybee/honeybee/crawl/CrawlCountsCountAnswerPinLaw", name := "cls", desc := "(I)I" } : Jvm.MethodName) method_2_code (1 : Nat) (Option.some Jvm.ClassFile.FieldType.int)).before args0 about1 = true := code_word (m := ⟨1, 1⟩) (meth := k1m1) (c := k1c1) (by decide +kernel) rfl rfl rfl (by decide +kernel)
set_option maxRecDepth 65536 in
theorem w_c8 : (Jvm.Cond.code ({ cls := "com/example/honeybee/honeybee/crawl/CrawlCounts", name := "failed", desc := "()J" } : Jvm.MethodName) prog_1_method_8_code (1 : Nat) (Option.some Jvm.ClassFile.FieldType.long)).before args0 about1 = true := code_word (m := ⟨2, 4⟩) (meth := k2m4) (c := k2c4) (by decide +kernel) rfl rfl rfl (by decide +kernel)
set_option maxRecDepth 65536 in
theorem w_c9 : (Jvm.Cond.code ({ cls := "com/example/honeybee/honeybee/crawl/CrawlCounts", name := "pages", desc := "()J" } : Jvm.MethodName) prog_1_method_6_code (1 : Nat) (Option.some Jvm.ClassFile.FieldType.long)).before args0 about1 = true := code_word (m := ⟨2, 2⟩) (meth := k2m2) (c := k2c2) (by decide +kernel) rfl rfl rfl (by decide +kernel)
def codes1 : List Jvm.Cond := [Jvm.Cond.code x code maxLocals ret, Jvm.Cond.code ({ cls := "com/example/honeybee/honeybee/crawl/CrawlCounts", name := "<init>", desc := "()V" } : Jvm.MethodName) prog_1_method_1_code (1 : Nat) (Option.none : Option Jvm.ClassFile.FieldType), Jvm.Cond.code ({ cls := "java/lang/Object", name := "<init>", desc := "()V" } : Jvm.MethodName) object_method_1_code (1 : Nat) (Option.none : Option Jvm.ClassFile.FieldType), Jvm.Cond.code ({ cls := "com/example/honeybee/honeybee/crawl/CrawlCounts", name := "countAnswer", desc := "(I)V" } : Jvm.MethodName) prog_1_method_2_code (2 : Nat) (Option.none : Option Jvm.ClassFile.FieldType), Jvm.Cond.code ({ cls := "com/example/honeybee/honeybee/crawl/CrawlCounts", name := "answered", desc := "(I)J" } : Jvm.MethodName) prog_1_method_7_code (2 : Nat) (Option.some Jvm.ClassFile.FieldType.long), Jvm.Cond.code ({ cls := "com/example/honeybee/honeybee/crawl/CrawlCountsCountAnswerPinLaw", name := "expect", desc := "(IIII)J" } : Jvm.MethodName) method_4_code (4 : Nat) (Option.some Jvm.ClassFile.FieldType.long), Jvm.Cond.code ({ cls := "com/example/honeybee/honeybee/crawl/CrawlCountsCountAnswerPinLaw", name := "hit", desc := "(II)J" } : Jvm.MethodName) method_3_code (2 : Nat) (Option.some Jvm.ClassFile.FieldType.long), Jvm.Cond.code ({ cls := "com/example/honeybee/honeybee/crawl/CrawlCountsCountAnswerPinLaw", name := "cls", desc := "(I)I" } : Jvm.MethodName) method_2_code (1 : Nat) (Option.some Jvm.ClassFile.FieldType.int), Jvm.Cond.code ({ cls := "com/example/honeybee/honeybee/crawl/CrawlCounts", name := "failed", desc := "()J" } : Jvm.MethodName) prog_1_method_8_code (1 : Nat) (Option.some Jvm.ClassFile.FieldType.long), Jvm.Cond.code ({ cls := "com/example/honeybee/honeybee/crawl/CrawlCounts", name := "pages", desc := "()J" } : Jvm.MethodName) prog_1_method_6_code (1 : Nat) (Option.some Jvm.ClassFile.FieldType.long)]
set_option maxRecDepth 65536 in
theorem codes_eq : words1.filter isCode = codes1 := rfl
theorem w_codes : ∀ c ∈ words1.filter isCode, c.before args0 about1 = true := by
  rw [codes_eq]
  intro c hc
  simp only [codes1, List.mem_cons, List.not_mem_nil, or_false] at hc
  rcases hc with rfl | rfl | rfl | rfl | rfl | rfl | rfl | rfl | rfl | rfl
  · exact w_c0
  · exact w_c1
  · exact w_c2
  · exact w_c3
  · exact w_c4
  · exact w_c5
  · exact w_c6
  · exact w_c7
  · exact w_c8
  · exact w_c9
set_option maxRecDepth 65536 in
theorem w_t1 : (words1.take 24).all (fun c => isCode c || c.before args0 about1) = true := by decide +kernel
set_option maxRecDepth 65536 in
theorem w_t2 : (words1.drop 24).all (fun c => isCode c || c.before args0 about1) = true := by decide +kernel
theorem w_tables : (allAtoms (Jvm.Cond.code x code maxLocals ret :: tables_1)).before args0 about1 = true := by
  rw [allAtoms_all]
  show words1.all (fun c => c.before args0 about1) = true
  refine all_split ?_ w_codes
  rw [← List.take_append_drop 24 words1, List.all_append, w_t1, w_t2]
  rfl
set_option maxRecDepth 65536 in
theorem w_case : (Jvm.Cond.and given_1 narrow_1).before args0 about1 = true := by decide +kernel
theorem w_applies : (headSpec (Jvm.Cond.code x code maxLocals ret :: tables_1) room_1).applies x e0.platform about1 = true :=
  (Spec.applies_iff w_frames).mpr ⟨w_running, w_runnable, w_alone, w_named, w_hears, w_ripe, w_room, w_tables⟩
theorem atStart : AtStart classFile x code maxLocals ret World_1 tables_1 room_1 Calls_1 rest_1 Pre_1 launch0 p0 e0 about1 theMethod args0 below0 :=
  ⟨lists_1, trivial, launch0.admits_env _ _ _, launch0.least_env, fairChoices_fair.cas, fairChoices_fair.clock, w_frames, w_args, w_heap, w_applies, trivial, trivial, w_case⟩
end start1
theorem witness_1 : WitnessClaimed_1 := ⟨start1.p0, start1.e0, start1.about1, start1.theMethod, start1.args0, start1.below0, start1.atStart⟩
end Jvm.Pilot.@@N@@
