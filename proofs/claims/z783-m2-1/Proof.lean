import JvmDerived
import JvmDerived.Pilot.@@N@@Statement
import JvmDerived.Pilot.@@N@@Code
set_option linter.unusedVariables false
set_option linter.unusedSimpArgs false
namespace Jvm.RoadKit
open Sem ClassFile Op Lib Jvm.Stand Jvm.Free Jvm.LawKit
section New
variable {p : Program} {l : Launch} {e : Env} {R : Room} {s : State} {m : MethodId} {args : Array Value} {below : List Frame} {meth : Method} {c : Code} {T : State} {locs : List Loc} {cells slots : Nat}
theorem retI (X : Stand p l e R s m args below meth c T locs cells slots) (hx : p.tables.exec = Jvm.exec) {pc : Nat} {Ls : Array Slot} {z : Int32} {rest : List Value} (hret : meth.sig.returnType = some .int) (hd : decode c.code pc = .ok (.ireturn, 1)) {fs : List Frame}
    (hl : ∀ (f : JFrame) (acts : List Action), f.method = m → f.locked = none → f.entered = [] → (doReturn e (T.setTop f) acts (some (.int z))).1 = T.setFrames fs) : Steps p.tables e below (T.setTop (mkF m pc Ls (.int z :: rest))) (T.setFrames fs) := by
  have hm' : T.vm.method? m = some meth := X.method'
  have hn : narrow .int (.int z) = .int z := rfl
  show Steps p.tables e below (T.setTop { method := m, pc := pc, locals := Ls, stack := _ :: rest, locked := none }) _
  jvm_step X.here [X.here.top, hx, hd, hm', hret, hn]
  first | (intro acts; rw [hl _ acts rfl rfl rfl]) | rw [hl _ _ rfl rfl rfl]
  exact Steps.refl _
end New
end Jvm.RoadKit
namespace Jvm.Pilot.@@N@@
open Jvm Jvm.ClassFile Sem Op Lib Jvm.Free Jvm.Stand Jvm.LawKit Jvm.RoadKit Bundle Jvm.Pilot.@@N@@.Jvm.D
def own_G (tb : Tables) (e : Env) (below : List Frame) (P : State → Outcome → Prop) (S : State) : Prop := ∃ t o, Steps tb e below S t ∧ P t o
theorem own_in {tb : Tables} {e : Env} {below : List Frame} {P : State → Outcome → Prop} {S : State} (h : own_G tb e below P S) : ∃ t o, Steps tb e below S t ∧ P t o := h
theorem own_go {tb : Tables} {e : Env} {below : List Frame} {P : State → Outcome → Prop} {S S' : State} (f : ∀ t, Steps tb e below S' t → Steps tb e below S t) (h : own_G tb e below P S') : own_G tb e below P S := by
  obtain ⟨t, o, st, hp⟩ := h
  exact ⟨t, o, f t st, hp⟩
theorem own_join {α : Type} {tb : Tables} {e : Env} {below : List Frame} {P : State → Outcome → Prop} {S : State} (C : α → Prop) (F : α → State) (J : ∀ a, C a → own_G tb e below P (F a)) (M : (∀ a, C a → own_G tb e below P (F a)) → own_G tb e below P S) : own_G tb e below P S := M J
theorem own_loop {α : Type} {tb : Tables} {e : Env} {below : List Frame} {P : State → Outcome → Prop} {S : State} (mu : α → Nat) (C : α → Prop) (F : α → State) (J : ∀ a, C a → (∀ b, C b → mu b < mu a → own_G tb e below P (F b)) → own_G tb e below P (F a)) (M : (∀ a, C a → own_G tb e below P (F a)) → own_G tb e below P S) : own_G tb e below P S := by
  apply M
  have q : ∀ n a, mu a < n → C a → own_G tb e below P (F a) := by
    intro n
    induction n with
    | zero => intro a h; exact absurd h (Nat.not_lt_zero _)
    | succ n ih => intro a h ha; exact J a ha fun b hb hlt => ih b (by omega) hb
  exact fun a ha => q _ a (Nat.lt_succ_self _) ha
theorem own_l1 {a b : Int64} (h : a = b) : lcmpW a b = 0 := by subst h; simp [lcmpW]
theorem own_l2 {a b : Int64} (h : ¬ a = b) : ¬ lcmpW a b = 0 := by
  unfold lcmpW; split
  · decide
  · first | (rw [if_neg h]; decide) | decide
theorem own_l3 {a b : Int64} (h : a < b) : lcmpW a b < 0 := by
  have h1 : ¬ a > b := Int64.not_lt.mpr (Int64.le_of_lt h)
  have h2 : ¬ a = b := fun q => by subst q; exact Int64.lt_irrefl h
  unfold lcmpW; rw [if_neg h1, if_neg h2]; decide
theorem own_l4 {a b : Int64} (h : ¬ a < b) : ¬ lcmpW a b < 0 := by
  unfold lcmpW; split
  · decide
  · split
    · decide
    · rename_i h1 h2
      rw [gt_iff_lt, Int64.lt_iff_toInt_lt] at h1; rw [Int64.lt_iff_toInt_lt] at h; rw [← Int64.toInt_inj] at h2; omega
theorem own_l5 {a b : Int64} (h : b < a) : 0 < lcmpW a b := by unfold lcmpW; rw [if_pos h]; decide
theorem own_l6 {a b : Int64} (h : ¬ b < a) : ¬ 0 < lcmpW a b := by
  unfold lcmpW; rw [if_neg h]; split <;> decide
def own_cls (p : Int32) : Int32 := if p < (200 : Int32) then (-1 : Int32) else if (599 : Int32) < p then (-1 : Int32) else if p < (300 : Int32) then (2 : Int32) else if p < (400 : Int32) then (3 : Int32) else if p < (500 : Int32) then (4 : Int32) else (5 : Int32)
def own_hit (p k : Int32) : Int64 := if own_cls p = k then 1 else 0
theorem own_hits {p c : Int32} (h : own_cls p = c) (k : Int32) : own_hit p k = if c = k then 1 else 0 := by unfold own_hit; rw [h]
theorem own_out {p : Int32} (h : p < (200 : Int32) ∨ (599 : Int32) < p) : own_hit p (2 : Int32) = 0 ∧ own_hit p (3 : Int32) = 0 ∧ own_hit p (4 : Int32) = 0 ∧ own_hit p (5 : Int32) = 0 ∧ own_hit p (-1 : Int32) = 1 := by
  have e : own_cls p = (-1 : Int32) := by
    unfold own_cls
    by_cases h1 : p < (200 : Int32)
    · rw [if_pos h1]
    · rw [if_neg h1, if_pos (h.resolve_left h1)]
  simp only [own_hits e]
  decide
theorem own_div {p : Int32} (h1 : ¬ p < (200 : Int32)) (h2 : ¬ (599 : Int32) < p) :
    (p / (100 : Int32) = (2 : Int32) ∧ own_hit p (2 : Int32) = 1 ∧ own_hit p (3 : Int32) = 0 ∧ own_hit p (4 : Int32) = 0 ∧ own_hit p (5 : Int32) = 0 ∧ own_hit p (-1 : Int32) = 0) ∨
    (p / (100 : Int32) = (3 : Int32) ∧ own_hit p (2 : Int32) = 0 ∧ own_hit p (3 : Int32) = 1 ∧ own_hit p (4 : Int32) = 0 ∧ own_hit p (5 : Int32) = 0 ∧ own_hit p (-1 : Int32) = 0) ∨
    (p / (100 : Int32) = (4 : Int32) ∧ own_hit p (2 : Int32) = 0 ∧ own_hit p (3 : Int32) = 0 ∧ own_hit p (4 : Int32) = 1 ∧ own_hit p (5 : Int32) = 0 ∧ own_hit p (-1 : Int32) = 0) ∨
    (p / (100 : Int32) = (5 : Int32) ∧ own_hit p (2 : Int32) = 0 ∧ own_hit p (3 : Int32) = 0 ∧ own_hit p (4 : Int32) = 0 ∧ own_hit p (5 : Int32) = 1 ∧ own_hit p (-1 : Int32) = 0) := by
  have i1 : ¬ p.toInt < 200 := fun q => h1 (Int32.lt_iff_toInt_lt.mpr q)
  have i2 : ¬ 599 < p.toInt := fun q => h2 (Int32.lt_iff_toInt_lt.mpr q)
  have ed : (p / (100 : Int32)).toInt = p.toInt / 100 := by
    rw [Int32.toInt_div_of_ne_right p (100 : Int32) (by decide), show (100 : Int32).toInt = 100 from rfl, Int.tdiv_eq_ediv_of_nonneg (by omega)]
  have fin : ∀ c : Int32, own_cls p = c → p.toInt / 100 = c.toInt → p / (100 : Int32) = c := fun c _ q => Int32.toInt_inj.mp (ed.trans q)
  by_cases h3 : p < (300 : Int32)
  · have e : own_cls p = (2 : Int32) := by unfold own_cls; rw [if_neg h1, if_neg h2, if_pos h3]
    have i3 : p.toInt < 300 := Int32.lt_iff_toInt_lt.mp h3
    refine Or.inl ⟨fin _ e (by show _ = (2 : Int); omega), ?_⟩
    simp only [own_hits e]; decide
  · have i3 : ¬ p.toInt < 300 := fun q => h3 (Int32.lt_iff_toInt_lt.mpr q)
    by_cases h4 : p < (400 : Int32)
    · have e : own_cls p = (3 : Int32) := by unfold own_cls; rw [if_neg h1, if_neg h2, if_neg h3, if_pos h4]
      have i4 : p.toInt < 400 := Int32.lt_iff_toInt_lt.mp h4
      refine Or.inr (Or.inl ⟨fin _ e (by show _ = (3 : Int); omega), ?_⟩)
      simp only [own_hits e]; decide
    · have i4 : ¬ p.toInt < 400 := fun q => h4 (Int32.lt_iff_toInt_lt.mpr q)
      by_cases h5 : p < (500 : Int32)
      · have e : own_cls p = (4 : Int32) := by unfold own_cls; rw [if_neg h1, if_neg h2, if_neg h3, if_neg h4, if_pos h5]
        have i5 : p.toInt < 500 := Int32.lt_iff_toInt_lt.mp h5
        refine Or.inr (Or.inr (Or.inl ⟨fin _ e (by show _ = (4 : Int); omega), ?_⟩))
        simp only [own_hits e]; decide
      · have i5 : ¬ p.toInt < 500 := fun q => h5 (Int32.lt_iff_toInt_lt.mpr q)
        have e : own_cls p = (5 : Int32) := by unfold own_cls; rw [if_neg h1, if_neg h2, if_neg h3, if_neg h4, if_neg h5]
        refine Or.inr (Or.inr (Or.inr ⟨fin _ e (by show _ = (5 : Int); omega), ?_⟩))
        simp only [own_hits e]; decide
theorem own_one (p : Int32) : own_hit p (2 : Int32) + own_hit p (3 : Int32) + own_hit p (4 : Int32) + own_hit p (5 : Int32) + own_hit p (-1 : Int32) = 1 := by
  by_cases h1 : p < (200 : Int32)
  · obtain ⟨e2, e3, e4, e5, em⟩ := own_out (p := p) (Or.inl h1); rw [e2, e3, e4, e5, em]; decide
  · by_cases h2 : (599 : Int32) < p
    · obtain ⟨e2, e3, e4, e5, em⟩ := own_out (p := p) (Or.inr h2); rw [e2, e3, e4, e5, em]; decide
    · rcases own_div h1 h2 with ⟨-, e2, e3, e4, e5, em⟩ | ⟨-, e2, e3, e4, e5, em⟩ | ⟨-, e2, e3, e4, e5, em⟩ | ⟨-, e2, e3, e4, e5, em⟩ <;> rw [e2, e3, e4, e5, em] <;> decide
theorem own_mix3 (a2 a3 a4 a5 am b2 b3 b4 b5 bm c2 c3 c4 c5 cm : Int64) : ((((0 + a2 + b2 + c2) + (0 + a3 + b3 + c3)) + (0 + a4 + b4 + c4)) + (0 + a5 + b5 + c5)) + (0 + am + bm + cm) = (a2 + a3 + a4 + a5 + am) + (b2 + b3 + b4 + b5 + bm) + (c2 + c3 + c4 + c5 + cm) := by
  simp only [Int64.zero_add]
  ac_rfl
theorem own_pages (a b c : Int32) : ((((0 + own_hit a (2 : Int32) + own_hit b (2 : Int32) + own_hit c (2 : Int32)) + (0 + own_hit a (3 : Int32) + own_hit b (3 : Int32) + own_hit c (3 : Int32))) + (0 + own_hit a (4 : Int32) + own_hit b (4 : Int32) + own_hit c (4 : Int32))) + (0 + own_hit a (5 : Int32) + own_hit b (5 : Int32) + own_hit c (5 : Int32))) + (0 + own_hit a (-1 : Int32) + own_hit b (-1 : Int32) + own_hit c (-1 : Int32)) = (3 : Int64) := by
  rw [own_mix3, own_one, own_one, own_one]; decide
theorem own_pages1 (a b c : Int32) : ((((0 + own_hit a (2 : Int32) + own_hit b (2 : Int32) + own_hit c (2 : Int32)) + (0 + own_hit a (3 : Int32) + own_hit b (3 : Int32) + own_hit c (3 : Int32))) + (0 + own_hit a (4 : Int32) + own_hit b (4 : Int32) + own_hit c (4 : Int32))) + (0 + own_hit a (5 : Int32) + own_hit b (5 : Int32) + own_hit c (5 : Int32))) + ((0 + own_hit a (-1 : Int32) + own_hit b (-1 : Int32) + own_hit c (-1 : Int32)) + (1 : Int64)) = (3 : Int64) + (1 : Int64) := by
  rw [← Int64.add_assoc _ _ (1 : Int64), own_pages]
theorem pd__J : parseMethodDescriptor "()J" = some ⟨[], some .long⟩ := by decide +kernel
theorem pd__V : parseMethodDescriptor "()V" = some ⟨[], none⟩ := by decide +kernel
theorem pd_I_V : parseMethodDescriptor "(I)V" = some ⟨[.int], none⟩ := by decide +kernel
-- com/example/honeybee/honeybee/crawl/CrawlCounts.<init>:()V
theorem d_ci_0 : decode prog_1_method_1_code 0 = .ok (.aload_n 0, 1) := by decide +kernel
theorem d_ci_1 : decode prog_1_method_1_code 1 = .ok (.invokespecial 1, 3) := by decide +kernel
theorem d_ci_4 : decode prog_1_method_1_code 4 = .ok (.aload_n 0, 1) := by decide +kernel
theorem d_ci_5 : decode prog_1_method_1_code 5 = .ok (.bipush 6, 2) := by decide +kernel
theorem d_ci_7 : decode prog_1_method_1_code 7 = .ok (.newarray .long, 2) := by decide +kernel
theorem d_ci_9 : decode prog_1_method_1_code 9 = .ok (.putfield 7, 3) := by decide +kernel
theorem d_ci_12 : decode prog_1_method_1_code 12 = .ok (.return_, 1) := by decide +kernel
theorem pn_ci : plainName "com/example/honeybee/honeybee/crawl/CrawlCounts" = true := by first | (simp [plainName, overriddenIn]; done) | decide +kernel
theorem ef_ci (m : MethodId) (a1 : Addr) : entryFrame m #[(.ref a1)] 1 = mkF m 0 #[.val (.ref a1)] [] := by first | (simp [entryFrame, mkF, argsToLocals, Value.category]; done) | rfl
def Q_ci (Z : State) (a1 : Addr) (h0 : Heap) (n0 : Nat) (v : Option Value) (h : Heap) (L : List Loc) : Prop := ∃ (b : Addr), ∃ (k : ClassId), v = none ∧ Fr n0 L ∧ Keep h0 h [a1] ∧ Exa Z h a1 "com/example/honeybee/honeybee/crawl/CrawlCounts" ∧ Fld Z h a1 "com/example/honeybee/honeybee/crawl/CrawlCounts" "byClass" "[J" (.ref b) ∧ Fld Z h a1 "com/example/honeybee/honeybee/crawl/CrawlCounts" "failed" "J" (.long (0 : Int64)) ∧ Fld Z h a1 "com/example/honeybee/honeybee/crawl/CrawlCounts" "duplicates" "J" (.long (0 : Int64)) ∧ Fld Z h a1 "com/example/honeybee/honeybee/crawl/CrawlCounts" "disallowed" "J" (.long (0 : Int64)) ∧ h0.size ≤ b ∧ a1 ≠ b ∧ Arv Z h b k .long (6 : Int32) [(.long (0 : Int64)), (.long (0 : Int64)), (.long (0 : Int64)), (.long (0 : Int64)), (.long (0 : Int64)), (.long (0 : Int64))] (.long (0 : Int64))
set_option maxRecDepth 65536 in
set_option maxHeartbeats 40000000 in
theorem rm_ci (l : Launch) (Z : State) (a0 : Array Value) (hw : ∀ d ∈ tables_1, d.before a0 Z = true) (ws : List Jvm.Cond) (a1 : Addr) (h0 : Heap) (n0 : Nat) (Z0 : n0 ≤ h0.size) (E1 : Exa Z h0 a1 "com/example/honeybee/honeybee/crawl/CrawlCounts") (F1 : Fld Z h0 a1 "com/example/honeybee/honeybee/crawl/CrawlCounts" "byClass" "[J" .null) (F2 : Fld Z h0 a1 "com/example/honeybee/honeybee/crawl/CrawlCounts" "failed" "J" (.long (0 : Int64))) (F3 : Fld Z h0 a1 "com/example/honeybee/honeybee/crawl/CrawlCounts" "duplicates" "J" (.long (0 : Int64))) (F4 : Fld Z h0 a1 "com/example/honeybee/honeybee/crawl/CrawlCounts" "disallowed" "J" (.long (0 : Int64))) (g1 : n0 ≤ a1) :
    MetFree l (⟨"com/example/honeybee/honeybee/crawl/CrawlCounts", "<init>", "()V"⟩ : MethodName) (head1 (Jvm.Cond.code (⟨"com/example/honeybee/honeybee/crawl/CrawlCounts", "<init>", "()V"⟩ : MethodName) prog_1_method_1_code 1 none :: ws) ({ frames := 1, cells := 1, slots := 6, locals := 12 } : Room)) (fun a U => a = #[(.ref a1)] ∧ Z.Warmed39 U.vm ∧ U.heap = h0) (fun _ _ _ _ _ => True) (fun _ U o U' => ∃ v L, o = .returned v ∧ Q_ci Z a1 h0 n0 v U'.heap L ∧ FrameEnd U o U' L ({ frames := 1, cells := 1, slots := 6, locals := 12 } : Room).cells ({ frames := 1, cells := 1, slots := 6, locals := 12 } : Room).slots) := by
  refine MetFree.of_bodySF (plainFor_of_name pn_ci) hisR ?_
  intro p e s m args below meth c s₁ Bd hml0 hP hK
  obtain ⟨rfl, hZ, hh⟩ := hP
  have hx := Bd.exec
  have hby := Bd.bytes
  have hml : c.maxLocals = 1 := hml0
  have hown : s.vm.findClass "com/example/honeybee/honeybee/crawl/CrawlCounts" = some m.cls := findClass_of_methodNamed Bd.named
  have hnm := (name_of_methodNamed Bd.named Bd.method).1
  have X0 : Stand p l e ({ frames := 1, cells := 1, slots := 6, locals := 12 } : Room) s m #[(.ref a1)] below meth c s₁ [] 0 0 := Stand.of_body Bd
  have e0 : s₁.heap = h0 := by rw [← hh, Bd.state]; rfl
  have N0 := Fr.nil n0
  refine own_in ?_
  refine own_go (S' := s₁.setTop (mkF m 0 #[.val (.ref a1)] [])) (fun tgt_ stp_ => castTop (ef_ci m a1) stp_) ?_
  have K0 : Keep h0 h0 [a1] := Keep.refl h0 _
  obtain ⟨T_1, X_1, e_1, st_1⟩ := initO X0 hx hZ hown (hw _ (List.mem_of_getElem? (i := 6) rfl)) (hw _ (List.mem_of_getElem? (i := 7) rfl)) (hw _ (List.mem_of_getElem? (i := 8) rfl)) e0 (g := (mkF m 1 #[.val (.ref a1)] [(.ref a1)])) rfl (by rw [hml]; rfl) rfl (hb hby d_ci_1) (by decide) (W := 0) (by show 2 * 0 + _ ≤ _; exact Nat.le_of_eq rfl) (by decide)
  obtain ⟨T_2, h_2, k_2, X_2, e_2, E_2, A_2, st_2⟩ := newP X_1 hx hZ (hw _ (List.mem_of_getElem? (i := 9) rfl)) e_1 (g := (mkF m 7 #[.val (.ref a1)] [(.int (6 : Int32)), (.ref a1)])) rfl (hb hby d_ci_7) rfl (by decide) (cap := 6) (by decide) (by decide) (by decide) (by decide)
  obtain ⟨b_2, g_2⟩ : ∃ z, z = h0.size := ⟨_, rfl⟩
  rw [← g_2] at A_2 st_2
  have gn_b_2 : n0 ≤ b_2 := Nat.le_trans Z0 (Nat.le_of_eq g_2.symm)
  have sz_b_2 : h0.size ≤ b_2 := Nat.le_trans K0.1 (Nat.le_of_eq g_2.symm)
  have ne_a1_b_2 : a1 ≠ b_2 := Nat.ne_of_lt (Nat.lt_of_lt_of_le E1.lt (Nat.le_of_eq g_2.symm))
  have V_2 : Arv Z h_2 b_2 k_2 .long (6 : Int32) [(.long (0 : Int64)), (.long (0 : Int64)), (.long (0 : Int64)), (.long (0 : Int64)), (.long (0 : Int64)), (.long (0 : Int64))] (.long (0 : Int64)) := (Arv.new A_2 (by decide)).pad (pad_rep [] (.long (0 : Int64)) 6)
  have Z_3 : n0 ≤ h_2.size := Nat.le_trans Z0 E_2.1
  have K_4 : Keep h0 h_2 [a1] := K0.ext E_2
  have f_5 := (E1.ext E_2)
  have f_6 := (F1.ext E_2)
  obtain ⟨T_7, h_7, X_7, e_7, W_7, st_7⟩ := putF X_2 hx hZ hown (host := "") (Or.inl (hw _ (List.mem_of_getElem? (i := 10) rfl))) Via.refl e_2 f_6 f_5 (Or.inr ⟨(hw _ (List.mem_of_getElem? (i := 11) rfl)), rfl, hnm⟩) (hw _ (List.mem_of_getElem? (i := 1) rfl)) (ty := (.array .long)) (by decide) rfl rfl (g := (mkF m 9 #[.val (.ref a1)] [(.ref b_2), (.ref a1)])) rfl rfl (hb hby d_ci_9)
  have N_7 := Fr.snoc X_7 N0 g1
  have F_7 := f_6.same W_7
  have Z_8 : n0 ≤ h_7.size := Nat.le_trans Z_3 (Keep.of_wr W_7).1
  have K_9 : Keep h0 h_7 [a1] := K_4.wr W_7 (Or.inl (List.mem_of_getElem? (i := 0) rfl))
  refine own_go (S' := T_7.setTop (mkF m 12 #[.val (.ref a1)] [])) (fun target kt => ?_) ?_
  · show Steps p.tables e below (s₁.setTop (mkF m 0 #[.val (.ref a1)] [])) target
    refine XS.aloadN X0.here hx rfl (hb hby d_ci_0) rfl rfl ?_
    show Steps p.tables e below (s₁.setTop (mkF m 1 #[.val (.ref a1)] [(.ref a1)])) target
    refine st_1 _ ?_
    show Steps p.tables e below (T_1.setTop (mkF m 4 #[.val (.ref a1)] [])) target
    refine XS.aloadN X_1.here hx rfl (hb hby d_ci_4) rfl rfl ?_
    show Steps p.tables e below (T_1.setTop (mkF m 5 #[.val (.ref a1)] [(.ref a1)])) target
    refine XS.bipush X_1.here hx rfl (hb hby d_ci_5) ?_
    show Steps p.tables e below (T_1.setTop (mkF m 7 #[.val (.ref a1)] [(.int (6 : Int32)), (.ref a1)])) target
    refine st_2 _ ?_
    show Steps p.tables e below (T_2.setTop (mkF m 9 #[.val (.ref a1)] [(.ref b_2), (.ref a1)])) target
    refine st_7 _ ?_
    show Steps p.tables e below (T_7.setTop (mkF m 12 #[.val (.ref a1)] [])) target
    exact kt
  obtain ⟨fs, hr, hrun, hended, hW, hsame⟩ := X_7.leave (v := none) (fun _ => rfl)
  refine ⟨_, _, X_7.returnOut hx Bd.returns (hb hby d_ci_12) hr, hrun, hended, _, _, rfl, ?_, ⟨_, rfl⟩, hW, hsame.mono (by decide) (by decide)⟩
  show Q_ci Z a1 h0 n0 _ T_7.heap _
  rw [e_7]
  have f_10 := (f_5.wr W_7)
  have f_11 := ((F2.ext E_2).other W_7 (Or.inr (slot_ne (Or.inl (hw _ (List.mem_of_getElem? (i := 18) rfl))) (Or.inr (hw _ (List.mem_of_getElem? (i := 11) rfl))) (by decide) (t := .long) (t' := (.array .long)) (by decide) (by decide))))
  have f_12 := ((F3.ext E_2).other W_7 (Or.inr (slot_ne (Or.inl (hw _ (List.mem_of_getElem? (i := 36) rfl))) (Or.inr (hw _ (List.mem_of_getElem? (i := 11) rfl))) (by decide) (t := .long) (t' := (.array .long)) (by decide) (by decide))))
  have f_13 := ((F4.ext E_2).other W_7 (Or.inr (slot_ne (Or.inl (hw _ (List.mem_of_getElem? (i := 43) rfl))) (Or.inr (hw _ (List.mem_of_getElem? (i := 11) rfl))) (by decide) (t := .long) (t' := (.array .long)) (by decide) (by decide))))
  have f_14 := (V_2.other W_7 (Ne.symm ne_a1_b_2))
  exact ⟨b_2, k_2, rfl, N_7, K_9, f_10, F_7, f_11, f_12, f_13, sz_b_2, ne_a1_b_2, f_14⟩
-- com/example/honeybee/honeybee/crawl/CrawlCounts.pages:()J
theorem d_pages_0 : decode prog_1_method_6_code 0 = .ok (.aload_n 0, 1) := by decide +kernel
theorem d_pages_1 : decode prog_1_method_6_code 1 = .ok (.getfield 7, 3) := by decide +kernel
theorem d_pages_4 : decode prog_1_method_6_code 4 = .ok (.iconst 2, 1) := by decide +kernel
theorem d_pages_5 : decode prog_1_method_6_code 5 = .ok (.laload, 1) := by decide +kernel
theorem d_pages_6 : decode prog_1_method_6_code 6 = .ok (.aload_n 0, 1) := by decide +kernel
theorem d_pages_7 : decode prog_1_method_6_code 7 = .ok (.getfield 7, 3) := by decide +kernel
theorem d_pages_10 : decode prog_1_method_6_code 10 = .ok (.iconst 3, 1) := by decide +kernel
theorem d_pages_11 : decode prog_1_method_6_code 11 = .ok (.laload, 1) := by decide +kernel
theorem d_pages_12 : decode prog_1_method_6_code 12 = .ok (.ladd, 1) := by decide +kernel
theorem d_pages_13 : decode prog_1_method_6_code 13 = .ok (.aload_n 0, 1) := by decide +kernel
theorem d_pages_14 : decode prog_1_method_6_code 14 = .ok (.getfield 7, 3) := by decide +kernel
theorem d_pages_17 : decode prog_1_method_6_code 17 = .ok (.iconst 4, 1) := by decide +kernel
theorem d_pages_18 : decode prog_1_method_6_code 18 = .ok (.laload, 1) := by decide +kernel
theorem d_pages_19 : decode prog_1_method_6_code 19 = .ok (.ladd, 1) := by decide +kernel
theorem d_pages_20 : decode prog_1_method_6_code 20 = .ok (.aload_n 0, 1) := by decide +kernel
theorem d_pages_21 : decode prog_1_method_6_code 21 = .ok (.getfield 7, 3) := by decide +kernel
theorem d_pages_24 : decode prog_1_method_6_code 24 = .ok (.iconst 5, 1) := by decide +kernel
theorem d_pages_25 : decode prog_1_method_6_code 25 = .ok (.laload, 1) := by decide +kernel
theorem d_pages_26 : decode prog_1_method_6_code 26 = .ok (.ladd, 1) := by decide +kernel
theorem d_pages_27 : decode prog_1_method_6_code 27 = .ok (.aload_n 0, 1) := by decide +kernel
theorem d_pages_28 : decode prog_1_method_6_code 28 = .ok (.getfield 13, 3) := by decide +kernel
theorem d_pages_31 : decode prog_1_method_6_code 31 = .ok (.ladd, 1) := by decide +kernel
theorem d_pages_32 : decode prog_1_method_6_code 32 = .ok (.lreturn, 1) := by decide +kernel
theorem pn_pages : plainName "com/example/honeybee/honeybee/crawl/CrawlCounts" = true := by first | (simp [plainName, overriddenIn]; done) | decide +kernel
theorem ef_pages (m : MethodId) (a1 : Addr) : entryFrame m #[(.ref a1)] 1 = mkF m 0 #[.val (.ref a1)] [] := by first | (simp [entryFrame, mkF, argsToLocals, Value.category]; done) | rfl
def Q_pages (Z : State) (a1 : Addr) (b : Addr) (k : ClassId) (v0 : Int64) (v1 : Int64) (v2 : Int64) (v3 : Int64) (v4 : Int64) (v5 : Int64) (f1 : Int64) (h0 : Heap) (n0 : Nat) (v : Option Value) (h : Heap) (L : List Loc) : Prop := v = some (.long ((((v2 + v3) + v4) + v5) + f1)) ∧ Fr n0 L ∧ h = h0
set_option maxRecDepth 65536 in
set_option maxHeartbeats 40000000 in
theorem rm_pages (l : Launch) (Z : State) (a0 : Array Value) (hw : ∀ d ∈ tables_1, d.before a0 Z = true) (ws : List Jvm.Cond) (a1 : Addr) (b : Addr) (k : ClassId) (v0 : Int64) (v1 : Int64) (v2 : Int64) (v3 : Int64) (v4 : Int64) (v5 : Int64) (f1 : Int64) (h0 : Heap) (n0 : Nat) (Z0 : n0 ≤ h0.size) (E1 : Exa Z h0 a1 "com/example/honeybee/honeybee/crawl/CrawlCounts") (F1 : Fld Z h0 a1 "com/example/honeybee/honeybee/crawl/CrawlCounts" "byClass" "[J" (.ref b)) (F2 : Fld Z h0 a1 "com/example/honeybee/honeybee/crawl/CrawlCounts" "failed" "J" (.long f1)) (V1 : Arv Z h0 b k .long (6 : Int32) [(.long v0), (.long v1), (.long v2), (.long v3), (.long v4), (.long v5)] (.long (0 : Int64))) :
    MetFree l (⟨"com/example/honeybee/honeybee/crawl/CrawlCounts", "pages", "()J"⟩ : MethodName) (head1 (Jvm.Cond.code (⟨"com/example/honeybee/honeybee/crawl/CrawlCounts", "pages", "()J"⟩ : MethodName) prog_1_method_6_code 1 (some .long) :: ws) ({ frames := 0, cells := 0, slots := 0, locals := 0 } : Room)) (fun a U => a = #[(.ref a1)] ∧ Z.Warmed39 U.vm ∧ U.heap = h0) (fun _ _ _ _ _ => True) (fun _ U o U' => ∃ v L, o = .returned v ∧ Q_pages Z a1 b k v0 v1 v2 v3 v4 v5 f1 h0 n0 v U'.heap L ∧ FrameEnd U o U' L ({ frames := 0, cells := 0, slots := 0, locals := 0 } : Room).cells ({ frames := 0, cells := 0, slots := 0, locals := 0 } : Room).slots) := by
  refine MetFree.of_bodySF (plainFor_of_name pn_pages) hisR ?_
  intro p e s m args below meth c s₁ Bd hml0 hP hK
  obtain ⟨rfl, hZ, hh⟩ := hP
  have hx := Bd.exec
  have hby := Bd.bytes
  have hml : c.maxLocals = 1 := hml0
  have hown : s.vm.findClass "com/example/honeybee/honeybee/crawl/CrawlCounts" = some m.cls := findClass_of_methodNamed Bd.named
  have hnm := (name_of_methodNamed Bd.named Bd.method).1
  have X0 : Stand p l e ({ frames := 0, cells := 0, slots := 0, locals := 0 } : Room) s m #[(.ref a1)] below meth c s₁ [] 0 0 := Stand.of_body Bd
  have e0 : s₁.heap = h0 := by rw [← hh, Bd.state]; rfl
  have N0 := Fr.nil n0
  refine own_in ?_
  refine own_go (S' := s₁.setTop (mkF m 0 #[.val (.ref a1)] [])) (fun tgt_ stp_ => castTop (ef_pages m a1) stp_) ?_
  obtain ⟨T_1, X_1, e_1, st_1⟩ := getF X0 hx hZ hown (host := "") (Or.inl (hw _ (List.mem_of_getElem? (i := 10) rfl))) Via.refl e0 F1 (g := (mkF m 1 #[.val (.ref a1)] [(.ref a1)])) rfl rfl (hb hby d_pages_1)
  obtain ⟨c_2, Ar_2, q_2, S_2, M_2, Hs_2, G_2⟩ := id V1
  have hin_2 : ¬ ((2 : Int32) < 0 ∨ c_2.slots.size ≤ ((2 : Int32)).toNatClampNeg) := inb_of S_2 ⟨by decide, by decide⟩
  have hat_2 : c_2.slots[((2 : Int32)).toNatClampNeg]? = some (.long v2) := Hs_2.at hin_2 rfl
  obtain ⟨T_3, X_3, e_3, st_3⟩ := getF X_1 hx hZ hown (host := "") (Or.inl (hw _ (List.mem_of_getElem? (i := 10) rfl))) Via.refl e_1 F1 (g := (mkF m 7 #[.val (.ref a1)] [(.ref a1), (.long v2)])) rfl rfl (hb hby d_pages_7)
  obtain ⟨c_4, Ar_4, q_4, S_4, M_4, Hs_4, G_4⟩ := id V1
  have hin_4 : ¬ ((3 : Int32) < 0 ∨ c_4.slots.size ≤ ((3 : Int32)).toNatClampNeg) := inb_of S_4 ⟨by decide, by decide⟩
  have hat_4 : c_4.slots[((3 : Int32)).toNatClampNeg]? = some (.long v3) := Hs_4.at hin_4 rfl
  obtain ⟨T_5, X_5, e_5, st_5⟩ := getF X_3 hx hZ hown (host := "") (Or.inl (hw _ (List.mem_of_getElem? (i := 10) rfl))) Via.refl e_3 F1 (g := (mkF m 14 #[.val (.ref a1)] [(.ref a1), (.long (v2 + v3))])) rfl rfl (hb hby d_pages_14)
  obtain ⟨c_6, Ar_6, q_6, S_6, M_6, Hs_6, G_6⟩ := id V1
  have hin_6 : ¬ ((4 : Int32) < 0 ∨ c_6.slots.size ≤ ((4 : Int32)).toNatClampNeg) := inb_of S_6 ⟨by decide, by decide⟩
  have hat_6 : c_6.slots[((4 : Int32)).toNatClampNeg]? = some (.long v4) := Hs_6.at hin_6 rfl
  obtain ⟨T_7, X_7, e_7, st_7⟩ := getF X_5 hx hZ hown (host := "") (Or.inl (hw _ (List.mem_of_getElem? (i := 10) rfl))) Via.refl e_5 F1 (g := (mkF m 21 #[.val (.ref a1)] [(.ref a1), (.long ((v2 + v3) + v4))])) rfl rfl (hb hby d_pages_21)
  obtain ⟨c_8, Ar_8, q_8, S_8, M_8, Hs_8, G_8⟩ := id V1
  have hin_8 : ¬ ((5 : Int32) < 0 ∨ c_8.slots.size ≤ ((5 : Int32)).toNatClampNeg) := inb_of S_8 ⟨by decide, by decide⟩
  have hat_8 : c_8.slots[((5 : Int32)).toNatClampNeg]? = some (.long v5) := Hs_8.at hin_8 rfl
  obtain ⟨T_9, X_9, e_9, st_9⟩ := getF X_7 hx hZ hown (host := "") (Or.inl (hw _ (List.mem_of_getElem? (i := 17) rfl))) Via.refl e_7 F2 (g := (mkF m 28 #[.val (.ref a1)] [(.ref a1), (.long (((v2 + v3) + v4) + v5))])) rfl rfl (hb hby d_pages_28)
  refine own_go (S' := T_9.setTop (mkF m 32 #[.val (.ref a1)] [(.long ((((v2 + v3) + v4) + v5) + f1))])) (fun target kt => ?_) ?_
  · show Steps p.tables e below (s₁.setTop (mkF m 0 #[.val (.ref a1)] [])) target
    refine XS.aloadN X0.here hx rfl (hb hby d_pages_0) rfl rfl ?_
    show Steps p.tables e below (s₁.setTop (mkF m 1 #[.val (.ref a1)] [(.ref a1)])) target
    refine st_1 _ ?_
    show Steps p.tables e below (T_1.setTop (mkF m 4 #[.val (.ref a1)] [(.ref b)])) target
    refine XS.iconst X_1.here hx rfl (hb hby d_pages_4) ?_
    show Steps p.tables e below (T_1.setTop (mkF m 5 #[.val (.ref a1)] [(.int (2 : Int32)), (.ref b)])) target
    refine X_1.laload hx (j := (2 : Int32)) (v := (.long v2)) (by rw [e_1]; exact Ar_2.1) (State.isArrayOf_alike hZ.alike Ar_2.2.1) Ar_2.2.2 hin_2 hat_2 (g := (mkF m 5 #[.val (.ref a1)] [(.int (2 : Int32)), (.ref b)])) rfl rfl (hb hby d_pages_5) _ ?_
    show Steps p.tables e below (T_1.setTop (mkF m 6 #[.val (.ref a1)] [(.long v2)])) target
    refine XS.aloadN X_1.here hx rfl (hb hby d_pages_6) rfl rfl ?_
    show Steps p.tables e below (T_1.setTop (mkF m 7 #[.val (.ref a1)] [(.ref a1), (.long v2)])) target
    refine st_3 _ ?_
    show Steps p.tables e below (T_3.setTop (mkF m 10 #[.val (.ref a1)] [(.ref b), (.long v2)])) target
    refine XS.iconst X_3.here hx rfl (hb hby d_pages_10) ?_
    show Steps p.tables e below (T_3.setTop (mkF m 11 #[.val (.ref a1)] [(.int (3 : Int32)), (.ref b), (.long v2)])) target
    refine X_3.laload hx (j := (3 : Int32)) (v := (.long v3)) (by rw [e_3]; exact Ar_4.1) (State.isArrayOf_alike hZ.alike Ar_4.2.1) Ar_4.2.2 hin_4 hat_4 (g := (mkF m 11 #[.val (.ref a1)] [(.int (3 : Int32)), (.ref b), (.long v2)])) rfl rfl (hb hby d_pages_11) _ ?_
    show Steps p.tables e below (T_3.setTop (mkF m 12 #[.val (.ref a1)] [(.long v3), (.long v2)])) target
    refine XS.ladd X_3.here hx rfl (hb hby d_pages_12) rfl ?_
    show Steps p.tables e below (T_3.setTop (mkF m 13 #[.val (.ref a1)] [(.long (v2 + v3))])) target
    refine XS.aloadN X_3.here hx rfl (hb hby d_pages_13) rfl rfl ?_
    show Steps p.tables e below (T_3.setTop (mkF m 14 #[.val (.ref a1)] [(.ref a1), (.long (v2 + v3))])) target
    refine st_5 _ ?_
    show Steps p.tables e below (T_5.setTop (mkF m 17 #[.val (.ref a1)] [(.ref b), (.long (v2 + v3))])) target
    refine XS.iconst X_5.here hx rfl (hb hby d_pages_17) ?_
    show Steps p.tables e below (T_5.setTop (mkF m 18 #[.val (.ref a1)] [(.int (4 : Int32)), (.ref b), (.long (v2 + v3))])) target
    refine X_5.laload hx (j := (4 : Int32)) (v := (.long v4)) (by rw [e_5]; exact Ar_6.1) (State.isArrayOf_alike hZ.alike Ar_6.2.1) Ar_6.2.2 hin_6 hat_6 (g := (mkF m 18 #[.val (.ref a1)] [(.int (4 : Int32)), (.ref b), (.long (v2 + v3))])) rfl rfl (hb hby d_pages_18) _ ?_
    show Steps p.tables e below (T_5.setTop (mkF m 19 #[.val (.ref a1)] [(.long v4), (.long (v2 + v3))])) target
    refine XS.ladd X_5.here hx rfl (hb hby d_pages_19) rfl ?_
    show Steps p.tables e below (T_5.setTop (mkF m 20 #[.val (.ref a1)] [(.long ((v2 + v3) + v4))])) target
    refine XS.aloadN X_5.here hx rfl (hb hby d_pages_20) rfl rfl ?_
    show Steps p.tables e below (T_5.setTop (mkF m 21 #[.val (.ref a1)] [(.ref a1), (.long ((v2 + v3) + v4))])) target
    refine st_7 _ ?_
    show Steps p.tables e below (T_7.setTop (mkF m 24 #[.val (.ref a1)] [(.ref b), (.long ((v2 + v3) + v4))])) target
    refine XS.iconst X_7.here hx rfl (hb hby d_pages_24) ?_
    show Steps p.tables e below (T_7.setTop (mkF m 25 #[.val (.ref a1)] [(.int (5 : Int32)), (.ref b), (.long ((v2 + v3) + v4))])) target
    refine X_7.laload hx (j := (5 : Int32)) (v := (.long v5)) (by rw [e_7]; exact Ar_8.1) (State.isArrayOf_alike hZ.alike Ar_8.2.1) Ar_8.2.2 hin_8 hat_8 (g := (mkF m 25 #[.val (.ref a1)] [(.int (5 : Int32)), (.ref b), (.long ((v2 + v3) + v4))])) rfl rfl (hb hby d_pages_25) _ ?_
    show Steps p.tables e below (T_7.setTop (mkF m 26 #[.val (.ref a1)] [(.long v5), (.long ((v2 + v3) + v4))])) target
    refine XS.ladd X_7.here hx rfl (hb hby d_pages_26) rfl ?_
    show Steps p.tables e below (T_7.setTop (mkF m 27 #[.val (.ref a1)] [(.long (((v2 + v3) + v4) + v5))])) target
    refine XS.aloadN X_7.here hx rfl (hb hby d_pages_27) rfl rfl ?_
    show Steps p.tables e below (T_7.setTop (mkF m 28 #[.val (.ref a1)] [(.ref a1), (.long (((v2 + v3) + v4) + v5))])) target
    refine st_9 _ ?_
    show Steps p.tables e below (T_9.setTop (mkF m 31 #[.val (.ref a1)] [(.long f1), (.long (((v2 + v3) + v4) + v5))])) target
    refine XS.ladd X_9.here hx rfl (hb hby d_pages_31) rfl ?_
    show Steps p.tables e below (T_9.setTop (mkF m 32 #[.val (.ref a1)] [(.long ((((v2 + v3) + v4) + v5) + f1))])) target
    exact kt
  obtain ⟨fs, hr, hrun, hended, hW, hsame⟩ := X_9.leave (v := some (.long ((((v2 + v3) + v4) + v5) + f1))) (fun h => by rw [Bd.returns] at h; cases h)
  refine ⟨_, _, Jvm.Stand.lreturnOut X_9 hx Bd.returns (hb hby d_pages_32) hr, hrun, hended, _, _, rfl, ?_, ⟨_, rfl⟩, hW, hsame.mono (by decide) (by decide)⟩
  show Q_pages Z a1 b k v0 v1 v2 v3 v4 v5 f1 h0 n0 _ T_9.heap _
  rw [e_9]
  exact ⟨rfl, N0, rfl⟩
-- com/example/honeybee/honeybee/crawl/CrawlCounts.countAnswer:(I)V
theorem d_ca_0 : decode prog_1_method_2_code 0 = .ok (.iload_n 1, 1) := by decide +kernel
theorem d_ca_1 : decode prog_1_method_2_code 1 = .ok (.sipush 200, 3) := by decide +kernel
theorem d_ca_4 : decode prog_1_method_2_code 4 = .ok (.if_icmp .lt 26, 3) := by decide +kernel
theorem d_ca_7 : decode prog_1_method_2_code 7 = .ok (.iload_n 1, 1) := by decide +kernel
theorem d_ca_8 : decode prog_1_method_2_code 8 = .ok (.sipush 599, 3) := by decide +kernel
theorem d_ca_11 : decode prog_1_method_2_code 11 = .ok (.if_icmp .gt 19, 3) := by decide +kernel
theorem d_ca_14 : decode prog_1_method_2_code 14 = .ok (.aload_n 0, 1) := by decide +kernel
theorem d_ca_15 : decode prog_1_method_2_code 15 = .ok (.getfield 7, 3) := by decide +kernel
theorem d_ca_18 : decode prog_1_method_2_code 18 = .ok (.iload_n 1, 1) := by decide +kernel
theorem d_ca_19 : decode prog_1_method_2_code 19 = .ok (.bipush 100, 2) := by decide +kernel
theorem d_ca_21 : decode prog_1_method_2_code 21 = .ok (.idiv, 1) := by decide +kernel
theorem d_ca_22 : decode prog_1_method_2_code 22 = .ok (.dup2, 1) := by decide +kernel
theorem d_ca_23 : decode prog_1_method_2_code 23 = .ok (.laload, 1) := by decide +kernel
theorem d_ca_24 : decode prog_1_method_2_code 24 = .ok (.lconst 1, 1) := by decide +kernel
theorem d_ca_25 : decode prog_1_method_2_code 25 = .ok (.ladd, 1) := by decide +kernel
theorem d_ca_26 : decode prog_1_method_2_code 26 = .ok (.lastore, 1) := by decide +kernel
theorem d_ca_27 : decode prog_1_method_2_code 27 = .ok (.goto 13, 3) := by decide +kernel
theorem d_ca_30 : decode prog_1_method_2_code 30 = .ok (.aload_n 0, 1) := by decide +kernel
theorem d_ca_31 : decode prog_1_method_2_code 31 = .ok (.dup, 1) := by decide +kernel
theorem d_ca_32 : decode prog_1_method_2_code 32 = .ok (.getfield 13, 3) := by decide +kernel
theorem d_ca_35 : decode prog_1_method_2_code 35 = .ok (.lconst 1, 1) := by decide +kernel
theorem d_ca_36 : decode prog_1_method_2_code 36 = .ok (.ladd, 1) := by decide +kernel
theorem d_ca_37 : decode prog_1_method_2_code 37 = .ok (.putfield 13, 3) := by decide +kernel
theorem d_ca_40 : decode prog_1_method_2_code 40 = .ok (.return_, 1) := by decide +kernel
theorem pn_ca : plainName "com/example/honeybee/honeybee/crawl/CrawlCounts" = true := by first | (simp [plainName, overriddenIn]; done) | decide +kernel
theorem ef_ca (m : MethodId) (a1 : Addr) (p1 : Int32) : entryFrame m #[(.ref a1), (.int p1)] 2 = mkF m 0 #[.val (.ref a1), .val (.int p1)] [] := by first | (simp [entryFrame, mkF, argsToLocals, Value.category]; done) | rfl
def Q_ca (Z : State) (a1 : Addr) (p1 : Int32) (b : Addr) (k : ClassId) (v0 : Int64) (v1 : Int64) (v2 : Int64) (v3 : Int64) (v4 : Int64) (v5 : Int64) (f1 : Int64) (d0 : Int64) (d1 : Int64) (h0 : Heap) (n0 : Nat) (v : Option Value) (h : Heap) (L : List Loc) : Prop := v = none ∧ Fr n0 L ∧ Keep h0 h [a1, b] ∧ Exa Z h a1 "com/example/honeybee/honeybee/crawl/CrawlCounts" ∧ Fld Z h a1 "com/example/honeybee/honeybee/crawl/CrawlCounts" "byClass" "[J" (.ref b) ∧ Fld Z h a1 "com/example/honeybee/honeybee/crawl/CrawlCounts" "failed" "J" (.long (f1 + own_hit p1 (-1 : Int32))) ∧ Fld Z h a1 "com/example/honeybee/honeybee/crawl/CrawlCounts" "duplicates" "J" (.long d0) ∧ Fld Z h a1 "com/example/honeybee/honeybee/crawl/CrawlCounts" "disallowed" "J" (.long d1) ∧ Arv Z h b k .long (6 : Int32) [(.long v0), (.long v1), (.long (v2 + own_hit p1 (2 : Int32))), (.long (v3 + own_hit p1 (3 : Int32))), (.long (v4 + own_hit p1 (4 : Int32))), (.long (v5 + own_hit p1 (5 : Int32)))] (.long (0 : Int64))
set_option maxRecDepth 65536 in
set_option maxHeartbeats 40000000 in
theorem rm_ca (l : Launch) (Z : State) (a0 : Array Value) (hw : ∀ d ∈ tables_1, d.before a0 Z = true) (ws : List Jvm.Cond) (a1 : Addr) (p1 : Int32) (b : Addr) (k : ClassId) (v0 : Int64) (v1 : Int64) (v2 : Int64) (v3 : Int64) (v4 : Int64) (v5 : Int64) (f1 : Int64) (d0 : Int64) (d1 : Int64) (h0 : Heap) (n0 : Nat) (Z0 : n0 ≤ h0.size) (E1 : Exa Z h0 a1 "com/example/honeybee/honeybee/crawl/CrawlCounts") (F1 : Fld Z h0 a1 "com/example/honeybee/honeybee/crawl/CrawlCounts" "byClass" "[J" (.ref b)) (F2 : Fld Z h0 a1 "com/example/honeybee/honeybee/crawl/CrawlCounts" "failed" "J" (.long f1)) (V1 : Arv Z h0 b k .long (6 : Int32) [(.long v0), (.long v1), (.long v2), (.long v3), (.long v4), (.long v5)] (.long (0 : Int64))) (F3 : Fld Z h0 a1 "com/example/honeybee/honeybee/crawl/CrawlCounts" "duplicates" "J" (.long d0)) (F4 : Fld Z h0 a1 "com/example/honeybee/honeybee/crawl/CrawlCounts" "disallowed" "J" (.long d1)) (g1 : n0 ≤ a1) (g2 : n0 ≤ b) (n1 : a1 ≠ b) :
    MetFree l (⟨"com/example/honeybee/honeybee/crawl/CrawlCounts", "countAnswer", "(I)V"⟩ : MethodName) (head1 (Jvm.Cond.code (⟨"com/example/honeybee/honeybee/crawl/CrawlCounts", "countAnswer", "(I)V"⟩ : MethodName) prog_1_method_2_code 2 none :: ws) ({ frames := 0, cells := 0, slots := 0, locals := 0 } : Room)) (fun a U => a = #[(.ref a1), (.int p1)] ∧ Z.Warmed39 U.vm ∧ U.heap = h0) (fun _ _ _ _ _ => True) (fun _ U o U' => ∃ v L, o = .returned v ∧ Q_ca Z a1 p1 b k v0 v1 v2 v3 v4 v5 f1 d0 d1 h0 n0 v U'.heap L ∧ FrameEnd U o U' L ({ frames := 0, cells := 0, slots := 0, locals := 0 } : Room).cells ({ frames := 0, cells := 0, slots := 0, locals := 0 } : Room).slots) := by
  refine MetFree.of_bodySF (plainFor_of_name pn_ca) hisR ?_
  intro p e s m args below meth c s₁ Bd hml0 hP hK
  obtain ⟨rfl, hZ, hh⟩ := hP
  have hx := Bd.exec
  have hby := Bd.bytes
  have hml : c.maxLocals = 2 := hml0
  have hown : s.vm.findClass "com/example/honeybee/honeybee/crawl/CrawlCounts" = some m.cls := findClass_of_methodNamed Bd.named
  have hnm := (name_of_methodNamed Bd.named Bd.method).1
  have X0 : Stand p l e ({ frames := 0, cells := 0, slots := 0, locals := 0 } : Room) s m #[(.ref a1), (.int p1)] below meth c s₁ [] 0 0 := Stand.of_body Bd
  have e0 : s₁.heap = h0 := by rw [← hh, Bd.state]; rfl
  have N0 := Fr.nil n0
  refine own_in ?_
  refine own_go (S' := s₁.setTop (mkF m 0 #[.val (.ref a1), .val (.int p1)] [])) (fun tgt_ stp_ => castTop (ef_ca m a1 p1) stp_) ?_
  have K0 : Keep h0 h0 [a1, b] := Keep.refl h0 _
  refine own_go (S' := s₁.setTop (mkF m 4 #[.val (.ref a1), .val (.int p1)] [(.int (200 : Int32)), (.int p1)])) (fun target kt => ?_) ?_
  · show Steps p.tables e below (s₁.setTop (mkF m 0 #[.val (.ref a1), .val (.int p1)] [])) target
    refine XS.iloadN X0.here hx rfl (hb hby d_ca_0) rfl ?_
    show Steps p.tables e below (s₁.setTop (mkF m 1 #[.val (.ref a1), .val (.int p1)] [(.int p1)])) target
    refine XS.sipush X0.here hx rfl (hb hby d_ca_1) ?_
    show Steps p.tables e below (s₁.setTop (mkF m 4 #[.val (.ref a1), .val (.int p1)] [(.int (200 : Int32)), (.int p1)])) target
    exact kt
  by_cases hc4 : p1 < (200 : Int32)
  · -- pc 4: yes
    obtain ⟨e2, e3, e4, e5, em⟩ := own_out (p := p1) (Or.inl hc4)
    obtain ⟨T_1, X_1, e_1, st_1⟩ := getF X0 hx hZ hown (host := "") (Or.inl (hw _ (List.mem_of_getElem? (i := 17) rfl))) Via.refl e0 F2 (g := (mkF m 32 #[.val (.ref a1), .val (.int p1)] [(.ref a1), (.ref a1)])) rfl rfl (hb hby d_ca_32)
    obtain ⟨T_2, h_2, X_2, e_2, W_2, st_2⟩ := putF X_1 hx hZ hown (host := "") (Or.inl (hw _ (List.mem_of_getElem? (i := 17) rfl))) Via.refl e_1 F2 E1 (Or.inl (hw _ (List.mem_of_getElem? (i := 18) rfl))) (hw _ (List.mem_of_getElem? (i := 1) rfl)) (ty := .long) (by decide) rfl rfl (g := (mkF m 37 #[.val (.ref a1), .val (.int p1)] [(.long (f1 + (1 : Int64))), (.ref a1)])) rfl rfl (hb hby d_ca_37)
    have N_2 := Fr.snoc X_2 N0 g1
    have F_2 := F2.same W_2
    have Z_3 : n0 ≤ h_2.size := Nat.le_trans Z0 (Keep.of_wr W_2).1
    have K_4 : Keep h0 h_2 [a1, b] := K0.wr W_2 (Or.inl (List.mem_of_getElem? (i := 0) rfl))
    refine own_go (S' := T_2.setTop (mkF m 40 #[.val (.ref a1), .val (.int p1)] [])) (fun target kt => ?_) ?_
    · show Steps p.tables e below (s₁.setTop (mkF m 4 #[.val (.ref a1), .val (.int p1)] [(.int (200 : Int32)), (.int p1)])) target
      refine XS.icmpYes X0.here hx rfl (pc0 := 4) (pc' := 30) rfl (hb hby d_ca_4) rfl (tlt hc4).1 (by decide) (by decide) ?_
      show Steps p.tables e below (s₁.setTop (mkF m 30 #[.val (.ref a1), .val (.int p1)] [])) target
      refine XS.aloadN X0.here hx rfl (hb hby d_ca_30) rfl rfl ?_
      show Steps p.tables e below (s₁.setTop (mkF m 31 #[.val (.ref a1), .val (.int p1)] [(.ref a1)])) target
      refine XS.dup X0.here hx rfl (hb hby d_ca_31) rfl rfl ?_
      show Steps p.tables e below (s₁.setTop (mkF m 32 #[.val (.ref a1), .val (.int p1)] [(.ref a1), (.ref a1)])) target
      refine st_1 _ ?_
      show Steps p.tables e below (T_1.setTop (mkF m 35 #[.val (.ref a1), .val (.int p1)] [(.long f1), (.ref a1)])) target
      refine XS.lconst X_1.here hx rfl (hb hby d_ca_35) ?_
      show Steps p.tables e below (T_1.setTop (mkF m 36 #[.val (.ref a1), .val (.int p1)] [(.long (1 : Int64)), (.long f1), (.ref a1)])) target
      refine XS.ladd X_1.here hx rfl (hb hby d_ca_36) rfl ?_
      show Steps p.tables e below (T_1.setTop (mkF m 37 #[.val (.ref a1), .val (.int p1)] [(.long (f1 + (1 : Int64))), (.ref a1)])) target
      refine st_2 _ ?_
      show Steps p.tables e below (T_2.setTop (mkF m 40 #[.val (.ref a1), .val (.int p1)] [])) target
      exact kt
    obtain ⟨fs, hr, hrun, hended, hW, hsame⟩ := X_2.leave (v := none) (fun _ => rfl)
    refine ⟨_, _, X_2.returnOut hx Bd.returns (hb hby d_ca_40) hr, hrun, hended, _, _, rfl, ?_, ⟨_, rfl⟩, hW, hsame.mono (by decide) (by decide)⟩
    show Q_ca Z a1 p1 b k v0 v1 v2 v3 v4 v5 f1 d0 d1 h0 n0 _ T_2.heap _
    rw [e_2]
    have f_5 := (E1.wr W_2)
    have f_6 := (F1.other W_2 (Or.inr (slot_ne (Or.inr (hw _ (List.mem_of_getElem? (i := 11) rfl))) (Or.inl (hw _ (List.mem_of_getElem? (i := 18) rfl))) (by decide) (t := (.array .long)) (t' := .long) (by decide) (by decide))))
    have f_7 := (F3.other W_2 (Or.inr (slot_ne (Or.inl (hw _ (List.mem_of_getElem? (i := 36) rfl))) (Or.inl (hw _ (List.mem_of_getElem? (i := 18) rfl))) (by decide) (t := .long) (t' := .long) (by decide) (by decide))))
    have f_8 := (F4.other W_2 (Or.inr (slot_ne (Or.inl (hw _ (List.mem_of_getElem? (i := 43) rfl))) (Or.inl (hw _ (List.mem_of_getElem? (i := 18) rfl))) (by decide) (t := .long) (t' := .long) (by decide) (by decide))))
    have f_9 := (V1.other W_2 (Ne.symm n1))
    exact ⟨rfl, N_2, K_4, f_5, f_6, (by simpa [e2, e3, e4, e5, em] using F_2), f_7, f_8, (by simpa [e2, e3, e4, e5, em] using f_9)⟩
  · -- pc 4: no
    refine own_go (S' := s₁.setTop (mkF m 11 #[.val (.ref a1), .val (.int p1)] [(.int (599 : Int32)), (.int p1)])) (fun target kt => ?_) ?_
    · show Steps p.tables e below (s₁.setTop (mkF m 4 #[.val (.ref a1), .val (.int p1)] [(.int (200 : Int32)), (.int p1)])) target
      refine XS.icmpNo X0.here hx rfl (hb hby d_ca_4) rfl (flt hc4).1 ?_
      show Steps p.tables e below (s₁.setTop (mkF m 7 #[.val (.ref a1), .val (.int p1)] [])) target
      refine XS.iloadN X0.here hx rfl (hb hby d_ca_7) rfl ?_
      show Steps p.tables e below (s₁.setTop (mkF m 8 #[.val (.ref a1), .val (.int p1)] [(.int p1)])) target
      refine XS.sipush X0.here hx rfl (hb hby d_ca_8) ?_
      show Steps p.tables e below (s₁.setTop (mkF m 11 #[.val (.ref a1), .val (.int p1)] [(.int (599 : Int32)), (.int p1)])) target
      exact kt
    by_cases hc11 : (599 : Int32) < p1
    · -- pc 11: yes
      obtain ⟨e2, e3, e4, e5, em⟩ := own_out (p := p1) (Or.inr hc11)
      obtain ⟨T_10, X_10, e_10, st_10⟩ := getF X0 hx hZ hown (host := "") (Or.inl (hw _ (List.mem_of_getElem? (i := 17) rfl))) Via.refl e0 F2 (g := (mkF m 32 #[.val (.ref a1), .val (.int p1)] [(.ref a1), (.ref a1)])) rfl rfl (hb hby d_ca_32)
      obtain ⟨T_11, h_11, X_11, e_11, W_11, st_11⟩ := putF X_10 hx hZ hown (host := "") (Or.inl (hw _ (List.mem_of_getElem? (i := 17) rfl))) Via.refl e_10 F2 E1 (Or.inl (hw _ (List.mem_of_getElem? (i := 18) rfl))) (hw _ (List.mem_of_getElem? (i := 1) rfl)) (ty := .long) (by decide) rfl rfl (g := (mkF m 37 #[.val (.ref a1), .val (.int p1)] [(.long (f1 + (1 : Int64))), (.ref a1)])) rfl rfl (hb hby d_ca_37)
      have N_11 := Fr.snoc X_11 N0 g1
      have F_11 := F2.same W_11
      have Z_12 : n0 ≤ h_11.size := Nat.le_trans Z0 (Keep.of_wr W_11).1
      have K_13 : Keep h0 h_11 [a1, b] := K0.wr W_11 (Or.inl (List.mem_of_getElem? (i := 0) rfl))
      refine own_go (S' := T_11.setTop (mkF m 40 #[.val (.ref a1), .val (.int p1)] [])) (fun target kt => ?_) ?_
      · show Steps p.tables e below (s₁.setTop (mkF m 11 #[.val (.ref a1), .val (.int p1)] [(.int (599 : Int32)), (.int p1)])) target
        refine XS.icmpYes X0.here hx rfl (pc0 := 11) (pc' := 30) rfl (hb hby d_ca_11) rfl (tlt hc11).2.2.1 (by decide) (by decide) ?_
        show Steps p.tables e below (s₁.setTop (mkF m 30 #[.val (.ref a1), .val (.int p1)] [])) target
        refine XS.aloadN X0.here hx rfl (hb hby d_ca_30) rfl rfl ?_
        show Steps p.tables e below (s₁.setTop (mkF m 31 #[.val (.ref a1), .val (.int p1)] [(.ref a1)])) target
        refine XS.dup X0.here hx rfl (hb hby d_ca_31) rfl rfl ?_
        show Steps p.tables e below (s₁.setTop (mkF m 32 #[.val (.ref a1), .val (.int p1)] [(.ref a1), (.ref a1)])) target
        refine st_10 _ ?_
        show Steps p.tables e below (T_10.setTop (mkF m 35 #[.val (.ref a1), .val (.int p1)] [(.long f1), (.ref a1)])) target
        refine XS.lconst X_10.here hx rfl (hb hby d_ca_35) ?_
        show Steps p.tables e below (T_10.setTop (mkF m 36 #[.val (.ref a1), .val (.int p1)] [(.long (1 : Int64)), (.long f1), (.ref a1)])) target
        refine XS.ladd X_10.here hx rfl (hb hby d_ca_36) rfl ?_
        show Steps p.tables e below (T_10.setTop (mkF m 37 #[.val (.ref a1), .val (.int p1)] [(.long (f1 + (1 : Int64))), (.ref a1)])) target
        refine st_11 _ ?_
        show Steps p.tables e below (T_11.setTop (mkF m 40 #[.val (.ref a1), .val (.int p1)] [])) target
        exact kt
      obtain ⟨fs, hr, hrun, hended, hW, hsame⟩ := X_11.leave (v := none) (fun _ => rfl)
      refine ⟨_, _, X_11.returnOut hx Bd.returns (hb hby d_ca_40) hr, hrun, hended, _, _, rfl, ?_, ⟨_, rfl⟩, hW, hsame.mono (by decide) (by decide)⟩
      show Q_ca Z a1 p1 b k v0 v1 v2 v3 v4 v5 f1 d0 d1 h0 n0 _ T_11.heap _
      rw [e_11]
      have f_14 := (E1.wr W_11)
      have f_15 := (F1.other W_11 (Or.inr (slot_ne (Or.inr (hw _ (List.mem_of_getElem? (i := 11) rfl))) (Or.inl (hw _ (List.mem_of_getElem? (i := 18) rfl))) (by decide) (t := (.array .long)) (t' := .long) (by decide) (by decide))))
      have f_16 := (F3.other W_11 (Or.inr (slot_ne (Or.inl (hw _ (List.mem_of_getElem? (i := 36) rfl))) (Or.inl (hw _ (List.mem_of_getElem? (i := 18) rfl))) (by decide) (t := .long) (t' := .long) (by decide) (by decide))))
      have f_17 := (F4.other W_11 (Or.inr (slot_ne (Or.inl (hw _ (List.mem_of_getElem? (i := 43) rfl))) (Or.inl (hw _ (List.mem_of_getElem? (i := 18) rfl))) (by decide) (t := .long) (t' := .long) (by decide) (by decide))))
      have f_18 := (V1.other W_11 (Ne.symm n1))
      exact ⟨rfl, N_11, K_13, f_14, f_15, (by simpa [e2, e3, e4, e5, em] using F_11), f_16, f_17, (by simpa [e2, e3, e4, e5, em] using f_18)⟩
    · -- pc 11: no
      obtain ⟨T_19, X_19, e_19, st_19⟩ := getF X0 hx hZ hown (host := "") (Or.inl (hw _ (List.mem_of_getElem? (i := 10) rfl))) Via.refl e0 F1 (g := (mkF m 15 #[.val (.ref a1), .val (.int p1)] [(.ref a1)])) rfl rfl (hb hby d_ca_15)
      refine own_go (S' := T_19.setTop (mkF m 22 #[.val (.ref a1), .val (.int p1)] [(.int (p1 / (100 : Int32))), (.ref b)])) (fun target kt => ?_) ?_
      · show Steps p.tables e below (s₁.setTop (mkF m 11 #[.val (.ref a1), .val (.int p1)] [(.int (599 : Int32)), (.int p1)])) target
        refine XS.icmpNo X0.here hx rfl (hb hby d_ca_11) rfl (flt hc11).2.2.1 ?_
        show Steps p.tables e below (s₁.setTop (mkF m 14 #[.val (.ref a1), .val (.int p1)] [])) target
        refine XS.aloadN X0.here hx rfl (hb hby d_ca_14) rfl rfl ?_
        show Steps p.tables e below (s₁.setTop (mkF m 15 #[.val (.ref a1), .val (.int p1)] [(.ref a1)])) target
        refine st_19 _ ?_
        show Steps p.tables e below (T_19.setTop (mkF m 18 #[.val (.ref a1), .val (.int p1)] [(.ref b)])) target
        refine XS.iloadN X_19.here hx rfl (hb hby d_ca_18) rfl ?_
        show Steps p.tables e below (T_19.setTop (mkF m 19 #[.val (.ref a1), .val (.int p1)] [(.int p1), (.ref b)])) target
        refine XS.bipush X_19.here hx rfl (hb hby d_ca_19) ?_
        show Steps p.tables e below (T_19.setTop (mkF m 21 #[.val (.ref a1), .val (.int p1)] [(.int (100 : Int32)), (.int p1), (.ref b)])) target
        refine XS.idiv X_19.here hx rfl (hb hby d_ca_21) rfl (by decide) ?_
        show Steps p.tables e below (T_19.setTop (mkF m 22 #[.val (.ref a1), .val (.int p1)] [(.int (p1 / (100 : Int32))), (.ref b)])) target
        exact kt
      rcases own_div hc4 hc11 with ⟨hd, e2, e3, e4, e5, em⟩ | ⟨hd, e2, e3, e4, e5, em⟩ | ⟨hd, e2, e3, e4, e5, em⟩ | ⟨hd, e2, e3, e4, e5, em⟩
      · skip
        rw [hd]
        obtain ⟨c_20, Ar_20, q_20, S_20, M_20, Hs_20, G_20⟩ := id V1
        have hin_20 : ¬ ((2 : Int32) < 0 ∨ c_20.slots.size ≤ ((2 : Int32)).toNatClampNeg) := inb_of S_20 ⟨by decide, by decide⟩
        have hat_20 : c_20.slots[((2 : Int32)).toNatClampNeg]? = some (.long v2) := Hs_20.at hin_20 rfl
        obtain ⟨c_21, Ar_21, q_21, S_21, M_21, Hs_21, G_21⟩ := id V1
        have hin_21 : ¬ ((2 : Int32) < 0 ∨ c_21.slots.size ≤ ((2 : Int32)).toNatClampNeg) := inb_of S_21 ⟨by decide, by decide⟩
        obtain ⟨T_21, h_21, X_21, e_21, W_21, st_21⟩ := stJ X_19 hx hZ e_19 Ar_21 (j := (2 : Int32)) hin_21 (g := (mkF m 26 #[.val (.ref a1), .val (.int p1)] [(.long (v2 + (1 : Int64))), (.int (2 : Int32)), (.ref b)])) rfl rfl (hb hby d_ca_26)
        have N_21 := Fr.snoc X_21 N0 g2
        have V_21 : Arv Z h_21 b k .long (6 : Int32) [(.long v0), (.long v1), (.long (v2 + (1 : Int64))), (.long v3), (.long v4), (.long v5)] (.long (0 : Int64)) := Arv.set Ar_21 q_21 S_21 M_21 Hs_21 G_21 rfl W_21 2 rfl (Nat.le_of_ble_eq_true rfl)
        have Z_22 : n0 ≤ h_21.size := Nat.le_trans Z0 (Keep.of_wr W_21).1
        have K_23 : Keep h0 h_21 [a1, b] := K0.wr W_21 (Or.inl (List.mem_of_getElem? (i := 1) rfl))
        refine own_go (S' := T_21.setTop (mkF m 40 #[.val (.ref a1), .val (.int p1)] [])) (fun target kt => ?_) ?_
        · show Steps p.tables e below (T_19.setTop (mkF m 22 #[.val (.ref a1), .val (.int p1)] [(.int (2 : Int32)), (.ref b)])) target
          refine Jvm.Free.XT.dup2 X_19.here hx rfl (hb hby d_ca_22) rfl rfl rfl ?_
          show Steps p.tables e below (T_19.setTop (mkF m 23 #[.val (.ref a1), .val (.int p1)] [(.int (2 : Int32)), (.ref b), (.int (2 : Int32)), (.ref b)])) target
          refine X_19.laload hx (j := (2 : Int32)) (v := (.long v2)) (by rw [e_19]; exact Ar_20.1) (State.isArrayOf_alike hZ.alike Ar_20.2.1) Ar_20.2.2 hin_20 hat_20 (g := (mkF m 23 #[.val (.ref a1), .val (.int p1)] [(.int (2 : Int32)), (.ref b), (.int (2 : Int32)), (.ref b)])) rfl rfl (hb hby d_ca_23) _ ?_
          show Steps p.tables e below (T_19.setTop (mkF m 24 #[.val (.ref a1), .val (.int p1)] [(.long v2), (.int (2 : Int32)), (.ref b)])) target
          refine XS.lconst X_19.here hx rfl (hb hby d_ca_24) ?_
          show Steps p.tables e below (T_19.setTop (mkF m 25 #[.val (.ref a1), .val (.int p1)] [(.long (1 : Int64)), (.long v2), (.int (2 : Int32)), (.ref b)])) target
          refine XS.ladd X_19.here hx rfl (hb hby d_ca_25) rfl ?_
          show Steps p.tables e below (T_19.setTop (mkF m 26 #[.val (.ref a1), .val (.int p1)] [(.long (v2 + (1 : Int64))), (.int (2 : Int32)), (.ref b)])) target
          refine st_21 _ ?_
          show Steps p.tables e below (T_21.setTop (mkF m 27 #[.val (.ref a1), .val (.int p1)] [])) target
          refine XS.goto X_21.here hx rfl (pc0 := 27) (pc' := 40) rfl (hb hby d_ca_27) (by decide) (by decide) ?_
          show Steps p.tables e below (T_21.setTop (mkF m 40 #[.val (.ref a1), .val (.int p1)] [])) target
          exact kt
        obtain ⟨fs, hr, hrun, hended, hW, hsame⟩ := X_21.leave (v := none) (fun _ => rfl)
        refine ⟨_, _, X_21.returnOut hx Bd.returns (hb hby d_ca_40) hr, hrun, hended, _, _, rfl, ?_, ⟨_, rfl⟩, hW, hsame.mono (by decide) (by decide)⟩
        show Q_ca Z a1 p1 b k v0 v1 v2 v3 v4 v5 f1 d0 d1 h0 n0 _ T_21.heap _
        rw [e_21]
        have f_24 := (E1.wr W_21)
        have f_25 := (F1.other W_21 (Or.inl n1))
        have f_26 := (F2.other W_21 (Or.inl n1))
        have f_27 := (F3.other W_21 (Or.inl n1))
        have f_28 := (F4.other W_21 (Or.inl n1))
        exact ⟨rfl, N_21, K_23, f_24, f_25, (by simpa [e2, e3, e4, e5, em] using f_26), f_27, f_28, (by simpa [e2, e3, e4, e5, em] using V_21)⟩
      · skip
        rw [hd]
        obtain ⟨c_29, Ar_29, q_29, S_29, M_29, Hs_29, G_29⟩ := id V1
        have hin_29 : ¬ ((3 : Int32) < 0 ∨ c_29.slots.size ≤ ((3 : Int32)).toNatClampNeg) := inb_of S_29 ⟨by decide, by decide⟩
        have hat_29 : c_29.slots[((3 : Int32)).toNatClampNeg]? = some (.long v3) := Hs_29.at hin_29 rfl
        obtain ⟨c_30, Ar_30, q_30, S_30, M_30, Hs_30, G_30⟩ := id V1
        have hin_30 : ¬ ((3 : Int32) < 0 ∨ c_30.slots.size ≤ ((3 : Int32)).toNatClampNeg) := inb_of S_30 ⟨by decide, by decide⟩
        obtain ⟨T_30, h_30, X_30, e_30, W_30, st_30⟩ := stJ X_19 hx hZ e_19 Ar_30 (j := (3 : Int32)) hin_30 (g := (mkF m 26 #[.val (.ref a1), .val (.int p1)] [(.long (v3 + (1 : Int64))), (.int (3 : Int32)), (.ref b)])) rfl rfl (hb hby d_ca_26)
        have N_30 := Fr.snoc X_30 N0 g2
        have V_30 : Arv Z h_30 b k .long (6 : Int32) [(.long v0), (.long v1), (.long v2), (.long (v3 + (1 : Int64))), (.long v4), (.long v5)] (.long (0 : Int64)) := Arv.set Ar_30 q_30 S_30 M_30 Hs_30 G_30 rfl W_30 3 rfl (Nat.le_of_ble_eq_true rfl)
        have Z_31 : n0 ≤ h_30.size := Nat.le_trans Z0 (Keep.of_wr W_30).1
        have K_32 : Keep h0 h_30 [a1, b] := K0.wr W_30 (Or.inl (List.mem_of_getElem? (i := 1) rfl))
        refine own_go (S' := T_30.setTop (mkF m 40 #[.val (.ref a1), .val (.int p1)] [])) (fun target kt => ?_) ?_
        · show Steps p.tables e below (T_19.setTop (mkF m 22 #[.val (.ref a1), .val (.int p1)] [(.int (3 : Int32)), (.ref b)])) target
          refine Jvm.Free.XT.dup2 X_19.here hx rfl (hb hby d_ca_22) rfl rfl rfl ?_
          show Steps p.tables e below (T_19.setTop (mkF m 23 #[.val (.ref a1), .val (.int p1)] [(.int (3 : Int32)), (.ref b), (.int (3 : Int32)), (.ref b)])) target
          refine X_19.laload hx (j := (3 : Int32)) (v := (.long v3)) (by rw [e_19]; exact Ar_29.1) (State.isArrayOf_alike hZ.alike Ar_29.2.1) Ar_29.2.2 hin_29 hat_29 (g := (mkF m 23 #[.val (.ref a1), .val (.int p1)] [(.int (3 : Int32)), (.ref b), (.int (3 : Int32)), (.ref b)])) rfl rfl (hb hby d_ca_23) _ ?_
          show Steps p.tables e below (T_19.setTop (mkF m 24 #[.val (.ref a1), .val (.int p1)] [(.long v3), (.int (3 : Int32)), (.ref b)])) target
          refine XS.lconst X_19.here hx rfl (hb hby d_ca_24) ?_
          show Steps p.tables e below (T_19.setTop (mkF m 25 #[.val (.ref a1), .val (.int p1)] [(.long (1 : Int64)), (.long v3), (.int (3 : Int32)), (.ref b)])) target
          refine XS.ladd X_19.here hx rfl (hb hby d_ca_25) rfl ?_
          show Steps p.tables e below (T_19.setTop (mkF m 26 #[.val (.ref a1), .val (.int p1)] [(.long (v3 + (1 : Int64))), (.int (3 : Int32)), (.ref b)])) target
          refine st_30 _ ?_
          show Steps p.tables e below (T_30.setTop (mkF m 27 #[.val (.ref a1), .val (.int p1)] [])) target
          refine XS.goto X_30.here hx rfl (pc0 := 27) (pc' := 40) rfl (hb hby d_ca_27) (by decide) (by decide) ?_
          show Steps p.tables e below (T_30.setTop (mkF m 40 #[.val (.ref a1), .val (.int p1)] [])) target
          exact kt
        obtain ⟨fs, hr, hrun, hended, hW, hsame⟩ := X_30.leave (v := none) (fun _ => rfl)
        refine ⟨_, _, X_30.returnOut hx Bd.returns (hb hby d_ca_40) hr, hrun, hended, _, _, rfl, ?_, ⟨_, rfl⟩, hW, hsame.mono (by decide) (by decide)⟩
        show Q_ca Z a1 p1 b k v0 v1 v2 v3 v4 v5 f1 d0 d1 h0 n0 _ T_30.heap _
        rw [e_30]
        have f_33 := (E1.wr W_30)
        have f_34 := (F1.other W_30 (Or.inl n1))
        have f_35 := (F2.other W_30 (Or.inl n1))
        have f_36 := (F3.other W_30 (Or.inl n1))
        have f_37 := (F4.other W_30 (Or.inl n1))
        exact ⟨rfl, N_30, K_32, f_33, f_34, (by simpa [e2, e3, e4, e5, em] using f_35), f_36, f_37, (by simpa [e2, e3, e4, e5, em] using V_30)⟩
      · skip
        rw [hd]
        obtain ⟨c_38, Ar_38, q_38, S_38, M_38, Hs_38, G_38⟩ := id V1
        have hin_38 : ¬ ((4 : Int32) < 0 ∨ c_38.slots.size ≤ ((4 : Int32)).toNatClampNeg) := inb_of S_38 ⟨by decide, by decide⟩
        have hat_38 : c_38.slots[((4 : Int32)).toNatClampNeg]? = some (.long v4) := Hs_38.at hin_38 rfl
        obtain ⟨c_39, Ar_39, q_39, S_39, M_39, Hs_39, G_39⟩ := id V1
        have hin_39 : ¬ ((4 : Int32) < 0 ∨ c_39.slots.size ≤ ((4 : Int32)).toNatClampNeg) := inb_of S_39 ⟨by decide, by decide⟩
        obtain ⟨T_39, h_39, X_39, e_39, W_39, st_39⟩ := stJ X_19 hx hZ e_19 Ar_39 (j := (4 : Int32)) hin_39 (g := (mkF m 26 #[.val (.ref a1), .val (.int p1)] [(.long (v4 + (1 : Int64))), (.int (4 : Int32)), (.ref b)])) rfl rfl (hb hby d_ca_26)
        have N_39 := Fr.snoc X_39 N0 g2
        have V_39 : Arv Z h_39 b k .long (6 : Int32) [(.long v0), (.long v1), (.long v2), (.long v3), (.long (v4 + (1 : Int64))), (.long v5)] (.long (0 : Int64)) := Arv.set Ar_39 q_39 S_39 M_39 Hs_39 G_39 rfl W_39 4 rfl (Nat.le_of_ble_eq_true rfl)
        have Z_40 : n0 ≤ h_39.size := Nat.le_trans Z0 (Keep.of_wr W_39).1
        have K_41 : Keep h0 h_39 [a1, b] := K0.wr W_39 (Or.inl (List.mem_of_getElem? (i := 1) rfl))
        refine own_go (S' := T_39.setTop (mkF m 40 #[.val (.ref a1), .val (.int p1)] [])) (fun target kt => ?_) ?_
        · show Steps p.tables e below (T_19.setTop (mkF m 22 #[.val (.ref a1), .val (.int p1)] [(.int (4 : Int32)), (.ref b)])) target
          refine Jvm.Free.XT.dup2 X_19.here hx rfl (hb hby d_ca_22) rfl rfl rfl ?_
          show Steps p.tables e below (T_19.setTop (mkF m 23 #[.val (.ref a1), .val (.int p1)] [(.int (4 : Int32)), (.ref b), (.int (4 : Int32)), (.ref b)])) target
          refine X_19.laload hx (j := (4 : Int32)) (v := (.long v4)) (by rw [e_19]; exact Ar_38.1) (State.isArrayOf_alike hZ.alike Ar_38.2.1) Ar_38.2.2 hin_38 hat_38 (g := (mkF m 23 #[.val (.ref a1), .val (.int p1)] [(.int (4 : Int32)), (.ref b), (.int (4 : Int32)), (.ref b)])) rfl rfl (hb hby d_ca_23) _ ?_
          show Steps p.tables e below (T_19.setTop (mkF m 24 #[.val (.ref a1), .val (.int p1)] [(.long v4), (.int (4 : Int32)), (.ref b)])) target
          refine XS.lconst X_19.here hx rfl (hb hby d_ca_24) ?_
          show Steps p.tables e below (T_19.setTop (mkF m 25 #[.val (.ref a1), .val (.int p1)] [(.long (1 : Int64)), (.long v4), (.int (4 : Int32)), (.ref b)])) target
          refine XS.ladd X_19.here hx rfl (hb hby d_ca_25) rfl ?_
          show Steps p.tables e below (T_19.setTop (mkF m 26 #[.val (.ref a1), .val (.int p1)] [(.long (v4 + (1 : Int64))), (.int (4 : Int32)), (.ref b)])) target
          refine st_39 _ ?_
          show Steps p.tables e below (T_39.setTop (mkF m 27 #[.val (.ref a1), .val (.int p1)] [])) target
          refine XS.goto X_39.here hx rfl (pc0 := 27) (pc' := 40) rfl (hb hby d_ca_27) (by decide) (by decide) ?_
          show Steps p.tables e below (T_39.setTop (mkF m 40 #[.val (.ref a1), .val (.int p1)] [])) target
          exact kt
        obtain ⟨fs, hr, hrun, hended, hW, hsame⟩ := X_39.leave (v := none) (fun _ => rfl)
        refine ⟨_, _, X_39.returnOut hx Bd.returns (hb hby d_ca_40) hr, hrun, hended, _, _, rfl, ?_, ⟨_, rfl⟩, hW, hsame.mono (by decide) (by decide)⟩
        show Q_ca Z a1 p1 b k v0 v1 v2 v3 v4 v5 f1 d0 d1 h0 n0 _ T_39.heap _
        rw [e_39]
        have f_42 := (E1.wr W_39)
        have f_43 := (F1.other W_39 (Or.inl n1))
        have f_44 := (F2.other W_39 (Or.inl n1))
        have f_45 := (F3.other W_39 (Or.inl n1))
        have f_46 := (F4.other W_39 (Or.inl n1))
        exact ⟨rfl, N_39, K_41, f_42, f_43, (by simpa [e2, e3, e4, e5, em] using f_44), f_45, f_46, (by simpa [e2, e3, e4, e5, em] using V_39)⟩
      · skip
        rw [hd]
        obtain ⟨c_47, Ar_47, q_47, S_47, M_47, Hs_47, G_47⟩ := id V1
        have hin_47 : ¬ ((5 : Int32) < 0 ∨ c_47.slots.size ≤ ((5 : Int32)).toNatClampNeg) := inb_of S_47 ⟨by decide, by decide⟩
        have hat_47 : c_47.slots[((5 : Int32)).toNatClampNeg]? = some (.long v5) := Hs_47.at hin_47 rfl
        obtain ⟨c_48, Ar_48, q_48, S_48, M_48, Hs_48, G_48⟩ := id V1
        have hin_48 : ¬ ((5 : Int32) < 0 ∨ c_48.slots.size ≤ ((5 : Int32)).toNatClampNeg) := inb_of S_48 ⟨by decide, by decide⟩
        obtain ⟨T_48, h_48, X_48, e_48, W_48, st_48⟩ := stJ X_19 hx hZ e_19 Ar_48 (j := (5 : Int32)) hin_48 (g := (mkF m 26 #[.val (.ref a1), .val (.int p1)] [(.long (v5 + (1 : Int64))), (.int (5 : Int32)), (.ref b)])) rfl rfl (hb hby d_ca_26)
        have N_48 := Fr.snoc X_48 N0 g2
        have V_48 : Arv Z h_48 b k .long (6 : Int32) [(.long v0), (.long v1), (.long v2), (.long v3), (.long v4), (.long (v5 + (1 : Int64)))] (.long (0 : Int64)) := Arv.set Ar_48 q_48 S_48 M_48 Hs_48 G_48 rfl W_48 5 rfl (Nat.le_of_ble_eq_true rfl)
        have Z_49 : n0 ≤ h_48.size := Nat.le_trans Z0 (Keep.of_wr W_48).1
        have K_50 : Keep h0 h_48 [a1, b] := K0.wr W_48 (Or.inl (List.mem_of_getElem? (i := 1) rfl))
        refine own_go (S' := T_48.setTop (mkF m 40 #[.val (.ref a1), .val (.int p1)] [])) (fun target kt => ?_) ?_
        · show Steps p.tables e below (T_19.setTop (mkF m 22 #[.val (.ref a1), .val (.int p1)] [(.int (5 : Int32)), (.ref b)])) target
          refine Jvm.Free.XT.dup2 X_19.here hx rfl (hb hby d_ca_22) rfl rfl rfl ?_
          show Steps p.tables e below (T_19.setTop (mkF m 23 #[.val (.ref a1), .val (.int p1)] [(.int (5 : Int32)), (.ref b), (.int (5 : Int32)), (.ref b)])) target
          refine X_19.laload hx (j := (5 : Int32)) (v := (.long v5)) (by rw [e_19]; exact Ar_47.1) (State.isArrayOf_alike hZ.alike Ar_47.2.1) Ar_47.2.2 hin_47 hat_47 (g := (mkF m 23 #[.val (.ref a1), .val (.int p1)] [(.int (5 : Int32)), (.ref b), (.int (5 : Int32)), (.ref b)])) rfl rfl (hb hby d_ca_23) _ ?_
          show Steps p.tables e below (T_19.setTop (mkF m 24 #[.val (.ref a1), .val (.int p1)] [(.long v5), (.int (5 : Int32)), (.ref b)])) target
          refine XS.lconst X_19.here hx rfl (hb hby d_ca_24) ?_
          show Steps p.tables e below (T_19.setTop (mkF m 25 #[.val (.ref a1), .val (.int p1)] [(.long (1 : Int64)), (.long v5), (.int (5 : Int32)), (.ref b)])) target
          refine XS.ladd X_19.here hx rfl (hb hby d_ca_25) rfl ?_
          show Steps p.tables e below (T_19.setTop (mkF m 26 #[.val (.ref a1), .val (.int p1)] [(.long (v5 + (1 : Int64))), (.int (5 : Int32)), (.ref b)])) target
          refine st_48 _ ?_
          show Steps p.tables e below (T_48.setTop (mkF m 27 #[.val (.ref a1), .val (.int p1)] [])) target
          refine XS.goto X_48.here hx rfl (pc0 := 27) (pc' := 40) rfl (hb hby d_ca_27) (by decide) (by decide) ?_
          show Steps p.tables e below (T_48.setTop (mkF m 40 #[.val (.ref a1), .val (.int p1)] [])) target
          exact kt
        obtain ⟨fs, hr, hrun, hended, hW, hsame⟩ := X_48.leave (v := none) (fun _ => rfl)
        refine ⟨_, _, X_48.returnOut hx Bd.returns (hb hby d_ca_40) hr, hrun, hended, _, _, rfl, ?_, ⟨_, rfl⟩, hW, hsame.mono (by decide) (by decide)⟩
        show Q_ca Z a1 p1 b k v0 v1 v2 v3 v4 v5 f1 d0 d1 h0 n0 _ T_48.heap _
        rw [e_48]
        have f_51 := (E1.wr W_48)
        have f_52 := (F1.other W_48 (Or.inl n1))
        have f_53 := (F2.other W_48 (Or.inl n1))
        have f_54 := (F3.other W_48 (Or.inl n1))
        have f_55 := (F4.other W_48 (Or.inl n1))
        exact ⟨rfl, N_48, K_50, f_51, f_52, (by simpa [e2, e3, e4, e5, em] using f_53), f_54, f_55, (by simpa [e2, e3, e4, e5, em] using V_48)⟩
-- com/example/honeybee/honeybee/crawl/CrawlCounts.countFailure:()V
theorem d_cf_0 : decode prog_1_method_3_code 0 = .ok (.aload_n 0, 1) := by decide +kernel
theorem d_cf_1 : decode prog_1_method_3_code 1 = .ok (.dup, 1) := by decide +kernel
theorem d_cf_2 : decode prog_1_method_3_code 2 = .ok (.getfield 13, 3) := by decide +kernel
theorem d_cf_5 : decode prog_1_method_3_code 5 = .ok (.lconst 1, 1) := by decide +kernel
theorem d_cf_6 : decode prog_1_method_3_code 6 = .ok (.ladd, 1) := by decide +kernel
theorem d_cf_7 : decode prog_1_method_3_code 7 = .ok (.putfield 13, 3) := by decide +kernel
theorem d_cf_10 : decode prog_1_method_3_code 10 = .ok (.return_, 1) := by decide +kernel
theorem pn_cf : plainName "com/example/honeybee/honeybee/crawl/CrawlCounts" = true := by first | (simp [plainName, overriddenIn]; done) | decide +kernel
theorem ef_cf (m : MethodId) (a1 : Addr) : entryFrame m #[(.ref a1)] 1 = mkF m 0 #[.val (.ref a1)] [] := by first | (simp [entryFrame, mkF, argsToLocals, Value.category]; done) | rfl
def Q_cf (Z : State) (a1 : Addr) (f1 : Int64) (d0 : Int64) (d1 : Int64) (b : Addr) (h0 : Heap) (n0 : Nat) (v : Option Value) (h : Heap) (L : List Loc) : Prop := v = none ∧ Fr n0 L ∧ Keep h0 h [a1] ∧ Exa Z h a1 "com/example/honeybee/honeybee/crawl/CrawlCounts" ∧ Fld Z h a1 "com/example/honeybee/honeybee/crawl/CrawlCounts" "failed" "J" (.long (f1 + (1 : Int64))) ∧ Fld Z h a1 "com/example/honeybee/honeybee/crawl/CrawlCounts" "duplicates" "J" (.long d0) ∧ Fld Z h a1 "com/example/honeybee/honeybee/crawl/CrawlCounts" "disallowed" "J" (.long d1) ∧ Fld Z h a1 "com/example/honeybee/honeybee/crawl/CrawlCounts" "byClass" "[J" (.ref b)
set_option maxRecDepth 65536 in
set_option maxHeartbeats 40000000 in
theorem rm_cf (l : Launch) (Z : State) (a0 : Array Value) (hw : ∀ d ∈ tables_1, d.before a0 Z = true) (ws : List Jvm.Cond) (a1 : Addr) (f1 : Int64) (d0 : Int64) (d1 : Int64) (b : Addr) (h0 : Heap) (n0 : Nat) (Z0 : n0 ≤ h0.size) (E1 : Exa Z h0 a1 "com/example/honeybee/honeybee/crawl/CrawlCounts") (F_failed : Fld Z h0 a1 "com/example/honeybee/honeybee/crawl/CrawlCounts" "failed" "J" (.long f1)) (F_duplicates : Fld Z h0 a1 "com/example/honeybee/honeybee/crawl/CrawlCounts" "duplicates" "J" (.long d0)) (F_disallowed : Fld Z h0 a1 "com/example/honeybee/honeybee/crawl/CrawlCounts" "disallowed" "J" (.long d1)) (F_byClass : Fld Z h0 a1 "com/example/honeybee/honeybee/crawl/CrawlCounts" "byClass" "[J" (.ref b)) (g1 : n0 ≤ a1) :
    MetFree l (⟨"com/example/honeybee/honeybee/crawl/CrawlCounts", "countFailure", "()V"⟩ : MethodName) (head1 (Jvm.Cond.code (⟨"com/example/honeybee/honeybee/crawl/CrawlCounts", "countFailure", "()V"⟩ : MethodName) prog_1_method_3_code 1 none :: ws) ({ frames := 0, cells := 0, slots := 0, locals := 0 } : Room)) (fun a U => a = #[(.ref a1)] ∧ Z.Warmed39 U.vm ∧ U.heap = h0) (fun _ _ _ _ _ => True) (fun _ U o U' => ∃ v L, o = .returned v ∧ Q_cf Z a1 f1 d0 d1 b h0 n0 v U'.heap L ∧ FrameEnd U o U' L ({ frames := 0, cells := 0, slots := 0, locals := 0 } : Room).cells ({ frames := 0, cells := 0, slots := 0, locals := 0 } : Room).slots) := by
  refine MetFree.of_bodySF (plainFor_of_name pn_cf) hisR ?_
  intro p e s m args below meth c s₁ Bd hml0 hP hK
  obtain ⟨rfl, hZ, hh⟩ := hP
  have hx := Bd.exec
  have hby := Bd.bytes
  have hml : c.maxLocals = 1 := hml0
  have hown : s.vm.findClass "com/example/honeybee/honeybee/crawl/CrawlCounts" = some m.cls := findClass_of_methodNamed Bd.named
  have hnm := (name_of_methodNamed Bd.named Bd.method).1
  have X0 : Stand p l e ({ frames := 0, cells := 0, slots := 0, locals := 0 } : Room) s m #[(.ref a1)] below meth c s₁ [] 0 0 := Stand.of_body Bd
  have e0 : s₁.heap = h0 := by rw [← hh, Bd.state]; rfl
  have N0 := Fr.nil n0
  refine own_in ?_
  refine own_go (S' := s₁.setTop (mkF m 0 #[.val (.ref a1)] [])) (fun tgt_ stp_ => castTop (ef_cf m a1) stp_) ?_
  have K0 : Keep h0 h0 [a1] := Keep.refl h0 _
  obtain ⟨T_1, X_1, e_1, st_1⟩ := getF X0 hx hZ hown (host := "") (Or.inl (hw _ (List.mem_of_getElem? (i := 17) rfl))) Via.refl e0 F_failed (g := (mkF m 2 #[.val (.ref a1)] [(.ref a1), (.ref a1)])) rfl rfl (hb hby d_cf_2)
  obtain ⟨T_2, h_2, X_2, e_2, W_2, st_2⟩ := putF X_1 hx hZ hown (host := "") (Or.inl (hw _ (List.mem_of_getElem? (i := 17) rfl))) Via.refl e_1 F_failed E1 (Or.inl (hw _ (List.mem_of_getElem? (i := 18) rfl))) (hw _ (List.mem_of_getElem? (i := 1) rfl)) (ty := .long) (by decide) rfl rfl (g := (mkF m 7 #[.val (.ref a1)] [(.long (f1 + (1 : Int64))), (.ref a1)])) rfl rfl (hb hby d_cf_7)
  have N_2 := Fr.snoc X_2 N0 g1
  have F_2 := F_failed.same W_2
  have Z_3 : n0 ≤ h_2.size := Nat.le_trans Z0 (Keep.of_wr W_2).1
  have K_4 : Keep h0 h_2 [a1] := K0.wr W_2 (Or.inl (List.mem_of_getElem? (i := 0) rfl))
  refine own_go (S' := T_2.setTop (mkF m 10 #[.val (.ref a1)] [])) (fun target kt => ?_) ?_
  · show Steps p.tables e below (s₁.setTop (mkF m 0 #[.val (.ref a1)] [])) target
    refine XS.aloadN X0.here hx rfl (hb hby d_cf_0) rfl rfl ?_
    show Steps p.tables e below (s₁.setTop (mkF m 1 #[.val (.ref a1)] [(.ref a1)])) target
    refine XS.dup X0.here hx rfl (hb hby d_cf_1) rfl rfl ?_
    show Steps p.tables e below (s₁.setTop (mkF m 2 #[.val (.ref a1)] [(.ref a1), (.ref a1)])) target
    refine st_1 _ ?_
    show Steps p.tables e below (T_1.setTop (mkF m 5 #[.val (.ref a1)] [(.long f1), (.ref a1)])) target
    refine XS.lconst X_1.here hx rfl (hb hby d_cf_5) ?_
    show Steps p.tables e below (T_1.setTop (mkF m 6 #[.val (.ref a1)] [(.long (1 : Int64)), (.long f1), (.ref a1)])) target
    refine XS.ladd X_1.here hx rfl (hb hby d_cf_6) rfl ?_
    show Steps p.tables e below (T_1.setTop (mkF m 7 #[.val (.ref a1)] [(.long (f1 + (1 : Int64))), (.ref a1)])) target
    refine st_2 _ ?_
    show Steps p.tables e below (T_2.setTop (mkF m 10 #[.val (.ref a1)] [])) target
    exact kt
  obtain ⟨fs, hr, hrun, hended, hW, hsame⟩ := X_2.leave (v := none) (fun _ => rfl)
  refine ⟨_, _, X_2.returnOut hx Bd.returns (hb hby d_cf_10) hr, hrun, hended, _, _, rfl, ?_, ⟨_, rfl⟩, hW, hsame.mono (by decide) (by decide)⟩
  show Q_cf Z a1 f1 d0 d1 b h0 n0 _ T_2.heap _
  rw [e_2]
  have f_5 := (E1.wr W_2)
  have f_6 := (F_duplicates.other W_2 (Or.inr (slot_ne (Or.inl (hw _ (List.mem_of_getElem? (i := 36) rfl))) (Or.inl (hw _ (List.mem_of_getElem? (i := 18) rfl))) (by decide) (t := .long) (t' := .long) (by decide) (by decide))))
  have f_7 := (F_disallowed.other W_2 (Or.inr (slot_ne (Or.inl (hw _ (List.mem_of_getElem? (i := 43) rfl))) (Or.inl (hw _ (List.mem_of_getElem? (i := 18) rfl))) (by decide) (t := .long) (t' := .long) (by decide) (by decide))))
  have f_8 := (F_byClass.other W_2 (Or.inr (slot_ne (Or.inr (hw _ (List.mem_of_getElem? (i := 11) rfl))) (Or.inl (hw _ (List.mem_of_getElem? (i := 18) rfl))) (by decide) (t := (.array .long)) (t' := .long) (by decide) (by decide))))
  exact ⟨rfl, N_2, K_4, f_5, F_2, f_6, f_7, f_8⟩
-- com/example/honeybee/honeybee/crawl/CrawlCounts.countDuplicate:()V
theorem d_cd_0 : decode prog_1_method_4_code 0 = .ok (.aload_n 0, 1) := by decide +kernel
theorem d_cd_1 : decode prog_1_method_4_code 1 = .ok (.dup, 1) := by decide +kernel
theorem d_cd_2 : decode prog_1_method_4_code 2 = .ok (.getfield 17, 3) := by decide +kernel
theorem d_cd_5 : decode prog_1_method_4_code 5 = .ok (.lconst 1, 1) := by decide +kernel
theorem d_cd_6 : decode prog_1_method_4_code 6 = .ok (.ladd, 1) := by decide +kernel
theorem d_cd_7 : decode prog_1_method_4_code 7 = .ok (.putfield 17, 3) := by decide +kernel
theorem d_cd_10 : decode prog_1_method_4_code 10 = .ok (.return_, 1) := by decide +kernel
theorem pn_cd : plainName "com/example/honeybee/honeybee/crawl/CrawlCounts" = true := by first | (simp [plainName, overriddenIn]; done) | decide +kernel
theorem ef_cd (m : MethodId) (a1 : Addr) : entryFrame m #[(.ref a1)] 1 = mkF m 0 #[.val (.ref a1)] [] := by first | (simp [entryFrame, mkF, argsToLocals, Value.category]; done) | rfl
def Q_cd (Z : State) (a1 : Addr) (f1 : Int64) (d0 : Int64) (d1 : Int64) (b : Addr) (h0 : Heap) (n0 : Nat) (v : Option Value) (h : Heap) (L : List Loc) : Prop := v = none ∧ Fr n0 L ∧ Keep h0 h [a1] ∧ Exa Z h a1 "com/example/honeybee/honeybee/crawl/CrawlCounts" ∧ Fld Z h a1 "com/example/honeybee/honeybee/crawl/CrawlCounts" "failed" "J" (.long f1) ∧ Fld Z h a1 "com/example/honeybee/honeybee/crawl/CrawlCounts" "duplicates" "J" (.long (d0 + (1 : Int64))) ∧ Fld Z h a1 "com/example/honeybee/honeybee/crawl/CrawlCounts" "disallowed" "J" (.long d1) ∧ Fld Z h a1 "com/example/honeybee/honeybee/crawl/CrawlCounts" "byClass" "[J" (.ref b)
set_option maxRecDepth 65536 in
set_option maxHeartbeats 40000000 in
theorem rm_cd (l : Launch) (Z : State) (a0 : Array Value) (hw : ∀ d ∈ tables_1, d.before a0 Z = true) (ws : List Jvm.Cond) (a1 : Addr) (f1 : Int64) (d0 : Int64) (d1 : Int64) (b : Addr) (h0 : Heap) (n0 : Nat) (Z0 : n0 ≤ h0.size) (E1 : Exa Z h0 a1 "com/example/honeybee/honeybee/crawl/CrawlCounts") (F_failed : Fld Z h0 a1 "com/example/honeybee/honeybee/crawl/CrawlCounts" "failed" "J" (.long f1)) (F_duplicates : Fld Z h0 a1 "com/example/honeybee/honeybee/crawl/CrawlCounts" "duplicates" "J" (.long d0)) (F_disallowed : Fld Z h0 a1 "com/example/honeybee/honeybee/crawl/CrawlCounts" "disallowed" "J" (.long d1)) (F_byClass : Fld Z h0 a1 "com/example/honeybee/honeybee/crawl/CrawlCounts" "byClass" "[J" (.ref b)) (g1 : n0 ≤ a1) :
    MetFree l (⟨"com/example/honeybee/honeybee/crawl/CrawlCounts", "countDuplicate", "()V"⟩ : MethodName) (head1 (Jvm.Cond.code (⟨"com/example/honeybee/honeybee/crawl/CrawlCounts", "countDuplicate", "()V"⟩ : MethodName) prog_1_method_4_code 1 none :: ws) ({ frames := 0, cells := 0, slots := 0, locals := 0 } : Room)) (fun a U => a = #[(.ref a1)] ∧ Z.Warmed39 U.vm ∧ U.heap = h0) (fun _ _ _ _ _ => True) (fun _ U o U' => ∃ v L, o = .returned v ∧ Q_cd Z a1 f1 d0 d1 b h0 n0 v U'.heap L ∧ FrameEnd U o U' L ({ frames := 0, cells := 0, slots := 0, locals := 0 } : Room).cells ({ frames := 0, cells := 0, slots := 0, locals := 0 } : Room).slots) := by
  refine MetFree.of_bodySF (plainFor_of_name pn_cd) hisR ?_
  intro p e s m args below meth c s₁ Bd hml0 hP hK
  obtain ⟨rfl, hZ, hh⟩ := hP
  have hx := Bd.exec
  have hby := Bd.bytes
  have hml : c.maxLocals = 1 := hml0
  have hown : s.vm.findClass "com/example/honeybee/honeybee/crawl/CrawlCounts" = some m.cls := findClass_of_methodNamed Bd.named
  have hnm := (name_of_methodNamed Bd.named Bd.method).1
  have X0 : Stand p l e ({ frames := 0, cells := 0, slots := 0, locals := 0 } : Room) s m #[(.ref a1)] below meth c s₁ [] 0 0 := Stand.of_body Bd
  have e0 : s₁.heap = h0 := by rw [← hh, Bd.state]; rfl
  have N0 := Fr.nil n0
  refine own_in ?_
  refine own_go (S' := s₁.setTop (mkF m 0 #[.val (.ref a1)] [])) (fun tgt_ stp_ => castTop (ef_cd m a1) stp_) ?_
  have K0 : Keep h0 h0 [a1] := Keep.refl h0 _
  obtain ⟨T_1, X_1, e_1, st_1⟩ := getF X0 hx hZ hown (host := "") (Or.inl (hw _ (List.mem_of_getElem? (i := 35) rfl))) Via.refl e0 F_duplicates (g := (mkF m 2 #[.val (.ref a1)] [(.ref a1), (.ref a1)])) rfl rfl (hb hby d_cd_2)
  obtain ⟨T_2, h_2, X_2, e_2, W_2, st_2⟩ := putF X_1 hx hZ hown (host := "") (Or.inl (hw _ (List.mem_of_getElem? (i := 35) rfl))) Via.refl e_1 F_duplicates E1 (Or.inl (hw _ (List.mem_of_getElem? (i := 36) rfl))) (hw _ (List.mem_of_getElem? (i := 1) rfl)) (ty := .long) (by decide) rfl rfl (g := (mkF m 7 #[.val (.ref a1)] [(.long (d0 + (1 : Int64))), (.ref a1)])) rfl rfl (hb hby d_cd_7)
  have N_2 := Fr.snoc X_2 N0 g1
  have F_2 := F_duplicates.same W_2
  have Z_3 : n0 ≤ h_2.size := Nat.le_trans Z0 (Keep.of_wr W_2).1
  have K_4 : Keep h0 h_2 [a1] := K0.wr W_2 (Or.inl (List.mem_of_getElem? (i := 0) rfl))
  refine own_go (S' := T_2.setTop (mkF m 10 #[.val (.ref a1)] [])) (fun target kt => ?_) ?_
  · show Steps p.tables e below (s₁.setTop (mkF m 0 #[.val (.ref a1)] [])) target
    refine XS.aloadN X0.here hx rfl (hb hby d_cd_0) rfl rfl ?_
    show Steps p.tables e below (s₁.setTop (mkF m 1 #[.val (.ref a1)] [(.ref a1)])) target
    refine XS.dup X0.here hx rfl (hb hby d_cd_1) rfl rfl ?_
    show Steps p.tables e below (s₁.setTop (mkF m 2 #[.val (.ref a1)] [(.ref a1), (.ref a1)])) target
    refine st_1 _ ?_
    show Steps p.tables e below (T_1.setTop (mkF m 5 #[.val (.ref a1)] [(.long d0), (.ref a1)])) target
    refine XS.lconst X_1.here hx rfl (hb hby d_cd_5) ?_
    show Steps p.tables e below (T_1.setTop (mkF m 6 #[.val (.ref a1)] [(.long (1 : Int64)), (.long d0), (.ref a1)])) target
    refine XS.ladd X_1.here hx rfl (hb hby d_cd_6) rfl ?_
    show Steps p.tables e below (T_1.setTop (mkF m 7 #[.val (.ref a1)] [(.long (d0 + (1 : Int64))), (.ref a1)])) target
    refine st_2 _ ?_
    show Steps p.tables e below (T_2.setTop (mkF m 10 #[.val (.ref a1)] [])) target
    exact kt
  obtain ⟨fs, hr, hrun, hended, hW, hsame⟩ := X_2.leave (v := none) (fun _ => rfl)
  refine ⟨_, _, X_2.returnOut hx Bd.returns (hb hby d_cd_10) hr, hrun, hended, _, _, rfl, ?_, ⟨_, rfl⟩, hW, hsame.mono (by decide) (by decide)⟩
  show Q_cd Z a1 f1 d0 d1 b h0 n0 _ T_2.heap _
  rw [e_2]
  have f_5 := (E1.wr W_2)
  have f_6 := (F_failed.other W_2 (Or.inr (slot_ne (Or.inl (hw _ (List.mem_of_getElem? (i := 18) rfl))) (Or.inl (hw _ (List.mem_of_getElem? (i := 36) rfl))) (by decide) (t := .long) (t' := .long) (by decide) (by decide))))
  have f_7 := (F_disallowed.other W_2 (Or.inr (slot_ne (Or.inl (hw _ (List.mem_of_getElem? (i := 43) rfl))) (Or.inl (hw _ (List.mem_of_getElem? (i := 36) rfl))) (by decide) (t := .long) (t' := .long) (by decide) (by decide))))
  have f_8 := (F_byClass.other W_2 (Or.inr (slot_ne (Or.inr (hw _ (List.mem_of_getElem? (i := 11) rfl))) (Or.inl (hw _ (List.mem_of_getElem? (i := 36) rfl))) (by decide) (t := (.array .long)) (t' := .long) (by decide) (by decide))))
  exact ⟨rfl, N_2, K_4, f_5, f_6, F_2, f_7, f_8⟩
-- com/example/honeybee/honeybee/crawl/CrawlCounts.countDisallowed:()V
theorem d_cx_0 : decode prog_1_method_5_code 0 = .ok (.aload_n 0, 1) := by decide +kernel
theorem d_cx_1 : decode prog_1_method_5_code 1 = .ok (.dup, 1) := by decide +kernel
theorem d_cx_2 : decode prog_1_method_5_code 2 = .ok (.getfield 20, 3) := by decide +kernel
theorem d_cx_5 : decode prog_1_method_5_code 5 = .ok (.lconst 1, 1) := by decide +kernel
theorem d_cx_6 : decode prog_1_method_5_code 6 = .ok (.ladd, 1) := by decide +kernel
theorem d_cx_7 : decode prog_1_method_5_code 7 = .ok (.putfield 20, 3) := by decide +kernel
theorem d_cx_10 : decode prog_1_method_5_code 10 = .ok (.return_, 1) := by decide +kernel
theorem pn_cx : plainName "com/example/honeybee/honeybee/crawl/CrawlCounts" = true := by first | (simp [plainName, overriddenIn]; done) | decide +kernel
theorem ef_cx (m : MethodId) (a1 : Addr) : entryFrame m #[(.ref a1)] 1 = mkF m 0 #[.val (.ref a1)] [] := by first | (simp [entryFrame, mkF, argsToLocals, Value.category]; done) | rfl
def Q_cx (Z : State) (a1 : Addr) (f1 : Int64) (d0 : Int64) (d1 : Int64) (b : Addr) (h0 : Heap) (n0 : Nat) (v : Option Value) (h : Heap) (L : List Loc) : Prop := v = none ∧ Fr n0 L ∧ Keep h0 h [a1] ∧ Exa Z h a1 "com/example/honeybee/honeybee/crawl/CrawlCounts" ∧ Fld Z h a1 "com/example/honeybee/honeybee/crawl/CrawlCounts" "failed" "J" (.long f1) ∧ Fld Z h a1 "com/example/honeybee/honeybee/crawl/CrawlCounts" "duplicates" "J" (.long d0) ∧ Fld Z h a1 "com/example/honeybee/honeybee/crawl/CrawlCounts" "disallowed" "J" (.long (d1 + (1 : Int64))) ∧ Fld Z h a1 "com/example/honeybee/honeybee/crawl/CrawlCounts" "byClass" "[J" (.ref b)
set_option maxRecDepth 65536 in
set_option maxHeartbeats 40000000 in
theorem rm_cx (l : Launch) (Z : State) (a0 : Array Value) (hw : ∀ d ∈ tables_1, d.before a0 Z = true) (ws : List Jvm.Cond) (a1 : Addr) (f1 : Int64) (d0 : Int64) (d1 : Int64) (b : Addr) (h0 : Heap) (n0 : Nat) (Z0 : n0 ≤ h0.size) (E1 : Exa Z h0 a1 "com/example/honeybee/honeybee/crawl/CrawlCounts") (F_failed : Fld Z h0 a1 "com/example/honeybee/honeybee/crawl/CrawlCounts" "failed" "J" (.long f1)) (F_duplicates : Fld Z h0 a1 "com/example/honeybee/honeybee/crawl/CrawlCounts" "duplicates" "J" (.long d0)) (F_disallowed : Fld Z h0 a1 "com/example/honeybee/honeybee/crawl/CrawlCounts" "disallowed" "J" (.long d1)) (F_byClass : Fld Z h0 a1 "com/example/honeybee/honeybee/crawl/CrawlCounts" "byClass" "[J" (.ref b)) (g1 : n0 ≤ a1) :
    MetFree l (⟨"com/example/honeybee/honeybee/crawl/CrawlCounts", "countDisallowed", "()V"⟩ : MethodName) (head1 (Jvm.Cond.code (⟨"com/example/honeybee/honeybee/crawl/CrawlCounts", "countDisallowed", "()V"⟩ : MethodName) prog_1_method_5_code 1 none :: ws) ({ frames := 0, cells := 0, slots := 0, locals := 0 } : Room)) (fun a U => a = #[(.ref a1)] ∧ Z.Warmed39 U.vm ∧ U.heap = h0) (fun _ _ _ _ _ => True) (fun _ U o U' => ∃ v L, o = .returned v ∧ Q_cx Z a1 f1 d0 d1 b h0 n0 v U'.heap L ∧ FrameEnd U o U' L ({ frames := 0, cells := 0, slots := 0, locals := 0 } : Room).cells ({ frames := 0, cells := 0, slots := 0, locals := 0 } : Room).slots) := by
  refine MetFree.of_bodySF (plainFor_of_name pn_cx) hisR ?_
  intro p e s m args below meth c s₁ Bd hml0 hP hK
  obtain ⟨rfl, hZ, hh⟩ := hP
  have hx := Bd.exec
  have hby := Bd.bytes
  have hml : c.maxLocals = 1 := hml0
  have hown : s.vm.findClass "com/example/honeybee/honeybee/crawl/CrawlCounts" = some m.cls := findClass_of_methodNamed Bd.named
  have hnm := (name_of_methodNamed Bd.named Bd.method).1
  have X0 : Stand p l e ({ frames := 0, cells := 0, slots := 0, locals := 0 } : Room) s m #[(.ref a1)] below meth c s₁ [] 0 0 := Stand.of_body Bd
  have e0 : s₁.heap = h0 := by rw [← hh, Bd.state]; rfl
  have N0 := Fr.nil n0
  refine own_in ?_
  refine own_go (S' := s₁.setTop (mkF m 0 #[.val (.ref a1)] [])) (fun tgt_ stp_ => castTop (ef_cx m a1) stp_) ?_
  have K0 : Keep h0 h0 [a1] := Keep.refl h0 _
  obtain ⟨T_1, X_1, e_1, st_1⟩ := getF X0 hx hZ hown (host := "") (Or.inl (hw _ (List.mem_of_getElem? (i := 42) rfl))) Via.refl e0 F_disallowed (g := (mkF m 2 #[.val (.ref a1)] [(.ref a1), (.ref a1)])) rfl rfl (hb hby d_cx_2)
  obtain ⟨T_2, h_2, X_2, e_2, W_2, st_2⟩ := putF X_1 hx hZ hown (host := "") (Or.inl (hw _ (List.mem_of_getElem? (i := 42) rfl))) Via.refl e_1 F_disallowed E1 (Or.inl (hw _ (List.mem_of_getElem? (i := 43) rfl))) (hw _ (List.mem_of_getElem? (i := 1) rfl)) (ty := .long) (by decide) rfl rfl (g := (mkF m 7 #[.val (.ref a1)] [(.long (d1 + (1 : Int64))), (.ref a1)])) rfl rfl (hb hby d_cx_7)
  have N_2 := Fr.snoc X_2 N0 g1
  have F_2 := F_disallowed.same W_2
  have Z_3 : n0 ≤ h_2.size := Nat.le_trans Z0 (Keep.of_wr W_2).1
  have K_4 : Keep h0 h_2 [a1] := K0.wr W_2 (Or.inl (List.mem_of_getElem? (i := 0) rfl))
  refine own_go (S' := T_2.setTop (mkF m 10 #[.val (.ref a1)] [])) (fun target kt => ?_) ?_
  · show Steps p.tables e below (s₁.setTop (mkF m 0 #[.val (.ref a1)] [])) target
    refine XS.aloadN X0.here hx rfl (hb hby d_cx_0) rfl rfl ?_
    show Steps p.tables e below (s₁.setTop (mkF m 1 #[.val (.ref a1)] [(.ref a1)])) target
    refine XS.dup X0.here hx rfl (hb hby d_cx_1) rfl rfl ?_
    show Steps p.tables e below (s₁.setTop (mkF m 2 #[.val (.ref a1)] [(.ref a1), (.ref a1)])) target
    refine st_1 _ ?_
    show Steps p.tables e below (T_1.setTop (mkF m 5 #[.val (.ref a1)] [(.long d1), (.ref a1)])) target
    refine XS.lconst X_1.here hx rfl (hb hby d_cx_5) ?_
    show Steps p.tables e below (T_1.setTop (mkF m 6 #[.val (.ref a1)] [(.long (1 : Int64)), (.long d1), (.ref a1)])) target
    refine XS.ladd X_1.here hx rfl (hb hby d_cx_6) rfl ?_
    show Steps p.tables e below (T_1.setTop (mkF m 7 #[.val (.ref a1)] [(.long (d1 + (1 : Int64))), (.ref a1)])) target
    refine st_2 _ ?_
    show Steps p.tables e below (T_2.setTop (mkF m 10 #[.val (.ref a1)] [])) target
    exact kt
  obtain ⟨fs, hr, hrun, hended, hW, hsame⟩ := X_2.leave (v := none) (fun _ => rfl)
  refine ⟨_, _, X_2.returnOut hx Bd.returns (hb hby d_cx_10) hr, hrun, hended, _, _, rfl, ?_, ⟨_, rfl⟩, hW, hsame.mono (by decide) (by decide)⟩
  show Q_cx Z a1 f1 d0 d1 b h0 n0 _ T_2.heap _
  rw [e_2]
  have f_5 := (E1.wr W_2)
  have f_6 := (F_failed.other W_2 (Or.inr (slot_ne (Or.inl (hw _ (List.mem_of_getElem? (i := 18) rfl))) (Or.inl (hw _ (List.mem_of_getElem? (i := 43) rfl))) (by decide) (t := .long) (t' := .long) (by decide) (by decide))))
  have f_7 := (F_duplicates.other W_2 (Or.inr (slot_ne (Or.inl (hw _ (List.mem_of_getElem? (i := 36) rfl))) (Or.inl (hw _ (List.mem_of_getElem? (i := 43) rfl))) (by decide) (t := .long) (t' := .long) (by decide) (by decide))))
  have f_8 := (F_byClass.other W_2 (Or.inr (slot_ne (Or.inr (hw _ (List.mem_of_getElem? (i := 11) rfl))) (Or.inl (hw _ (List.mem_of_getElem? (i := 43) rfl))) (by decide) (t := (.array .long)) (t' := .long) (by decide) (by decide))))
  exact ⟨rfl, N_2, K_4, f_5, f_6, f_7, F_2, f_8⟩
-- com/example/honeybee/honeybee/crawl/CrawlCountsPagesPinLaw.law:(IIII)Z
theorem pn_law : plainName "com/example/honeybee/honeybee/crawl/CrawlCountsPagesPinLaw" = true := by first | (simp [plainName, overriddenIn]; done) | decide +kernel
theorem ef_law (m : MethodId) (ua : Int32) (ub : Int32) (uc : Int32) (fl : Int32) : entryFrame m #[(.int ua), (.int ub), (.int uc), (.int fl)] maxLocals = mkF m 0 #[.val (.int ua), .val (.int ub), .val (.int uc), .val (.int fl), .unset, .unset, .unset, .unset] [] := by first | (simp [entryFrame, mkF, argsToLocals, Value.category, maxLocals]; done) | rfl
def Q_law (Z : State) (ua : Int32) (ub : Int32) (uc : Int32) (fl : Int32) (h0 : Heap) (n0 : Nat) (v : Option Value) (h : Heap) (L : List Loc) : Prop := v = some (.int (1 : Int32)) ∧ Fr n0 L
set_option maxRecDepth 65536 in
set_option maxHeartbeats 40000000 in
theorem rm_law (l : Launch) (Z : State) (a0 : Array Value) (hw : ∀ d ∈ tables_1, d.before a0 Z = true) (ws : List Jvm.Cond) (ua : Int32) (ub : Int32) (uc : Int32) (fl : Int32) (h0 : Heap) (n0 : Nat) (Z0 : n0 ≤ h0.size) :
    MetFree l x (head1 (Jvm.Cond.code x code maxLocals ret :: ws) room_1) (fun a U => a = #[(.int ua), (.int ub), (.int uc), (.int fl)] ∧ Z.Warmed39 U.vm ∧ U.heap = h0) (fun _ _ _ _ _ => True) (fun _ U o U' => ∃ v L, o = .returned v ∧ Q_law Z ua ub uc fl h0 n0 v U'.heap L ∧ FrameEnd U o U' L room_1.cells room_1.slots) := by
  refine MetFree.of_bodySF (plainFor_of_name pn_law) hisR ?_
  intro p e s m args below meth c s₁ Bd hml0 hP hK
  obtain ⟨rfl, hZ, hh⟩ := hP
  have hx := Bd.exec
  have hby := Bd.bytes
  have hml : c.maxLocals = 8 := hml0
  have hown : s.vm.findClass "com/example/honeybee/honeybee/crawl/CrawlCountsPagesPinLaw" = some m.cls := findClass_of_methodNamed Bd.named
  have hnm := (name_of_methodNamed Bd.named Bd.method).1
  have X0 : Stand p l e room_1 s m #[(.int ua), (.int ub), (.int uc), (.int fl)] below meth c s₁ [] 0 0 := Stand.of_body Bd
  have e0 : s₁.heap = h0 := by rw [← hh, Bd.state]; rfl
  have N0 := Fr.nil n0
  refine own_in ?_
  refine own_go (S' := s₁.setTop (mkF m 0 #[.val (.int ua), .val (.int ub), .val (.int uc), .val (.int fl), .unset, .unset, .unset, .unset] [])) (fun tgt_ stp_ => castTop (ef_law m ua ub uc fl) stp_) ?_
  obtain ⟨T_1, h_1, X_1, e_1, E_1, A_1, D_1, -, st_1⟩ := newO X0 hx hZ hown (hw _ (List.mem_of_getElem? (i := 0) rfl)) (hw _ (List.mem_of_getElem? (i := 1) rfl)) (hw _ (List.mem_of_getElem? (i := 2) rfl)) e0 (g := (mkF m 0 #[.val (.int ua), .val (.int ub), .val (.int uc), .val (.int fl), .unset, .unset, .unset, .unset] [])) rfl (hb hby at_0) (by decide) (by decide)
  obtain ⟨b_1, g_1⟩ : ∃ z, z = h0.size := ⟨_, rfl⟩
  rw [← g_1] at A_1 D_1 st_1
  have gn_b_1 : n0 ≤ b_1 := Nat.le_trans Z0 (Nat.le_of_eq g_1.symm)
  have Z_2 : n0 ≤ h_1.size := Nat.le_trans Z0 E_1.1
  have F_1_byClass : Fld Z h_1 b_1 "com/example/honeybee/honeybee/crawl/CrawlCounts" "byClass" "[J" .null := D_1 (Or.inr (hw _ (List.mem_of_getElem? (i := 11) rfl))) (ty := (.array .long)) (by decide)
  have F_1_failed : Fld Z h_1 b_1 "com/example/honeybee/honeybee/crawl/CrawlCounts" "failed" "J" (.long (0 : Int64)) := D_1 (Or.inl (hw _ (List.mem_of_getElem? (i := 18) rfl))) (ty := .long) (by decide)
  have F_1_duplicates : Fld Z h_1 b_1 "com/example/honeybee/honeybee/crawl/CrawlCounts" "duplicates" "J" (.long (0 : Int64)) := D_1 (Or.inl (hw _ (List.mem_of_getElem? (i := 36) rfl))) (ty := .long) (by decide)
  have F_1_disallowed : Fld Z h_1 b_1 "com/example/honeybee/honeybee/crawl/CrawlCounts" "disallowed" "J" (.long (0 : Int64)) := D_1 (Or.inl (hw _ (List.mem_of_getElem? (i := 43) rfl))) (ty := .long) (by decide)
  obtain ⟨_, _, ⟨T_4, L_4, k_4, n_4⟩, -, X_4, ⟨Lc_4, hQ_4, l_4, y_4, z_4⟩, st_4⟩ := X_1.specialBack hx (y := (⟨"com/example/honeybee/honeybee/crawl/CrawlCounts", "<init>", "()V"⟩ : MethodName)) rfl hown (mvT hZ (hw _ (List.mem_of_getElem? (i := 3) rfl))) (mvT hZ (hw _ (List.mem_of_getElem? (i := 4) rfl))) (mvT hZ (hw _ (List.mem_of_getElem? (i := 5) rfl))) (by decide) (backOf (W := 1) (rm_ci l Z a0 hw [] b_1  h_1 n0 Z_2 A_1 F_1_byClass F_1_failed F_1_duplicates F_1_disallowed gn_b_1) hZ (hw _ (List.mem_of_getElem? (i := 5) rfl)) (hw _ (List.mem_of_getElem? (i := 2) rfl)) (by decide) (by decide)) (g := (mkF m 4 #[.val (.int ua), .val (.int ub), .val (.int uc), .val (.int fl), .unset, .unset, .unset, .unset] [(.ref b_1), (.ref b_1)])) rfl (by rw [hml]; rfl) (Steps.refl _) (a := b_1) (argsL := []) (rest := [(.ref b_1)]) (lenOf pd__V rfl) rfl (by show 2 * 0 + _ ≤ _; exact Nat.le_of_eq rfl) (hb hby at_4) (fun _ _ => ⟨rfl, e_1, (by decide : 1 + 1 ≤ _), (by decide : 4 + 6 ≤ _)⟩)
  dsimp only [Pt.U, Pt.locs, Pt.cells, Pt.slots] at X_4 l_4 y_4 z_4 st_4 hQ_4
  subst l_4 y_4 z_4
  obtain ⟨bx_4, kx_4, rfl, N_4q, p_4_0, p_4_1, p_4_2, p_4_3, p_4_4, p_4_5, p_4_6, p_4_7, p_4_8⟩ := hQ_4
  have N_4 := Fr.app N0 N_4q
  have Z_5 : n0 ≤ T_4.heap.size := Nat.le_trans Z_2 p_4_0.1
  have gn_bx_4 : n0 ≤ bx_4 := Nat.le_trans Z_2 p_4_6
  have ne_b_1_bx_4 : b_1 ≠ bx_4 := Nat.ne_of_lt (Nat.lt_of_lt_of_le A_1.lt p_4_6)
  obtain ⟨cq_7, kq_7, q_7a, q_7b, q_7c⟩ := isOf hZ rfl p_4_1
  obtain ⟨_, _, ⟨T_7, L_7, k_7, n_7⟩, -, X_7, ⟨Lc_7, hQ_7, l_7, y_7, z_7⟩, st_7⟩ := X_4.virtualBack hx (y := (⟨"com/example/honeybee/honeybee/crawl/CrawlCounts", "pages", "()J"⟩ : MethodName)) (z := (⟨"com/example/honeybee/honeybee/crawl/CrawlCounts", "pages", "()J"⟩ : MethodName)) hown (mvT hZ (hw _ (List.mem_of_getElem? (i := 12) rfl))) (mvT hZ (hw _ (List.mem_of_getElem? (i := 13) rfl))) (notFace_of_selects (args := #[]) (mvT hZ (hw _ (List.mem_of_getElem? (i := 15) rfl)))) (mvT hZ (hw _ (List.mem_of_getElem? (i := 15) rfl))) (mvT hZ (hw _ (List.mem_of_getElem? (i := 14) rfl))) (by decide) (backOf (W := 0) (rm_pages l Z a0 hw [] b_1 bx_4 kx_4 (0 : Int64) (0 : Int64) (0 : Int64) (0 : Int64) (0 : Int64) (0 : Int64) (0 : Int64) T_4.heap n0 Z_5 p_4_1 p_4_2 p_4_3 p_4_8) hZ (hw _ (List.mem_of_getElem? (i := 16) rfl)) (hw _ (List.mem_of_getElem? (i := 2) rfl)) (by decide) (by decide)) q_7a q_7c (g := (mkF m 11 #[.val (.int ua), .val (.int ub), .val (.int uc), .val (.int fl), .val (.ref b_1), .unset, .unset, .unset] [(.ref b_1)])) rfl (by rw [hml]; rfl) (Steps.refl _) (argsL := []) (rest := []) (lenOf pd__J rfl) rfl (by show 2 * 0 + _ ≤ _; exact Nat.le_of_eq rfl) (hb hby at_11) (fun _ _ => ⟨rfl, rfl, (by decide : 2 + 0 ≤ _), (by decide : 10 + 0 ≤ _)⟩)
  dsimp only [Pt.U, Pt.locs, Pt.cells, Pt.slots] at X_7 l_7 y_7 z_7 st_7 hQ_7
  subst l_7 y_7 z_7
  obtain ⟨rfl, N_7q, p_7_0⟩ := hQ_7
  have N_7 := Fr.app N_4 N_7q
  obtain ⟨cq_8, kq_8, q_8a, q_8b, q_8c⟩ := isOf hZ p_7_0 p_4_1
  obtain ⟨_, _, ⟨T_8, L_8, k_8, n_8⟩, -, X_8, ⟨Lc_8, hQ_8, l_8, y_8, z_8⟩, st_8⟩ := X_7.virtualBack hx (y := (⟨"com/example/honeybee/honeybee/crawl/CrawlCounts", "countAnswer", "(I)V"⟩ : MethodName)) (z := (⟨"com/example/honeybee/honeybee/crawl/CrawlCounts", "countAnswer", "(I)V"⟩ : MethodName)) hown (mvT hZ (hw _ (List.mem_of_getElem? (i := 19) rfl))) (mvT hZ (hw _ (List.mem_of_getElem? (i := 20) rfl))) (notFace_of_selects (args := #[]) (mvT hZ (hw _ (List.mem_of_getElem? (i := 22) rfl)))) (mvT hZ (hw _ (List.mem_of_getElem? (i := 22) rfl))) (mvT hZ (hw _ (List.mem_of_getElem? (i := 21) rfl))) (by decide) (backOf (W := 0) (rm_ca l Z a0 hw [] b_1 ua bx_4 kx_4 (0 : Int64) (0 : Int64) (0 : Int64) (0 : Int64) (0 : Int64) (0 : Int64) (0 : Int64) (0 : Int64) (0 : Int64) T_4.heap n0 Z_5 p_4_1 p_4_2 p_4_3 p_4_8 p_4_4 p_4_5 gn_b_1 gn_bx_4 p_4_7) hZ (hw _ (List.mem_of_getElem? (i := 23) rfl)) (hw _ (List.mem_of_getElem? (i := 2) rfl)) (by decide) (by decide)) q_8a q_8c (g := (mkF m 29 #[.val (.int ua), .val (.int ub), .val (.int uc), .val (.int fl), .val (.ref b_1), .val (.int (1 : Int32)), .unset, .unset] [(.int ua), (.ref b_1)])) rfl (by rw [hml]; rfl) (Steps.refl _) (argsL := [(.int ua)]) (rest := []) (lenOf pd_I_V rfl) rfl (by show 2 * 0 + _ ≤ _; exact Nat.le_of_eq rfl) (hb hby at_29) (fun _ _ => ⟨rfl, p_7_0, (by decide : 2 + 0 ≤ _), (by decide : 10 + 0 ≤ _)⟩)
  dsimp only [Pt.U, Pt.locs, Pt.cells, Pt.slots] at X_8 l_8 y_8 z_8 st_8 hQ_8
  subst l_8 y_8 z_8
  obtain ⟨rfl, N_8q, p_8_0, p_8_1, p_8_2, p_8_3, p_8_4, p_8_5, p_8_6⟩ := hQ_8
  have N_8 := Fr.app N_7 N_8q
  have Z_9 : n0 ≤ T_8.heap.size := Nat.le_trans Z_5 p_8_0.1
  obtain ⟨cq_11, kq_11, q_11a, q_11b, q_11c⟩ := isOf hZ rfl p_8_1
  obtain ⟨_, _, ⟨T_11, L_11, k_11, n_11⟩, -, X_11, ⟨Lc_11, hQ_11, l_11, y_11, z_11⟩, st_11⟩ := X_8.virtualBack hx (y := (⟨"com/example/honeybee/honeybee/crawl/CrawlCounts", "countAnswer", "(I)V"⟩ : MethodName)) (z := (⟨"com/example/honeybee/honeybee/crawl/CrawlCounts", "countAnswer", "(I)V"⟩ : MethodName)) hown (mvT hZ (hw _ (List.mem_of_getElem? (i := 19) rfl))) (mvT hZ (hw _ (List.mem_of_getElem? (i := 20) rfl))) (notFace_of_selects (args := #[]) (mvT hZ (hw _ (List.mem_of_getElem? (i := 22) rfl)))) (mvT hZ (hw _ (List.mem_of_getElem? (i := 22) rfl))) (mvT hZ (hw _ (List.mem_of_getElem? (i := 21) rfl))) (by decide) (backOf (W := 0) (rm_ca l Z a0 hw [] b_1 ub bx_4 kx_4 (0 : Int64) (0 : Int64) ((0 : Int64) + own_hit ua (2 : Int32)) ((0 : Int64) + own_hit ua (3 : Int32)) ((0 : Int64) + own_hit ua (4 : Int32)) ((0 : Int64) + own_hit ua (5 : Int32)) ((0 : Int64) + own_hit ua (-1 : Int32)) (0 : Int64) (0 : Int64) T_8.heap n0 Z_9 p_8_1 p_8_2 p_8_3 p_8_6 p_8_4 p_8_5 gn_b_1 gn_bx_4 p_4_7) hZ (hw _ (List.mem_of_getElem? (i := 23) rfl)) (hw _ (List.mem_of_getElem? (i := 2) rfl)) (by decide) (by decide)) q_11a q_11c (g := (mkF m 35 #[.val (.int ua), .val (.int ub), .val (.int uc), .val (.int fl), .val (.ref b_1), .val (.int (1 : Int32)), .unset, .unset] [(.int ub), (.ref b_1)])) rfl (by rw [hml]; rfl) (Steps.refl _) (argsL := [(.int ub)]) (rest := []) (lenOf pd_I_V rfl) rfl (by show 2 * 0 + _ ≤ _; exact Nat.le_of_eq rfl) (hb hby at_35) (fun _ _ => ⟨rfl, rfl, (by decide : 2 + 0 ≤ _), (by decide : 10 + 0 ≤ _)⟩)
  dsimp only [Pt.U, Pt.locs, Pt.cells, Pt.slots] at X_11 l_11 y_11 z_11 st_11 hQ_11
  subst l_11 y_11 z_11
  obtain ⟨rfl, N_11q, p_11_0, p_11_1, p_11_2, p_11_3, p_11_4, p_11_5, p_11_6⟩ := hQ_11
  have N_11 := Fr.app N_8 N_11q
  have Z_12 : n0 ≤ T_11.heap.size := Nat.le_trans Z_9 p_11_0.1
  obtain ⟨cq_14, kq_14, q_14a, q_14b, q_14c⟩ := isOf hZ rfl p_11_1
  obtain ⟨_, _, ⟨T_14, L_14, k_14, n_14⟩, -, X_14, ⟨Lc_14, hQ_14, l_14, y_14, z_14⟩, st_14⟩ := X_11.virtualBack hx (y := (⟨"com/example/honeybee/honeybee/crawl/CrawlCounts", "countAnswer", "(I)V"⟩ : MethodName)) (z := (⟨"com/example/honeybee/honeybee/crawl/CrawlCounts", "countAnswer", "(I)V"⟩ : MethodName)) hown (mvT hZ (hw _ (List.mem_of_getElem? (i := 19) rfl))) (mvT hZ (hw _ (List.mem_of_getElem? (i := 20) rfl))) (notFace_of_selects (args := #[]) (mvT hZ (hw _ (List.mem_of_getElem? (i := 22) rfl)))) (mvT hZ (hw _ (List.mem_of_getElem? (i := 22) rfl))) (mvT hZ (hw _ (List.mem_of_getElem? (i := 21) rfl))) (by decide) (backOf (W := 0) (rm_ca l Z a0 hw [] b_1 uc bx_4 kx_4 (0 : Int64) (0 : Int64) (((0 : Int64) + own_hit ua (2 : Int32)) + own_hit ub (2 : Int32)) (((0 : Int64) + own_hit ua (3 : Int32)) + own_hit ub (3 : Int32)) (((0 : Int64) + own_hit ua (4 : Int32)) + own_hit ub (4 : Int32)) (((0 : Int64) + own_hit ua (5 : Int32)) + own_hit ub (5 : Int32)) (((0 : Int64) + own_hit ua (-1 : Int32)) + own_hit ub (-1 : Int32)) (0 : Int64) (0 : Int64) T_11.heap n0 Z_12 p_11_1 p_11_2 p_11_3 p_11_6 p_11_4 p_11_5 gn_b_1 gn_bx_4 p_4_7) hZ (hw _ (List.mem_of_getElem? (i := 23) rfl)) (hw _ (List.mem_of_getElem? (i := 2) rfl)) (by decide) (by decide)) q_14a q_14c (g := (mkF m 41 #[.val (.int ua), .val (.int ub), .val (.int uc), .val (.int fl), .val (.ref b_1), .val (.int (1 : Int32)), .unset, .unset] [(.int uc), (.ref b_1)])) rfl (by rw [hml]; rfl) (Steps.refl _) (argsL := [(.int uc)]) (rest := []) (lenOf pd_I_V rfl) rfl (by show 2 * 0 + _ ≤ _; exact Nat.le_of_eq rfl) (hb hby at_41) (fun _ _ => ⟨rfl, rfl, (by decide : 2 + 0 ≤ _), (by decide : 10 + 0 ≤ _)⟩)
  dsimp only [Pt.U, Pt.locs, Pt.cells, Pt.slots] at X_14 l_14 y_14 z_14 st_14 hQ_14
  subst l_14 y_14 z_14
  obtain ⟨rfl, N_14q, p_14_0, p_14_1, p_14_2, p_14_3, p_14_4, p_14_5, p_14_6⟩ := hQ_14
  have N_14 := Fr.app N_11 N_14q
  have Z_15 : n0 ≤ T_14.heap.size := Nat.le_trans Z_12 p_14_0.1
  refine own_go (S' := T_14.setTop (mkF m 52 #[.val (.int ua), .val (.int ub), .val (.int uc), .val (.int fl), .val (.ref b_1), .val (.int (1 : Int32)), .val (.long (3 : Int64)), .second] [(.int (fl &&& (1 : Int32)))])) (fun target kt => ?_) ?_
  · show Steps p.tables e below (s₁.setTop (mkF m 0 #[.val (.int ua), .val (.int ub), .val (.int uc), .val (.int fl), .unset, .unset, .unset, .unset] [])) target
    refine st_1 _ ?_
    show Steps p.tables e below (T_1.setTop (mkF m 3 #[.val (.int ua), .val (.int ub), .val (.int uc), .val (.int fl), .unset, .unset, .unset, .unset] [(.ref b_1)])) target
    refine XS.dup X_1.here hx rfl (hb hby at_3) rfl rfl ?_
    show Steps p.tables e below (T_1.setTop (mkF m 4 #[.val (.int ua), .val (.int ub), .val (.int uc), .val (.int fl), .unset, .unset, .unset, .unset] [(.ref b_1), (.ref b_1)])) target
    refine st_4.trans ?_
    show Steps p.tables e below (T_4.setTop (mkF m 7 #[.val (.int ua), .val (.int ub), .val (.int uc), .val (.int fl), .unset, .unset, .unset, .unset] [(.ref b_1)])) target
    refine XS.astore X_4.here hx rfl (hb hby at_7) rfl rfl (l' := #[.val (.int ua), .val (.int ub), .val (.int uc), .val (.int fl), .val (.ref b_1), .unset, .unset, .unset]) rfl ?_
    show Steps p.tables e below (T_4.setTop (mkF m 9 #[.val (.int ua), .val (.int ub), .val (.int uc), .val (.int fl), .val (.ref b_1), .unset, .unset, .unset] [])) target
    refine XS.aload X_4.here hx rfl (hb hby at_9) rfl rfl ?_
    show Steps p.tables e below (T_4.setTop (mkF m 11 #[.val (.int ua), .val (.int ub), .val (.int uc), .val (.int fl), .val (.ref b_1), .unset, .unset, .unset] [(.ref b_1)])) target
    refine st_7.trans ?_
    show Steps p.tables e below (T_7.setTop (mkF m 14 #[.val (.int ua), .val (.int ub), .val (.int uc), .val (.int fl), .val (.ref b_1), .unset, .unset, .unset] [(.long (((((0 : Int64) + (0 : Int64)) + (0 : Int64)) + (0 : Int64)) + (0 : Int64)))])) target
    refine XS.lconst X_7.here hx rfl (hb hby at_14) ?_
    show Steps p.tables e below (T_7.setTop (mkF m 15 #[.val (.int ua), .val (.int ub), .val (.int uc), .val (.int fl), .val (.ref b_1), .unset, .unset, .unset] [(.long (0 : Int64)), (.long (((((0 : Int64) + (0 : Int64)) + (0 : Int64)) + (0 : Int64)) + (0 : Int64)))])) target
    refine XS.lcmp X_7.here hx rfl (hb hby at_15) rfl ?_
    show Steps p.tables e below (T_7.setTop (mkF m 16 #[.val (.int ua), .val (.int ub), .val (.int uc), .val (.int fl), .val (.ref b_1), .unset, .unset, .unset] [(.int (lcmpW (((((0 : Int64) + (0 : Int64)) + (0 : Int64)) + (0 : Int64)) + (0 : Int64)) (0 : Int64)))])) target
    refine XS.ifNo X_7.here hx rfl (hb hby at_16) rfl ((if0 _ _).trans (teq (own_l1 (by decide : (((((0 : Int64) + (0 : Int64)) + (0 : Int64)) + (0 : Int64)) + (0 : Int64)) = (0 : Int64)))).2) ?_
    show Steps p.tables e below (T_7.setTop (mkF m 19 #[.val (.int ua), .val (.int ub), .val (.int uc), .val (.int fl), .val (.ref b_1), .unset, .unset, .unset] [])) target
    refine XS.iconst X_7.here hx rfl (hb hby at_19) ?_
    show Steps p.tables e below (T_7.setTop (mkF m 20 #[.val (.int ua), .val (.int ub), .val (.int uc), .val (.int fl), .val (.ref b_1), .unset, .unset, .unset] [(.int (1 : Int32))])) target
    refine XS.goto X_7.here hx rfl (pc0 := 20) (pc' := 24) rfl (hb hby at_20) (by decide) (by decide) ?_
    show Steps p.tables e below (T_7.setTop (mkF m 24 #[.val (.int ua), .val (.int ub), .val (.int uc), .val (.int fl), .val (.ref b_1), .unset, .unset, .unset] [(.int (1 : Int32))])) target
    refine XS.istore X_7.here hx rfl (hb hby at_24) rfl (l' := #[.val (.int ua), .val (.int ub), .val (.int uc), .val (.int fl), .val (.ref b_1), .val (.int (1 : Int32)), .unset, .unset]) rfl ?_
    show Steps p.tables e below (T_7.setTop (mkF m 26 #[.val (.int ua), .val (.int ub), .val (.int uc), .val (.int fl), .val (.ref b_1), .val (.int (1 : Int32)), .unset, .unset] [])) target
    refine XS.aload X_7.here hx rfl (hb hby at_26) rfl rfl ?_
    show Steps p.tables e below (T_7.setTop (mkF m 28 #[.val (.int ua), .val (.int ub), .val (.int uc), .val (.int fl), .val (.ref b_1), .val (.int (1 : Int32)), .unset, .unset] [(.ref b_1)])) target
    refine XS.iloadN X_7.here hx rfl (hb hby at_28) rfl ?_
    show Steps p.tables e below (T_7.setTop (mkF m 29 #[.val (.int ua), .val (.int ub), .val (.int uc), .val (.int fl), .val (.ref b_1), .val (.int (1 : Int32)), .unset, .unset] [(.int ua), (.ref b_1)])) target
    refine st_8.trans ?_
    show Steps p.tables e below (T_8.setTop (mkF m 32 #[.val (.int ua), .val (.int ub), .val (.int uc), .val (.int fl), .val (.ref b_1), .val (.int (1 : Int32)), .unset, .unset] [])) target
    refine XS.aload X_8.here hx rfl (hb hby at_32) rfl rfl ?_
    show Steps p.tables e below (T_8.setTop (mkF m 34 #[.val (.int ua), .val (.int ub), .val (.int uc), .val (.int fl), .val (.ref b_1), .val (.int (1 : Int32)), .unset, .unset] [(.ref b_1)])) target
    refine XS.iloadN X_8.here hx rfl (hb hby at_34) rfl ?_
    show Steps p.tables e below (T_8.setTop (mkF m 35 #[.val (.int ua), .val (.int ub), .val (.int uc), .val (.int fl), .val (.ref b_1), .val (.int (1 : Int32)), .unset, .unset] [(.int ub), (.ref b_1)])) target
    refine st_11.trans ?_
    show Steps p.tables e below (T_11.setTop (mkF m 38 #[.val (.int ua), .val (.int ub), .val (.int uc), .val (.int fl), .val (.ref b_1), .val (.int (1 : Int32)), .unset, .unset] [])) target
    refine XS.aload X_11.here hx rfl (hb hby at_38) rfl rfl ?_
    show Steps p.tables e below (T_11.setTop (mkF m 40 #[.val (.int ua), .val (.int ub), .val (.int uc), .val (.int fl), .val (.ref b_1), .val (.int (1 : Int32)), .unset, .unset] [(.ref b_1)])) target
    refine XS.iloadN X_11.here hx rfl (hb hby at_40) rfl ?_
    show Steps p.tables e below (T_11.setTop (mkF m 41 #[.val (.int ua), .val (.int ub), .val (.int uc), .val (.int fl), .val (.ref b_1), .val (.int (1 : Int32)), .unset, .unset] [(.int uc), (.ref b_1)])) target
    refine st_14.trans ?_
    show Steps p.tables e below (T_14.setTop (mkF m 44 #[.val (.int ua), .val (.int ub), .val (.int uc), .val (.int fl), .val (.ref b_1), .val (.int (1 : Int32)), .unset, .unset] [])) target
    refine X_14.ldc2Long hx hown (mvT hZ (hw _ (List.mem_of_getElem? (i := 24) rfl))) (g := (mkF m 44 #[.val (.int ua), .val (.int ub), .val (.int uc), .val (.int fl), .val (.ref b_1), .val (.int (1 : Int32)), .unset, .unset] [])) rfl (hb hby at_44) _ ?_
    show Steps p.tables e below (T_14.setTop (mkF m 47 #[.val (.int ua), .val (.int ub), .val (.int uc), .val (.int fl), .val (.ref b_1), .val (.int (1 : Int32)), .unset, .unset] [(.long (3 : Int64))])) target
    refine XS.lstore X_14.here hx rfl (hb hby at_47) rfl (l' := #[.val (.int ua), .val (.int ub), .val (.int uc), .val (.int fl), .val (.ref b_1), .val (.int (1 : Int32)), .val (.long (3 : Int64)), .second]) rfl ?_
    show Steps p.tables e below (T_14.setTop (mkF m 49 #[.val (.int ua), .val (.int ub), .val (.int uc), .val (.int fl), .val (.ref b_1), .val (.int (1 : Int32)), .val (.long (3 : Int64)), .second] [])) target
    refine XS.iloadN X_14.here hx rfl (hb hby at_49) rfl ?_
    show Steps p.tables e below (T_14.setTop (mkF m 50 #[.val (.int ua), .val (.int ub), .val (.int uc), .val (.int fl), .val (.ref b_1), .val (.int (1 : Int32)), .val (.long (3 : Int64)), .second] [(.int fl)])) target
    refine XS.iconst X_14.here hx rfl (hb hby at_50) ?_
    show Steps p.tables e below (T_14.setTop (mkF m 51 #[.val (.int ua), .val (.int ub), .val (.int uc), .val (.int fl), .val (.ref b_1), .val (.int (1 : Int32)), .val (.long (3 : Int64)), .second] [(.int (1 : Int32)), (.int fl)])) target
    refine XS.iand X_14.here hx rfl (hb hby at_51) rfl ?_
    show Steps p.tables e below (T_14.setTop (mkF m 52 #[.val (.int ua), .val (.int ub), .val (.int uc), .val (.int fl), .val (.ref b_1), .val (.int (1 : Int32)), .val (.long (3 : Int64)), .second] [(.int (fl &&& (1 : Int32)))])) target
    exact kt
  by_cases hc52 : (fl &&& (1 : Int32)) = (0 : Int32)
  · -- pc 52: yes
    refine own_go (S' := T_14.setTop (mkF m 69 #[.val (.int ua), .val (.int ub), .val (.int uc), .val (.int fl), .val (.ref b_1), .val (.int (1 : Int32)), .val (.long (3 : Int64)), .second] [(.int (fl &&& (2 : Int32)))])) (fun target kt => ?_) ?_
    · show Steps p.tables e below (T_14.setTop (mkF m 52 #[.val (.int ua), .val (.int ub), .val (.int uc), .val (.int fl), .val (.ref b_1), .val (.int (1 : Int32)), .val (.long (3 : Int64)), .second] [(.int (fl &&& (1 : Int32)))])) target
      refine XS.ifYes X_14.here hx rfl (pc0 := 52) (pc' := 66) rfl (hb hby at_52) rfl ((if0 _ _).trans (teq hc52).1) (by decide) (by decide) ?_
      show Steps p.tables e below (T_14.setTop (mkF m 66 #[.val (.int ua), .val (.int ub), .val (.int uc), .val (.int fl), .val (.ref b_1), .val (.int (1 : Int32)), .val (.long (3 : Int64)), .second] [])) target
      refine XS.iloadN X_14.here hx rfl (hb hby at_66) rfl ?_
      show Steps p.tables e below (T_14.setTop (mkF m 67 #[.val (.int ua), .val (.int ub), .val (.int uc), .val (.int fl), .val (.ref b_1), .val (.int (1 : Int32)), .val (.long (3 : Int64)), .second] [(.int fl)])) target
      refine XS.iconst X_14.here hx rfl (hb hby at_67) ?_
      show Steps p.tables e below (T_14.setTop (mkF m 68 #[.val (.int ua), .val (.int ub), .val (.int uc), .val (.int fl), .val (.ref b_1), .val (.int (1 : Int32)), .val (.long (3 : Int64)), .second] [(.int (2 : Int32)), (.int fl)])) target
      refine XS.iand X_14.here hx rfl (hb hby at_68) rfl ?_
      show Steps p.tables e below (T_14.setTop (mkF m 69 #[.val (.int ua), .val (.int ub), .val (.int uc), .val (.int fl), .val (.ref b_1), .val (.int (1 : Int32)), .val (.long (3 : Int64)), .second] [(.int (fl &&& (2 : Int32)))])) target
      exact kt
    by_cases hc69 : (fl &&& (2 : Int32)) = (0 : Int32)
    · -- pc 69: yes
      refine own_go (S' := T_14.setTop (mkF m 80 #[.val (.int ua), .val (.int ub), .val (.int uc), .val (.int fl), .val (.ref b_1), .val (.int (1 : Int32)), .val (.long (3 : Int64)), .second] [(.int (fl &&& (4 : Int32)))])) (fun target kt => ?_) ?_
      · show Steps p.tables e below (T_14.setTop (mkF m 69 #[.val (.int ua), .val (.int ub), .val (.int uc), .val (.int fl), .val (.ref b_1), .val (.int (1 : Int32)), .val (.long (3 : Int64)), .second] [(.int (fl &&& (2 : Int32)))])) target
        refine XS.ifYes X_14.here hx rfl (pc0 := 69) (pc' := 77) rfl (hb hby at_69) rfl ((if0 _ _).trans (teq hc69).1) (by decide) (by decide) ?_
        show Steps p.tables e below (T_14.setTop (mkF m 77 #[.val (.int ua), .val (.int ub), .val (.int uc), .val (.int fl), .val (.ref b_1), .val (.int (1 : Int32)), .val (.long (3 : Int64)), .second] [])) target
        refine XS.iloadN X_14.here hx rfl (hb hby at_77) rfl ?_
        show Steps p.tables e below (T_14.setTop (mkF m 78 #[.val (.int ua), .val (.int ub), .val (.int uc), .val (.int fl), .val (.ref b_1), .val (.int (1 : Int32)), .val (.long (3 : Int64)), .second] [(.int fl)])) target
        refine XS.iconst X_14.here hx rfl (hb hby at_78) ?_
        show Steps p.tables e below (T_14.setTop (mkF m 79 #[.val (.int ua), .val (.int ub), .val (.int uc), .val (.int fl), .val (.ref b_1), .val (.int (1 : Int32)), .val (.long (3 : Int64)), .second] [(.int (4 : Int32)), (.int fl)])) target
        refine XS.iand X_14.here hx rfl (hb hby at_79) rfl ?_
        show Steps p.tables e below (T_14.setTop (mkF m 80 #[.val (.int ua), .val (.int ub), .val (.int uc), .val (.int fl), .val (.ref b_1), .val (.int (1 : Int32)), .val (.long (3 : Int64)), .second] [(.int (fl &&& (4 : Int32)))])) target
        exact kt
      by_cases hc80 : (fl &&& (4 : Int32)) = (0 : Int32)
      · -- pc 80: yes
        obtain ⟨cq_17, kq_17, q_17a, q_17b, q_17c⟩ := isOf hZ rfl p_14_1
        obtain ⟨_, _, ⟨T_17, L_17, k_17, n_17⟩, -, X_17, ⟨Lc_17, hQ_17, l_17, y_17, z_17⟩, st_17⟩ := X_14.virtualBack hx (y := (⟨"com/example/honeybee/honeybee/crawl/CrawlCounts", "pages", "()J"⟩ : MethodName)) (z := (⟨"com/example/honeybee/honeybee/crawl/CrawlCounts", "pages", "()J"⟩ : MethodName)) hown (mvT hZ (hw _ (List.mem_of_getElem? (i := 12) rfl))) (mvT hZ (hw _ (List.mem_of_getElem? (i := 13) rfl))) (notFace_of_selects (args := #[]) (mvT hZ (hw _ (List.mem_of_getElem? (i := 15) rfl)))) (mvT hZ (hw _ (List.mem_of_getElem? (i := 15) rfl))) (mvT hZ (hw _ (List.mem_of_getElem? (i := 14) rfl))) (by decide) (backOf (W := 0) (rm_pages l Z a0 hw [] b_1 bx_4 kx_4 (0 : Int64) (0 : Int64) ((((0 : Int64) + own_hit ua (2 : Int32)) + own_hit ub (2 : Int32)) + own_hit uc (2 : Int32)) ((((0 : Int64) + own_hit ua (3 : Int32)) + own_hit ub (3 : Int32)) + own_hit uc (3 : Int32)) ((((0 : Int64) + own_hit ua (4 : Int32)) + own_hit ub (4 : Int32)) + own_hit uc (4 : Int32)) ((((0 : Int64) + own_hit ua (5 : Int32)) + own_hit ub (5 : Int32)) + own_hit uc (5 : Int32)) ((((0 : Int64) + own_hit ua (-1 : Int32)) + own_hit ub (-1 : Int32)) + own_hit uc (-1 : Int32)) T_14.heap n0 Z_15 p_14_1 p_14_2 p_14_3 p_14_6) hZ (hw _ (List.mem_of_getElem? (i := 16) rfl)) (hw _ (List.mem_of_getElem? (i := 2) rfl)) (by decide) (by decide)) q_17a q_17c (g := (mkF m 95 #[.val (.int ua), .val (.int ub), .val (.int uc), .val (.int fl), .val (.ref b_1), .val (.int (1 : Int32)), .val (.long (3 : Int64)), .second] [(.ref b_1)])) rfl (by rw [hml]; rfl) (Steps.refl _) (argsL := []) (rest := []) (lenOf pd__J rfl) rfl (by show 2 * 0 + _ ≤ _; exact Nat.le_of_eq rfl) (hb hby at_95) (fun _ _ => ⟨rfl, rfl, (by decide : 2 + 0 ≤ _), (by decide : 10 + 0 ≤ _)⟩)
        dsimp only [Pt.U, Pt.locs, Pt.cells, Pt.slots] at X_17 l_17 y_17 z_17 st_17 hQ_17
        subst l_17 y_17 z_17
        obtain ⟨rfl, N_17q, p_17_0⟩ := hQ_17
        have N_17 := Fr.app N_14 N_17q
        refine own_go (S' := T_17.setTop (mkF m 109 #[.val (.int ua), .val (.int ub), .val (.int uc), .val (.int fl), .val (.ref b_1), .val (.int (1 : Int32)), .val (.long (3 : Int64)), .second] [(.int (1 : Int32))])) (fun target kt => ?_) ?_
        · show Steps p.tables e below (T_14.setTop (mkF m 80 #[.val (.int ua), .val (.int ub), .val (.int uc), .val (.int fl), .val (.ref b_1), .val (.int (1 : Int32)), .val (.long (3 : Int64)), .second] [(.int (fl &&& (4 : Int32)))])) target
          refine XS.ifYes X_14.here hx rfl (pc0 := 80) (pc' := 88) rfl (hb hby at_80) rfl ((if0 _ _).trans (teq hc80).1) (by decide) (by decide) ?_
          show Steps p.tables e below (T_14.setTop (mkF m 88 #[.val (.int ua), .val (.int ub), .val (.int uc), .val (.int fl), .val (.ref b_1), .val (.int (1 : Int32)), .val (.long (3 : Int64)), .second] [])) target
          refine XS.iload X_14.here hx rfl (hb hby at_88) rfl ?_
          show Steps p.tables e below (T_14.setTop (mkF m 90 #[.val (.int ua), .val (.int ub), .val (.int uc), .val (.int fl), .val (.ref b_1), .val (.int (1 : Int32)), .val (.long (3 : Int64)), .second] [(.int (1 : Int32))])) target
          refine XS.ifNo X_14.here hx rfl (hb hby at_90) rfl ((if0 _ _).trans (feq (by decide : ¬ ((1 : Int32) = (0 : Int32)))).1) ?_
          show Steps p.tables e below (T_14.setTop (mkF m 93 #[.val (.int ua), .val (.int ub), .val (.int uc), .val (.int fl), .val (.ref b_1), .val (.int (1 : Int32)), .val (.long (3 : Int64)), .second] [])) target
          refine XS.aload X_14.here hx rfl (hb hby at_93) rfl rfl ?_
          show Steps p.tables e below (T_14.setTop (mkF m 95 #[.val (.int ua), .val (.int ub), .val (.int uc), .val (.int fl), .val (.ref b_1), .val (.int (1 : Int32)), .val (.long (3 : Int64)), .second] [(.ref b_1)])) target
          refine st_17.trans ?_
          show Steps p.tables e below (T_17.setTop (mkF m 98 #[.val (.int ua), .val (.int ub), .val (.int uc), .val (.int fl), .val (.ref b_1), .val (.int (1 : Int32)), .val (.long (3 : Int64)), .second] [(.long ((((((((0 : Int64) + own_hit ua (2 : Int32)) + own_hit ub (2 : Int32)) + own_hit uc (2 : Int32)) + ((((0 : Int64) + own_hit ua (3 : Int32)) + own_hit ub (3 : Int32)) + own_hit uc (3 : Int32))) + ((((0 : Int64) + own_hit ua (4 : Int32)) + own_hit ub (4 : Int32)) + own_hit uc (4 : Int32))) + ((((0 : Int64) + own_hit ua (5 : Int32)) + own_hit ub (5 : Int32)) + own_hit uc (5 : Int32))) + ((((0 : Int64) + own_hit ua (-1 : Int32)) + own_hit ub (-1 : Int32)) + own_hit uc (-1 : Int32))))])) target
          refine XS.lload X_17.here hx rfl (hb hby at_98) rfl ?_
          show Steps p.tables e below (T_17.setTop (mkF m 100 #[.val (.int ua), .val (.int ub), .val (.int uc), .val (.int fl), .val (.ref b_1), .val (.int (1 : Int32)), .val (.long (3 : Int64)), .second] [(.long (3 : Int64)), (.long ((((((((0 : Int64) + own_hit ua (2 : Int32)) + own_hit ub (2 : Int32)) + own_hit uc (2 : Int32)) + ((((0 : Int64) + own_hit ua (3 : Int32)) + own_hit ub (3 : Int32)) + own_hit uc (3 : Int32))) + ((((0 : Int64) + own_hit ua (4 : Int32)) + own_hit ub (4 : Int32)) + own_hit uc (4 : Int32))) + ((((0 : Int64) + own_hit ua (5 : Int32)) + own_hit ub (5 : Int32)) + own_hit uc (5 : Int32))) + ((((0 : Int64) + own_hit ua (-1 : Int32)) + own_hit ub (-1 : Int32)) + own_hit uc (-1 : Int32))))])) target
          refine XS.lcmp X_17.here hx rfl (hb hby at_100) rfl ?_
          show Steps p.tables e below (T_17.setTop (mkF m 101 #[.val (.int ua), .val (.int ub), .val (.int uc), .val (.int fl), .val (.ref b_1), .val (.int (1 : Int32)), .val (.long (3 : Int64)), .second] [(.int (lcmpW ((((((((0 : Int64) + own_hit ua (2 : Int32)) + own_hit ub (2 : Int32)) + own_hit uc (2 : Int32)) + ((((0 : Int64) + own_hit ua (3 : Int32)) + own_hit ub (3 : Int32)) + own_hit uc (3 : Int32))) + ((((0 : Int64) + own_hit ua (4 : Int32)) + own_hit ub (4 : Int32)) + own_hit uc (4 : Int32))) + ((((0 : Int64) + own_hit ua (5 : Int32)) + own_hit ub (5 : Int32)) + own_hit uc (5 : Int32))) + ((((0 : Int64) + own_hit ua (-1 : Int32)) + own_hit ub (-1 : Int32)) + own_hit uc (-1 : Int32))) (3 : Int64)))])) target
          refine XS.ifNo X_17.here hx rfl (hb hby at_101) rfl ((if0 _ _).trans (teq (own_l1 (own_pages _ _ _ : ((((((((0 : Int64) + own_hit ua (2 : Int32)) + own_hit ub (2 : Int32)) + own_hit uc (2 : Int32)) + ((((0 : Int64) + own_hit ua (3 : Int32)) + own_hit ub (3 : Int32)) + own_hit uc (3 : Int32))) + ((((0 : Int64) + own_hit ua (4 : Int32)) + own_hit ub (4 : Int32)) + own_hit uc (4 : Int32))) + ((((0 : Int64) + own_hit ua (5 : Int32)) + own_hit ub (5 : Int32)) + own_hit uc (5 : Int32))) + ((((0 : Int64) + own_hit ua (-1 : Int32)) + own_hit ub (-1 : Int32)) + own_hit uc (-1 : Int32))) = (3 : Int64)))).2) ?_
          show Steps p.tables e below (T_17.setTop (mkF m 104 #[.val (.int ua), .val (.int ub), .val (.int uc), .val (.int fl), .val (.ref b_1), .val (.int (1 : Int32)), .val (.long (3 : Int64)), .second] [])) target
          refine XS.iconst X_17.here hx rfl (hb hby at_104) ?_
          show Steps p.tables e below (T_17.setTop (mkF m 105 #[.val (.int ua), .val (.int ub), .val (.int uc), .val (.int fl), .val (.ref b_1), .val (.int (1 : Int32)), .val (.long (3 : Int64)), .second] [(.int (1 : Int32))])) target
          refine XS.goto X_17.here hx rfl (pc0 := 105) (pc' := 109) rfl (hb hby at_105) (by decide) (by decide) ?_
          show Steps p.tables e below (T_17.setTop (mkF m 109 #[.val (.int ua), .val (.int ub), .val (.int uc), .val (.int fl), .val (.ref b_1), .val (.int (1 : Int32)), .val (.long (3 : Int64)), .second] [(.int (1 : Int32))])) target
          exact kt
        obtain ⟨fs, hr, hrun, hended, hW, hsame⟩ := X_17.leave (v := some (.int (1 : Int32))) (fun h => by rw [Bd.returns] at h; cases h)
        refine ⟨_, _, retN X_17 hx (t := .boolean) Bd.returns (by simp) (hb hby at_109) hr, hrun, hended, _, _, rfl, ?_, ⟨_, rfl⟩, hW, hsame.mono (by decide) (by decide)⟩
        show Q_law Z ua ub uc fl h0 n0 _ T_17.heap _
        rw [p_17_0]
        exact ⟨rfl, N_17⟩
      · -- pc 80: no
        obtain ⟨cq_18, kq_18, q_18a, q_18b, q_18c⟩ := isOf hZ rfl p_14_1
        obtain ⟨_, _, ⟨T_18, L_18, k_18, n_18⟩, -, X_18, ⟨Lc_18, hQ_18, l_18, y_18, z_18⟩, st_18⟩ := X_14.virtualBack hx (y := (⟨"com/example/honeybee/honeybee/crawl/CrawlCounts", "countDisallowed", "()V"⟩ : MethodName)) (z := (⟨"com/example/honeybee/honeybee/crawl/CrawlCounts", "countDisallowed", "()V"⟩ : MethodName)) hown (mvT hZ (hw _ (List.mem_of_getElem? (i := 37) rfl))) (mvT hZ (hw _ (List.mem_of_getElem? (i := 38) rfl))) (notFace_of_selects (args := #[]) (mvT hZ (hw _ (List.mem_of_getElem? (i := 40) rfl)))) (mvT hZ (hw _ (List.mem_of_getElem? (i := 40) rfl))) (mvT hZ (hw _ (List.mem_of_getElem? (i := 39) rfl))) (by decide) (backOf (W := 0) (rm_cx l Z a0 hw [] b_1 ((((0 : Int64) + own_hit ua (-1 : Int32)) + own_hit ub (-1 : Int32)) + own_hit uc (-1 : Int32)) (0 : Int64) (0 : Int64) bx_4 T_14.heap n0 Z_15 p_14_1 p_14_3 p_14_4 p_14_5 p_14_2 gn_b_1) hZ (hw _ (List.mem_of_getElem? (i := 41) rfl)) (hw _ (List.mem_of_getElem? (i := 2) rfl)) (by decide) (by decide)) q_18a q_18c (g := (mkF m 85 #[.val (.int ua), .val (.int ub), .val (.int uc), .val (.int fl), .val (.ref b_1), .val (.int (1 : Int32)), .val (.long (3 : Int64)), .second] [(.ref b_1)])) rfl (by rw [hml]; rfl) (Steps.refl _) (argsL := []) (rest := []) (lenOf pd__V rfl) rfl (by show 2 * 0 + _ ≤ _; exact Nat.le_of_eq rfl) (hb hby at_85) (fun _ _ => ⟨rfl, rfl, (by decide : 2 + 0 ≤ _), (by decide : 10 + 0 ≤ _)⟩)
        dsimp only [Pt.U, Pt.locs, Pt.cells, Pt.slots] at X_18 l_18 y_18 z_18 st_18 hQ_18
        subst l_18 y_18 z_18
        obtain ⟨rfl, N_18q, p_18_0, p_18_1, p_18_2, p_18_3, p_18_4, p_18_5⟩ := hQ_18
        have N_18 := Fr.app N_14 N_18q
        have Z_19 : n0 ≤ T_18.heap.size := Nat.le_trans Z_15 p_18_0.1
        have f_22 := (p_14_6.keep p_18_0 (by simp only [List.mem_cons, List.not_mem_nil, or_false, not_or]; exact (Ne.symm p_4_7)))
        obtain ⟨cq_21, kq_21, q_21a, q_21b, q_21c⟩ := isOf hZ rfl p_18_1
        obtain ⟨_, _, ⟨T_21, L_21, k_21, n_21⟩, -, X_21, ⟨Lc_21, hQ_21, l_21, y_21, z_21⟩, st_21⟩ := X_18.virtualBack hx (y := (⟨"com/example/honeybee/honeybee/crawl/CrawlCounts", "pages", "()J"⟩ : MethodName)) (z := (⟨"com/example/honeybee/honeybee/crawl/CrawlCounts", "pages", "()J"⟩ : MethodName)) hown (mvT hZ (hw _ (List.mem_of_getElem? (i := 12) rfl))) (mvT hZ (hw _ (List.mem_of_getElem? (i := 13) rfl))) (notFace_of_selects (args := #[]) (mvT hZ (hw _ (List.mem_of_getElem? (i := 15) rfl)))) (mvT hZ (hw _ (List.mem_of_getElem? (i := 15) rfl))) (mvT hZ (hw _ (List.mem_of_getElem? (i := 14) rfl))) (by decide) (backOf (W := 0) (rm_pages l Z a0 hw [] b_1 bx_4 kx_4 (0 : Int64) (0 : Int64) ((((0 : Int64) + own_hit ua (2 : Int32)) + own_hit ub (2 : Int32)) + own_hit uc (2 : Int32)) ((((0 : Int64) + own_hit ua (3 : Int32)) + own_hit ub (3 : Int32)) + own_hit uc (3 : Int32)) ((((0 : Int64) + own_hit ua (4 : Int32)) + own_hit ub (4 : Int32)) + own_hit uc (4 : Int32)) ((((0 : Int64) + own_hit ua (5 : Int32)) + own_hit ub (5 : Int32)) + own_hit uc (5 : Int32)) ((((0 : Int64) + own_hit ua (-1 : Int32)) + own_hit ub (-1 : Int32)) + own_hit uc (-1 : Int32)) T_18.heap n0 Z_19 p_18_1 p_18_5 p_18_2 f_22) hZ (hw _ (List.mem_of_getElem? (i := 16) rfl)) (hw _ (List.mem_of_getElem? (i := 2) rfl)) (by decide) (by decide)) q_21a q_21c (g := (mkF m 95 #[.val (.int ua), .val (.int ub), .val (.int uc), .val (.int fl), .val (.ref b_1), .val (.int (1 : Int32)), .val (.long (3 : Int64)), .second] [(.ref b_1)])) rfl (by rw [hml]; rfl) (Steps.refl _) (argsL := []) (rest := []) (lenOf pd__J rfl) rfl (by show 2 * 0 + _ ≤ _; exact Nat.le_of_eq rfl) (hb hby at_95) (fun _ _ => ⟨rfl, rfl, (by decide : 2 + 0 ≤ _), (by decide : 10 + 0 ≤ _)⟩)
        dsimp only [Pt.U, Pt.locs, Pt.cells, Pt.slots] at X_21 l_21 y_21 z_21 st_21 hQ_21
        subst l_21 y_21 z_21
        obtain ⟨rfl, N_21q, p_21_0⟩ := hQ_21
        have N_21 := Fr.app N_18 N_21q
        refine own_go (S' := T_21.setTop (mkF m 109 #[.val (.int ua), .val (.int ub), .val (.int uc), .val (.int fl), .val (.ref b_1), .val (.int (1 : Int32)), .val (.long (3 : Int64)), .second] [(.int (1 : Int32))])) (fun target kt => ?_) ?_
        · show Steps p.tables e below (T_14.setTop (mkF m 80 #[.val (.int ua), .val (.int ub), .val (.int uc), .val (.int fl), .val (.ref b_1), .val (.int (1 : Int32)), .val (.long (3 : Int64)), .second] [(.int (fl &&& (4 : Int32)))])) target
          refine XS.ifNo X_14.here hx rfl (hb hby at_80) rfl ((if0 _ _).trans (feq hc80).1) ?_
          show Steps p.tables e below (T_14.setTop (mkF m 83 #[.val (.int ua), .val (.int ub), .val (.int uc), .val (.int fl), .val (.ref b_1), .val (.int (1 : Int32)), .val (.long (3 : Int64)), .second] [])) target
          refine XS.aload X_14.here hx rfl (hb hby at_83) rfl rfl ?_
          show Steps p.tables e below (T_14.setTop (mkF m 85 #[.val (.int ua), .val (.int ub), .val (.int uc), .val (.int fl), .val (.ref b_1), .val (.int (1 : Int32)), .val (.long (3 : Int64)), .second] [(.ref b_1)])) target
          refine st_18.trans ?_
          show Steps p.tables e below (T_18.setTop (mkF m 88 #[.val (.int ua), .val (.int ub), .val (.int uc), .val (.int fl), .val (.ref b_1), .val (.int (1 : Int32)), .val (.long (3 : Int64)), .second] [])) target
          refine XS.iload X_18.here hx rfl (hb hby at_88) rfl ?_
          show Steps p.tables e below (T_18.setTop (mkF m 90 #[.val (.int ua), .val (.int ub), .val (.int uc), .val (.int fl), .val (.ref b_1), .val (.int (1 : Int32)), .val (.long (3 : Int64)), .second] [(.int (1 : Int32))])) target
          refine XS.ifNo X_18.here hx rfl (hb hby at_90) rfl ((if0 _ _).trans (feq (by decide : ¬ ((1 : Int32) = (0 : Int32)))).1) ?_
          show Steps p.tables e below (T_18.setTop (mkF m 93 #[.val (.int ua), .val (.int ub), .val (.int uc), .val (.int fl), .val (.ref b_1), .val (.int (1 : Int32)), .val (.long (3 : Int64)), .second] [])) target
          refine XS.aload X_18.here hx rfl (hb hby at_93) rfl rfl ?_
          show Steps p.tables e below (T_18.setTop (mkF m 95 #[.val (.int ua), .val (.int ub), .val (.int uc), .val (.int fl), .val (.ref b_1), .val (.int (1 : Int32)), .val (.long (3 : Int64)), .second] [(.ref b_1)])) target
          refine st_21.trans ?_
          show Steps p.tables e below (T_21.setTop (mkF m 98 #[.val (.int ua), .val (.int ub), .val (.int uc), .val (.int fl), .val (.ref b_1), .val (.int (1 : Int32)), .val (.long (3 : Int64)), .second] [(.long ((((((((0 : Int64) + own_hit ua (2 : Int32)) + own_hit ub (2 : Int32)) + own_hit uc (2 : Int32)) + ((((0 : Int64) + own_hit ua (3 : Int32)) + own_hit ub (3 : Int32)) + own_hit uc (3 : Int32))) + ((((0 : Int64) + own_hit ua (4 : Int32)) + own_hit ub (4 : Int32)) + own_hit uc (4 : Int32))) + ((((0 : Int64) + own_hit ua (5 : Int32)) + own_hit ub (5 : Int32)) + own_hit uc (5 : Int32))) + ((((0 : Int64) + own_hit ua (-1 : Int32)) + own_hit ub (-1 : Int32)) + own_hit uc (-1 : Int32))))])) target
          refine XS.lload X_21.here hx rfl (hb hby at_98) rfl ?_
          show Steps p.tables e below (T_21.setTop (mkF m 100 #[.val (.int ua), .val (.int ub), .val (.int uc), .val (.int fl), .val (.ref b_1), .val (.int (1 : Int32)), .val (.long (3 : Int64)), .second] [(.long (3 : Int64)), (.long ((((((((0 : Int64) + own_hit ua (2 : Int32)) + own_hit ub (2 : Int32)) + own_hit uc (2 : Int32)) + ((((0 : Int64) + own_hit ua (3 : Int32)) + own_hit ub (3 : Int32)) + own_hit uc (3 : Int32))) + ((((0 : Int64) + own_hit ua (4 : Int32)) + own_hit ub (4 : Int32)) + own_hit uc (4 : Int32))) + ((((0 : Int64) + own_hit ua (5 : Int32)) + own_hit ub (5 : Int32)) + own_hit uc (5 : Int32))) + ((((0 : Int64) + own_hit ua (-1 : Int32)) + own_hit ub (-1 : Int32)) + own_hit uc (-1 : Int32))))])) target
          refine XS.lcmp X_21.here hx rfl (hb hby at_100) rfl ?_
          show Steps p.tables e below (T_21.setTop (mkF m 101 #[.val (.int ua), .val (.int ub), .val (.int uc), .val (.int fl), .val (.ref b_1), .val (.int (1 : Int32)), .val (.long (3 : Int64)), .second] [(.int (lcmpW ((((((((0 : Int64) + own_hit ua (2 : Int32)) + own_hit ub (2 : Int32)) + own_hit uc (2 : Int32)) + ((((0 : Int64) + own_hit ua (3 : Int32)) + own_hit ub (3 : Int32)) + own_hit uc (3 : Int32))) + ((((0 : Int64) + own_hit ua (4 : Int32)) + own_hit ub (4 : Int32)) + own_hit uc (4 : Int32))) + ((((0 : Int64) + own_hit ua (5 : Int32)) + own_hit ub (5 : Int32)) + own_hit uc (5 : Int32))) + ((((0 : Int64) + own_hit ua (-1 : Int32)) + own_hit ub (-1 : Int32)) + own_hit uc (-1 : Int32))) (3 : Int64)))])) target
          refine XS.ifNo X_21.here hx rfl (hb hby at_101) rfl ((if0 _ _).trans (teq (own_l1 (own_pages _ _ _ : ((((((((0 : Int64) + own_hit ua (2 : Int32)) + own_hit ub (2 : Int32)) + own_hit uc (2 : Int32)) + ((((0 : Int64) + own_hit ua (3 : Int32)) + own_hit ub (3 : Int32)) + own_hit uc (3 : Int32))) + ((((0 : Int64) + own_hit ua (4 : Int32)) + own_hit ub (4 : Int32)) + own_hit uc (4 : Int32))) + ((((0 : Int64) + own_hit ua (5 : Int32)) + own_hit ub (5 : Int32)) + own_hit uc (5 : Int32))) + ((((0 : Int64) + own_hit ua (-1 : Int32)) + own_hit ub (-1 : Int32)) + own_hit uc (-1 : Int32))) = (3 : Int64)))).2) ?_
          show Steps p.tables e below (T_21.setTop (mkF m 104 #[.val (.int ua), .val (.int ub), .val (.int uc), .val (.int fl), .val (.ref b_1), .val (.int (1 : Int32)), .val (.long (3 : Int64)), .second] [])) target
          refine XS.iconst X_21.here hx rfl (hb hby at_104) ?_
          show Steps p.tables e below (T_21.setTop (mkF m 105 #[.val (.int ua), .val (.int ub), .val (.int uc), .val (.int fl), .val (.ref b_1), .val (.int (1 : Int32)), .val (.long (3 : Int64)), .second] [(.int (1 : Int32))])) target
          refine XS.goto X_21.here hx rfl (pc0 := 105) (pc' := 109) rfl (hb hby at_105) (by decide) (by decide) ?_
          show Steps p.tables e below (T_21.setTop (mkF m 109 #[.val (.int ua), .val (.int ub), .val (.int uc), .val (.int fl), .val (.ref b_1), .val (.int (1 : Int32)), .val (.long (3 : Int64)), .second] [(.int (1 : Int32))])) target
          exact kt
        obtain ⟨fs, hr, hrun, hended, hW, hsame⟩ := X_21.leave (v := some (.int (1 : Int32))) (fun h => by rw [Bd.returns] at h; cases h)
        refine ⟨_, _, retN X_21 hx (t := .boolean) Bd.returns (by simp) (hb hby at_109) hr, hrun, hended, _, _, rfl, ?_, ⟨_, rfl⟩, hW, hsame.mono (by decide) (by decide)⟩
        show Q_law Z ua ub uc fl h0 n0 _ T_21.heap _
        rw [p_21_0]
        exact ⟨rfl, N_21⟩
    · -- pc 69: no
      obtain ⟨cq_23, kq_23, q_23a, q_23b, q_23c⟩ := isOf hZ rfl p_14_1
      obtain ⟨_, _, ⟨T_23, L_23, k_23, n_23⟩, -, X_23, ⟨Lc_23, hQ_23, l_23, y_23, z_23⟩, st_23⟩ := X_14.virtualBack hx (y := (⟨"com/example/honeybee/honeybee/crawl/CrawlCounts", "countDuplicate", "()V"⟩ : MethodName)) (z := (⟨"com/example/honeybee/honeybee/crawl/CrawlCounts", "countDuplicate", "()V"⟩ : MethodName)) hown (mvT hZ (hw _ (List.mem_of_getElem? (i := 30) rfl))) (mvT hZ (hw _ (List.mem_of_getElem? (i := 31) rfl))) (notFace_of_selects (args := #[]) (mvT hZ (hw _ (List.mem_of_getElem? (i := 33) rfl)))) (mvT hZ (hw _ (List.mem_of_getElem? (i := 33) rfl))) (mvT hZ (hw _ (List.mem_of_getElem? (i := 32) rfl))) (by decide) (backOf (W := 0) (rm_cd l Z a0 hw [] b_1 ((((0 : Int64) + own_hit ua (-1 : Int32)) + own_hit ub (-1 : Int32)) + own_hit uc (-1 : Int32)) (0 : Int64) (0 : Int64) bx_4 T_14.heap n0 Z_15 p_14_1 p_14_3 p_14_4 p_14_5 p_14_2 gn_b_1) hZ (hw _ (List.mem_of_getElem? (i := 34) rfl)) (hw _ (List.mem_of_getElem? (i := 2) rfl)) (by decide) (by decide)) q_23a q_23c (g := (mkF m 74 #[.val (.int ua), .val (.int ub), .val (.int uc), .val (.int fl), .val (.ref b_1), .val (.int (1 : Int32)), .val (.long (3 : Int64)), .second] [(.ref b_1)])) rfl (by rw [hml]; rfl) (Steps.refl _) (argsL := []) (rest := []) (lenOf pd__V rfl) rfl (by show 2 * 0 + _ ≤ _; exact Nat.le_of_eq rfl) (hb hby at_74) (fun _ _ => ⟨rfl, rfl, (by decide : 2 + 0 ≤ _), (by decide : 10 + 0 ≤ _)⟩)
      dsimp only [Pt.U, Pt.locs, Pt.cells, Pt.slots] at X_23 l_23 y_23 z_23 st_23 hQ_23
      subst l_23 y_23 z_23
      obtain ⟨rfl, N_23q, p_23_0, p_23_1, p_23_2, p_23_3, p_23_4, p_23_5⟩ := hQ_23
      have N_23 := Fr.app N_14 N_23q
      have Z_24 : n0 ≤ T_23.heap.size := Nat.le_trans Z_15 p_23_0.1
      refine own_go (S' := T_23.setTop (mkF m 80 #[.val (.int ua), .val (.int ub), .val (.int uc), .val (.int fl), .val (.ref b_1), .val (.int (1 : Int32)), .val (.long (3 : Int64)), .second] [(.int (fl &&& (4 : Int32)))])) (fun target kt => ?_) ?_
      · show Steps p.tables e below (T_14.setTop (mkF m 69 #[.val (.int ua), .val (.int ub), .val (.int uc), .val (.int fl), .val (.ref b_1), .val (.int (1 : Int32)), .val (.long (3 : Int64)), .second] [(.int (fl &&& (2 : Int32)))])) target
        refine XS.ifNo X_14.here hx rfl (hb hby at_69) rfl ((if0 _ _).trans (feq hc69).1) ?_
        show Steps p.tables e below (T_14.setTop (mkF m 72 #[.val (.int ua), .val (.int ub), .val (.int uc), .val (.int fl), .val (.ref b_1), .val (.int (1 : Int32)), .val (.long (3 : Int64)), .second] [])) target
        refine XS.aload X_14.here hx rfl (hb hby at_72) rfl rfl ?_
        show Steps p.tables e below (T_14.setTop (mkF m 74 #[.val (.int ua), .val (.int ub), .val (.int uc), .val (.int fl), .val (.ref b_1), .val (.int (1 : Int32)), .val (.long (3 : Int64)), .second] [(.ref b_1)])) target
        refine st_23.trans ?_
        show Steps p.tables e below (T_23.setTop (mkF m 77 #[.val (.int ua), .val (.int ub), .val (.int uc), .val (.int fl), .val (.ref b_1), .val (.int (1 : Int32)), .val (.long (3 : Int64)), .second] [])) target
        refine XS.iloadN X_23.here hx rfl (hb hby at_77) rfl ?_
        show Steps p.tables e below (T_23.setTop (mkF m 78 #[.val (.int ua), .val (.int ub), .val (.int uc), .val (.int fl), .val (.ref b_1), .val (.int (1 : Int32)), .val (.long (3 : Int64)), .second] [(.int fl)])) target
        refine XS.iconst X_23.here hx rfl (hb hby at_78) ?_
        show Steps p.tables e below (T_23.setTop (mkF m 79 #[.val (.int ua), .val (.int ub), .val (.int uc), .val (.int fl), .val (.ref b_1), .val (.int (1 : Int32)), .val (.long (3 : Int64)), .second] [(.int (4 : Int32)), (.int fl)])) target
        refine XS.iand X_23.here hx rfl (hb hby at_79) rfl ?_
        show Steps p.tables e below (T_23.setTop (mkF m 80 #[.val (.int ua), .val (.int ub), .val (.int uc), .val (.int fl), .val (.ref b_1), .val (.int (1 : Int32)), .val (.long (3 : Int64)), .second] [(.int (fl &&& (4 : Int32)))])) target
        exact kt
      by_cases hc80 : (fl &&& (4 : Int32)) = (0 : Int32)
      · -- pc 80: yes
        have f_27 := (p_14_6.keep p_23_0 (by simp only [List.mem_cons, List.not_mem_nil, or_false, not_or]; exact (Ne.symm p_4_7)))
        obtain ⟨cq_26, kq_26, q_26a, q_26b, q_26c⟩ := isOf hZ rfl p_23_1
        obtain ⟨_, _, ⟨T_26, L_26, k_26, n_26⟩, -, X_26, ⟨Lc_26, hQ_26, l_26, y_26, z_26⟩, st_26⟩ := X_23.virtualBack hx (y := (⟨"com/example/honeybee/honeybee/crawl/CrawlCounts", "pages", "()J"⟩ : MethodName)) (z := (⟨"com/example/honeybee/honeybee/crawl/CrawlCounts", "pages", "()J"⟩ : MethodName)) hown (mvT hZ (hw _ (List.mem_of_getElem? (i := 12) rfl))) (mvT hZ (hw _ (List.mem_of_getElem? (i := 13) rfl))) (notFace_of_selects (args := #[]) (mvT hZ (hw _ (List.mem_of_getElem? (i := 15) rfl)))) (mvT hZ (hw _ (List.mem_of_getElem? (i := 15) rfl))) (mvT hZ (hw _ (List.mem_of_getElem? (i := 14) rfl))) (by decide) (backOf (W := 0) (rm_pages l Z a0 hw [] b_1 bx_4 kx_4 (0 : Int64) (0 : Int64) ((((0 : Int64) + own_hit ua (2 : Int32)) + own_hit ub (2 : Int32)) + own_hit uc (2 : Int32)) ((((0 : Int64) + own_hit ua (3 : Int32)) + own_hit ub (3 : Int32)) + own_hit uc (3 : Int32)) ((((0 : Int64) + own_hit ua (4 : Int32)) + own_hit ub (4 : Int32)) + own_hit uc (4 : Int32)) ((((0 : Int64) + own_hit ua (5 : Int32)) + own_hit ub (5 : Int32)) + own_hit uc (5 : Int32)) ((((0 : Int64) + own_hit ua (-1 : Int32)) + own_hit ub (-1 : Int32)) + own_hit uc (-1 : Int32)) T_23.heap n0 Z_24 p_23_1 p_23_5 p_23_2 f_27) hZ (hw _ (List.mem_of_getElem? (i := 16) rfl)) (hw _ (List.mem_of_getElem? (i := 2) rfl)) (by decide) (by decide)) q_26a q_26c (g := (mkF m 95 #[.val (.int ua), .val (.int ub), .val (.int uc), .val (.int fl), .val (.ref b_1), .val (.int (1 : Int32)), .val (.long (3 : Int64)), .second] [(.ref b_1)])) rfl (by rw [hml]; rfl) (Steps.refl _) (argsL := []) (rest := []) (lenOf pd__J rfl) rfl (by show 2 * 0 + _ ≤ _; exact Nat.le_of_eq rfl) (hb hby at_95) (fun _ _ => ⟨rfl, rfl, (by decide : 2 + 0 ≤ _), (by decide : 10 + 0 ≤ _)⟩)
        dsimp only [Pt.U, Pt.locs, Pt.cells, Pt.slots] at X_26 l_26 y_26 z_26 st_26 hQ_26
        subst l_26 y_26 z_26
        obtain ⟨rfl, N_26q, p_26_0⟩ := hQ_26
        have N_26 := Fr.app N_23 N_26q
        refine own_go (S' := T_26.setTop (mkF m 109 #[.val (.int ua), .val (.int ub), .val (.int uc), .val (.int fl), .val (.ref b_1), .val (.int (1 : Int32)), .val (.long (3 : Int64)), .second] [(.int (1 : Int32))])) (fun target kt => ?_) ?_
        · show Steps p.tables e below (T_23.setTop (mkF m 80 #[.val (.int ua), .val (.int ub), .val (.int uc), .val (.int fl), .val (.ref b_1), .val (.int (1 : Int32)), .val (.long (3 : Int64)), .second] [(.int (fl &&& (4 : Int32)))])) target
          refine XS.ifYes X_23.here hx rfl (pc0 := 80) (pc' := 88) rfl (hb hby at_80) rfl ((if0 _ _).trans (teq hc80).1) (by decide) (by decide) ?_
          show Steps p.tables e below (T_23.setTop (mkF m 88 #[.val (.int ua), .val (.int ub), .val (.int uc), .val (.int fl), .val (.ref b_1), .val (.int (1 : Int32)), .val (.long (3 : Int64)), .second] [])) target
          refine XS.iload X_23.here hx rfl (hb hby at_88) rfl ?_
          show Steps p.tables e below (T_23.setTop (mkF m 90 #[.val (.int ua), .val (.int ub), .val (.int uc), .val (.int fl), .val (.ref b_1), .val (.int (1 : Int32)), .val (.long (3 : Int64)), .second] [(.int (1 : Int32))])) target
          refine XS.ifNo X_23.here hx rfl (hb hby at_90) rfl ((if0 _ _).trans (feq (by decide : ¬ ((1 : Int32) = (0 : Int32)))).1) ?_
          show Steps p.tables e below (T_23.setTop (mkF m 93 #[.val (.int ua), .val (.int ub), .val (.int uc), .val (.int fl), .val (.ref b_1), .val (.int (1 : Int32)), .val (.long (3 : Int64)), .second] [])) target
          refine XS.aload X_23.here hx rfl (hb hby at_93) rfl rfl ?_
          show Steps p.tables e below (T_23.setTop (mkF m 95 #[.val (.int ua), .val (.int ub), .val (.int uc), .val (.int fl), .val (.ref b_1), .val (.int (1 : Int32)), .val (.long (3 : Int64)), .second] [(.ref b_1)])) target
          refine st_26.trans ?_
          show Steps p.tables e below (T_26.setTop (mkF m 98 #[.val (.int ua), .val (.int ub), .val (.int uc), .val (.int fl), .val (.ref b_1), .val (.int (1 : Int32)), .val (.long (3 : Int64)), .second] [(.long ((((((((0 : Int64) + own_hit ua (2 : Int32)) + own_hit ub (2 : Int32)) + own_hit uc (2 : Int32)) + ((((0 : Int64) + own_hit ua (3 : Int32)) + own_hit ub (3 : Int32)) + own_hit uc (3 : Int32))) + ((((0 : Int64) + own_hit ua (4 : Int32)) + own_hit ub (4 : Int32)) + own_hit uc (4 : Int32))) + ((((0 : Int64) + own_hit ua (5 : Int32)) + own_hit ub (5 : Int32)) + own_hit uc (5 : Int32))) + ((((0 : Int64) + own_hit ua (-1 : Int32)) + own_hit ub (-1 : Int32)) + own_hit uc (-1 : Int32))))])) target
          refine XS.lload X_26.here hx rfl (hb hby at_98) rfl ?_
          show Steps p.tables e below (T_26.setTop (mkF m 100 #[.val (.int ua), .val (.int ub), .val (.int uc), .val (.int fl), .val (.ref b_1), .val (.int (1 : Int32)), .val (.long (3 : Int64)), .second] [(.long (3 : Int64)), (.long ((((((((0 : Int64) + own_hit ua (2 : Int32)) + own_hit ub (2 : Int32)) + own_hit uc (2 : Int32)) + ((((0 : Int64) + own_hit ua (3 : Int32)) + own_hit ub (3 : Int32)) + own_hit uc (3 : Int32))) + ((((0 : Int64) + own_hit ua (4 : Int32)) + own_hit ub (4 : Int32)) + own_hit uc (4 : Int32))) + ((((0 : Int64) + own_hit ua (5 : Int32)) + own_hit ub (5 : Int32)) + own_hit uc (5 : Int32))) + ((((0 : Int64) + own_hit ua (-1 : Int32)) + own_hit ub (-1 : Int32)) + own_hit uc (-1 : Int32))))])) target
          refine XS.lcmp X_26.here hx rfl (hb hby at_100) rfl ?_
          show Steps p.tables e below (T_26.setTop (mkF m 101 #[.val (.int ua), .val (.int ub), .val (.int uc), .val (.int fl), .val (.ref b_1), .val (.int (1 : Int32)), .val (.long (3 : Int64)), .second] [(.int (lcmpW ((((((((0 : Int64) + own_hit ua (2 : Int32)) + own_hit ub (2 : Int32)) + own_hit uc (2 : Int32)) + ((((0 : Int64) + own_hit ua (3 : Int32)) + own_hit ub (3 : Int32)) + own_hit uc (3 : Int32))) + ((((0 : Int64) + own_hit ua (4 : Int32)) + own_hit ub (4 : Int32)) + own_hit uc (4 : Int32))) + ((((0 : Int64) + own_hit ua (5 : Int32)) + own_hit ub (5 : Int32)) + own_hit uc (5 : Int32))) + ((((0 : Int64) + own_hit ua (-1 : Int32)) + own_hit ub (-1 : Int32)) + own_hit uc (-1 : Int32))) (3 : Int64)))])) target
          refine XS.ifNo X_26.here hx rfl (hb hby at_101) rfl ((if0 _ _).trans (teq (own_l1 (own_pages _ _ _ : ((((((((0 : Int64) + own_hit ua (2 : Int32)) + own_hit ub (2 : Int32)) + own_hit uc (2 : Int32)) + ((((0 : Int64) + own_hit ua (3 : Int32)) + own_hit ub (3 : Int32)) + own_hit uc (3 : Int32))) + ((((0 : Int64) + own_hit ua (4 : Int32)) + own_hit ub (4 : Int32)) + own_hit uc (4 : Int32))) + ((((0 : Int64) + own_hit ua (5 : Int32)) + own_hit ub (5 : Int32)) + own_hit uc (5 : Int32))) + ((((0 : Int64) + own_hit ua (-1 : Int32)) + own_hit ub (-1 : Int32)) + own_hit uc (-1 : Int32))) = (3 : Int64)))).2) ?_
          show Steps p.tables e below (T_26.setTop (mkF m 104 #[.val (.int ua), .val (.int ub), .val (.int uc), .val (.int fl), .val (.ref b_1), .val (.int (1 : Int32)), .val (.long (3 : Int64)), .second] [])) target
          refine XS.iconst X_26.here hx rfl (hb hby at_104) ?_
          show Steps p.tables e below (T_26.setTop (mkF m 105 #[.val (.int ua), .val (.int ub), .val (.int uc), .val (.int fl), .val (.ref b_1), .val (.int (1 : Int32)), .val (.long (3 : Int64)), .second] [(.int (1 : Int32))])) target
          refine XS.goto X_26.here hx rfl (pc0 := 105) (pc' := 109) rfl (hb hby at_105) (by decide) (by decide) ?_
          show Steps p.tables e below (T_26.setTop (mkF m 109 #[.val (.int ua), .val (.int ub), .val (.int uc), .val (.int fl), .val (.ref b_1), .val (.int (1 : Int32)), .val (.long (3 : Int64)), .second] [(.int (1 : Int32))])) target
          exact kt
        obtain ⟨fs, hr, hrun, hended, hW, hsame⟩ := X_26.leave (v := some (.int (1 : Int32))) (fun h => by rw [Bd.returns] at h; cases h)
        refine ⟨_, _, retN X_26 hx (t := .boolean) Bd.returns (by simp) (hb hby at_109) hr, hrun, hended, _, _, rfl, ?_, ⟨_, rfl⟩, hW, hsame.mono (by decide) (by decide)⟩
        show Q_law Z ua ub uc fl h0 n0 _ T_26.heap _
        rw [p_26_0]
        exact ⟨rfl, N_26⟩
      · -- pc 80: no
        obtain ⟨cq_28, kq_28, q_28a, q_28b, q_28c⟩ := isOf hZ rfl p_23_1
        obtain ⟨_, _, ⟨T_28, L_28, k_28, n_28⟩, -, X_28, ⟨Lc_28, hQ_28, l_28, y_28, z_28⟩, st_28⟩ := X_23.virtualBack hx (y := (⟨"com/example/honeybee/honeybee/crawl/CrawlCounts", "countDisallowed", "()V"⟩ : MethodName)) (z := (⟨"com/example/honeybee/honeybee/crawl/CrawlCounts", "countDisallowed", "()V"⟩ : MethodName)) hown (mvT hZ (hw _ (List.mem_of_getElem? (i := 37) rfl))) (mvT hZ (hw _ (List.mem_of_getElem? (i := 38) rfl))) (notFace_of_selects (args := #[]) (mvT hZ (hw _ (List.mem_of_getElem? (i := 40) rfl)))) (mvT hZ (hw _ (List.mem_of_getElem? (i := 40) rfl))) (mvT hZ (hw _ (List.mem_of_getElem? (i := 39) rfl))) (by decide) (backOf (W := 0) (rm_cx l Z a0 hw [] b_1 ((((0 : Int64) + own_hit ua (-1 : Int32)) + own_hit ub (-1 : Int32)) + own_hit uc (-1 : Int32)) ((0 : Int64) + (1 : Int64)) (0 : Int64) bx_4 T_23.heap n0 Z_24 p_23_1 p_23_2 p_23_3 p_23_4 p_23_5 gn_b_1) hZ (hw _ (List.mem_of_getElem? (i := 41) rfl)) (hw _ (List.mem_of_getElem? (i := 2) rfl)) (by decide) (by decide)) q_28a q_28c (g := (mkF m 85 #[.val (.int ua), .val (.int ub), .val (.int uc), .val (.int fl), .val (.ref b_1), .val (.int (1 : Int32)), .val (.long (3 : Int64)), .second] [(.ref b_1)])) rfl (by rw [hml]; rfl) (Steps.refl _) (argsL := []) (rest := []) (lenOf pd__V rfl) rfl (by show 2 * 0 + _ ≤ _; exact Nat.le_of_eq rfl) (hb hby at_85) (fun _ _ => ⟨rfl, rfl, (by decide : 2 + 0 ≤ _), (by decide : 10 + 0 ≤ _)⟩)
        dsimp only [Pt.U, Pt.locs, Pt.cells, Pt.slots] at X_28 l_28 y_28 z_28 st_28 hQ_28
        subst l_28 y_28 z_28
        obtain ⟨rfl, N_28q, p_28_0, p_28_1, p_28_2, p_28_3, p_28_4, p_28_5⟩ := hQ_28
        have N_28 := Fr.app N_23 N_28q
        have Z_29 : n0 ≤ T_28.heap.size := Nat.le_trans Z_24 p_28_0.1
        have f_32 := ((p_14_6.keep p_23_0 (by simp only [List.mem_cons, List.not_mem_nil, or_false, not_or]; exact (Ne.symm p_4_7))).keep p_28_0 (by simp only [List.mem_cons, List.not_mem_nil, or_false, not_or]; exact (Ne.symm p_4_7)))
        obtain ⟨cq_31, kq_31, q_31a, q_31b, q_31c⟩ := isOf hZ rfl p_28_1
        obtain ⟨_, _, ⟨T_31, L_31, k_31, n_31⟩, -, X_31, ⟨Lc_31, hQ_31, l_31, y_31, z_31⟩, st_31⟩ := X_28.virtualBack hx (y := (⟨"com/example/honeybee/honeybee/crawl/CrawlCounts", "pages", "()J"⟩ : MethodName)) (z := (⟨"com/example/honeybee/honeybee/crawl/CrawlCounts", "pages", "()J"⟩ : MethodName)) hown (mvT hZ (hw _ (List.mem_of_getElem? (i := 12) rfl))) (mvT hZ (hw _ (List.mem_of_getElem? (i := 13) rfl))) (notFace_of_selects (args := #[]) (mvT hZ (hw _ (List.mem_of_getElem? (i := 15) rfl)))) (mvT hZ (hw _ (List.mem_of_getElem? (i := 15) rfl))) (mvT hZ (hw _ (List.mem_of_getElem? (i := 14) rfl))) (by decide) (backOf (W := 0) (rm_pages l Z a0 hw [] b_1 bx_4 kx_4 (0 : Int64) (0 : Int64) ((((0 : Int64) + own_hit ua (2 : Int32)) + own_hit ub (2 : Int32)) + own_hit uc (2 : Int32)) ((((0 : Int64) + own_hit ua (3 : Int32)) + own_hit ub (3 : Int32)) + own_hit uc (3 : Int32)) ((((0 : Int64) + own_hit ua (4 : Int32)) + own_hit ub (4 : Int32)) + own_hit uc (4 : Int32)) ((((0 : Int64) + own_hit ua (5 : Int32)) + own_hit ub (5 : Int32)) + own_hit uc (5 : Int32)) ((((0 : Int64) + own_hit ua (-1 : Int32)) + own_hit ub (-1 : Int32)) + own_hit uc (-1 : Int32)) T_28.heap n0 Z_29 p_28_1 p_28_5 p_28_2 f_32) hZ (hw _ (List.mem_of_getElem? (i := 16) rfl)) (hw _ (List.mem_of_getElem? (i := 2) rfl)) (by decide) (by decide)) q_31a q_31c (g := (mkF m 95 #[.val (.int ua), .val (.int ub), .val (.int uc), .val (.int fl), .val (.ref b_1), .val (.int (1 : Int32)), .val (.long (3 : Int64)), .second] [(.ref b_1)])) rfl (by rw [hml]; rfl) (Steps.refl _) (argsL := []) (rest := []) (lenOf pd__J rfl) rfl (by show 2 * 0 + _ ≤ _; exact Nat.le_of_eq rfl) (hb hby at_95) (fun _ _ => ⟨rfl, rfl, (by decide : 2 + 0 ≤ _), (by decide : 10 + 0 ≤ _)⟩)
        dsimp only [Pt.U, Pt.locs, Pt.cells, Pt.slots] at X_31 l_31 y_31 z_31 st_31 hQ_31
        subst l_31 y_31 z_31
        obtain ⟨rfl, N_31q, p_31_0⟩ := hQ_31
        have N_31 := Fr.app N_28 N_31q
        refine own_go (S' := T_31.setTop (mkF m 109 #[.val (.int ua), .val (.int ub), .val (.int uc), .val (.int fl), .val (.ref b_1), .val (.int (1 : Int32)), .val (.long (3 : Int64)), .second] [(.int (1 : Int32))])) (fun target kt => ?_) ?_
        · show Steps p.tables e below (T_23.setTop (mkF m 80 #[.val (.int ua), .val (.int ub), .val (.int uc), .val (.int fl), .val (.ref b_1), .val (.int (1 : Int32)), .val (.long (3 : Int64)), .second] [(.int (fl &&& (4 : Int32)))])) target
          refine XS.ifNo X_23.here hx rfl (hb hby at_80) rfl ((if0 _ _).trans (feq hc80).1) ?_
          show Steps p.tables e below (T_23.setTop (mkF m 83 #[.val (.int ua), .val (.int ub), .val (.int uc), .val (.int fl), .val (.ref b_1), .val (.int (1 : Int32)), .val (.long (3 : Int64)), .second] [])) target
          refine XS.aload X_23.here hx rfl (hb hby at_83) rfl rfl ?_
          show Steps p.tables e below (T_23.setTop (mkF m 85 #[.val (.int ua), .val (.int ub), .val (.int uc), .val (.int fl), .val (.ref b_1), .val (.int (1 : Int32)), .val (.long (3 : Int64)), .second] [(.ref b_1)])) target
          refine st_28.trans ?_
          show Steps p.tables e below (T_28.setTop (mkF m 88 #[.val (.int ua), .val (.int ub), .val (.int uc), .val (.int fl), .val (.ref b_1), .val (.int (1 : Int32)), .val (.long (3 : Int64)), .second] [])) target
          refine XS.iload X_28.here hx rfl (hb hby at_88) rfl ?_
          show Steps p.tables e below (T_28.setTop (mkF m 90 #[.val (.int ua), .val (.int ub), .val (.int uc), .val (.int fl), .val (.ref b_1), .val (.int (1 : Int32)), .val (.long (3 : Int64)), .second] [(.int (1 : Int32))])) target
          refine XS.ifNo X_28.here hx rfl (hb hby at_90) rfl ((if0 _ _).trans (feq (by decide : ¬ ((1 : Int32) = (0 : Int32)))).1) ?_
          show Steps p.tables e below (T_28.setTop (mkF m 93 #[.val (.int ua), .val (.int ub), .val (.int uc), .val (.int fl), .val (.ref b_1), .val (.int (1 : Int32)), .val (.long (3 : Int64)), .second] [])) target
          refine XS.aload X_28.here hx rfl (hb hby at_93) rfl rfl ?_
          show Steps p.tables e below (T_28.setTop (mkF m 95 #[.val (.int ua), .val (.int ub), .val (.int uc), .val (.int fl), .val (.ref b_1), .val (.int (1 : Int32)), .val (.long (3 : Int64)), .second] [(.ref b_1)])) target
          refine st_31.trans ?_
          show Steps p.tables e below (T_31.setTop (mkF m 98 #[.val (.int ua), .val (.int ub), .val (.int uc), .val (.int fl), .val (.ref b_1), .val (.int (1 : Int32)), .val (.long (3 : Int64)), .second] [(.long ((((((((0 : Int64) + own_hit ua (2 : Int32)) + own_hit ub (2 : Int32)) + own_hit uc (2 : Int32)) + ((((0 : Int64) + own_hit ua (3 : Int32)) + own_hit ub (3 : Int32)) + own_hit uc (3 : Int32))) + ((((0 : Int64) + own_hit ua (4 : Int32)) + own_hit ub (4 : Int32)) + own_hit uc (4 : Int32))) + ((((0 : Int64) + own_hit ua (5 : Int32)) + own_hit ub (5 : Int32)) + own_hit uc (5 : Int32))) + ((((0 : Int64) + own_hit ua (-1 : Int32)) + own_hit ub (-1 : Int32)) + own_hit uc (-1 : Int32))))])) target
          refine XS.lload X_31.here hx rfl (hb hby at_98) rfl ?_
          show Steps p.tables e below (T_31.setTop (mkF m 100 #[.val (.int ua), .val (.int ub), .val (.int uc), .val (.int fl), .val (.ref b_1), .val (.int (1 : Int32)), .val (.long (3 : Int64)), .second] [(.long (3 : Int64)), (.long ((((((((0 : Int64) + own_hit ua (2 : Int32)) + own_hit ub (2 : Int32)) + own_hit uc (2 : Int32)) + ((((0 : Int64) + own_hit ua (3 : Int32)) + own_hit ub (3 : Int32)) + own_hit uc (3 : Int32))) + ((((0 : Int64) + own_hit ua (4 : Int32)) + own_hit ub (4 : Int32)) + own_hit uc (4 : Int32))) + ((((0 : Int64) + own_hit ua (5 : Int32)) + own_hit ub (5 : Int32)) + own_hit uc (5 : Int32))) + ((((0 : Int64) + own_hit ua (-1 : Int32)) + own_hit ub (-1 : Int32)) + own_hit uc (-1 : Int32))))])) target
          refine XS.lcmp X_31.here hx rfl (hb hby at_100) rfl ?_
          show Steps p.tables e below (T_31.setTop (mkF m 101 #[.val (.int ua), .val (.int ub), .val (.int uc), .val (.int fl), .val (.ref b_1), .val (.int (1 : Int32)), .val (.long (3 : Int64)), .second] [(.int (lcmpW ((((((((0 : Int64) + own_hit ua (2 : Int32)) + own_hit ub (2 : Int32)) + own_hit uc (2 : Int32)) + ((((0 : Int64) + own_hit ua (3 : Int32)) + own_hit ub (3 : Int32)) + own_hit uc (3 : Int32))) + ((((0 : Int64) + own_hit ua (4 : Int32)) + own_hit ub (4 : Int32)) + own_hit uc (4 : Int32))) + ((((0 : Int64) + own_hit ua (5 : Int32)) + own_hit ub (5 : Int32)) + own_hit uc (5 : Int32))) + ((((0 : Int64) + own_hit ua (-1 : Int32)) + own_hit ub (-1 : Int32)) + own_hit uc (-1 : Int32))) (3 : Int64)))])) target
          refine XS.ifNo X_31.here hx rfl (hb hby at_101) rfl ((if0 _ _).trans (teq (own_l1 (own_pages _ _ _ : ((((((((0 : Int64) + own_hit ua (2 : Int32)) + own_hit ub (2 : Int32)) + own_hit uc (2 : Int32)) + ((((0 : Int64) + own_hit ua (3 : Int32)) + own_hit ub (3 : Int32)) + own_hit uc (3 : Int32))) + ((((0 : Int64) + own_hit ua (4 : Int32)) + own_hit ub (4 : Int32)) + own_hit uc (4 : Int32))) + ((((0 : Int64) + own_hit ua (5 : Int32)) + own_hit ub (5 : Int32)) + own_hit uc (5 : Int32))) + ((((0 : Int64) + own_hit ua (-1 : Int32)) + own_hit ub (-1 : Int32)) + own_hit uc (-1 : Int32))) = (3 : Int64)))).2) ?_
          show Steps p.tables e below (T_31.setTop (mkF m 104 #[.val (.int ua), .val (.int ub), .val (.int uc), .val (.int fl), .val (.ref b_1), .val (.int (1 : Int32)), .val (.long (3 : Int64)), .second] [])) target
          refine XS.iconst X_31.here hx rfl (hb hby at_104) ?_
          show Steps p.tables e below (T_31.setTop (mkF m 105 #[.val (.int ua), .val (.int ub), .val (.int uc), .val (.int fl), .val (.ref b_1), .val (.int (1 : Int32)), .val (.long (3 : Int64)), .second] [(.int (1 : Int32))])) target
          refine XS.goto X_31.here hx rfl (pc0 := 105) (pc' := 109) rfl (hb hby at_105) (by decide) (by decide) ?_
          show Steps p.tables e below (T_31.setTop (mkF m 109 #[.val (.int ua), .val (.int ub), .val (.int uc), .val (.int fl), .val (.ref b_1), .val (.int (1 : Int32)), .val (.long (3 : Int64)), .second] [(.int (1 : Int32))])) target
          exact kt
        obtain ⟨fs, hr, hrun, hended, hW, hsame⟩ := X_31.leave (v := some (.int (1 : Int32))) (fun h => by rw [Bd.returns] at h; cases h)
        refine ⟨_, _, retN X_31 hx (t := .boolean) Bd.returns (by simp) (hb hby at_109) hr, hrun, hended, _, _, rfl, ?_, ⟨_, rfl⟩, hW, hsame.mono (by decide) (by decide)⟩
        show Q_law Z ua ub uc fl h0 n0 _ T_31.heap _
        rw [p_31_0]
        exact ⟨rfl, N_31⟩
  · -- pc 52: no
    obtain ⟨cq_33, kq_33, q_33a, q_33b, q_33c⟩ := isOf hZ rfl p_14_1
    obtain ⟨_, _, ⟨T_33, L_33, k_33, n_33⟩, -, X_33, ⟨Lc_33, hQ_33, l_33, y_33, z_33⟩, st_33⟩ := X_14.virtualBack hx (y := (⟨"com/example/honeybee/honeybee/crawl/CrawlCounts", "countFailure", "()V"⟩ : MethodName)) (z := (⟨"com/example/honeybee/honeybee/crawl/CrawlCounts", "countFailure", "()V"⟩ : MethodName)) hown (mvT hZ (hw _ (List.mem_of_getElem? (i := 25) rfl))) (mvT hZ (hw _ (List.mem_of_getElem? (i := 26) rfl))) (notFace_of_selects (args := #[]) (mvT hZ (hw _ (List.mem_of_getElem? (i := 28) rfl)))) (mvT hZ (hw _ (List.mem_of_getElem? (i := 28) rfl))) (mvT hZ (hw _ (List.mem_of_getElem? (i := 27) rfl))) (by decide) (backOf (W := 0) (rm_cf l Z a0 hw [] b_1 ((((0 : Int64) + own_hit ua (-1 : Int32)) + own_hit ub (-1 : Int32)) + own_hit uc (-1 : Int32)) (0 : Int64) (0 : Int64) bx_4 T_14.heap n0 Z_15 p_14_1 p_14_3 p_14_4 p_14_5 p_14_2 gn_b_1) hZ (hw _ (List.mem_of_getElem? (i := 29) rfl)) (hw _ (List.mem_of_getElem? (i := 2) rfl)) (by decide) (by decide)) q_33a q_33c (g := (mkF m 57 #[.val (.int ua), .val (.int ub), .val (.int uc), .val (.int fl), .val (.ref b_1), .val (.int (1 : Int32)), .val (.long (3 : Int64)), .second] [(.ref b_1)])) rfl (by rw [hml]; rfl) (Steps.refl _) (argsL := []) (rest := []) (lenOf pd__V rfl) rfl (by show 2 * 0 + _ ≤ _; exact Nat.le_of_eq rfl) (hb hby at_57) (fun _ _ => ⟨rfl, rfl, (by decide : 2 + 0 ≤ _), (by decide : 10 + 0 ≤ _)⟩)
    dsimp only [Pt.U, Pt.locs, Pt.cells, Pt.slots] at X_33 l_33 y_33 z_33 st_33 hQ_33
    subst l_33 y_33 z_33
    obtain ⟨rfl, N_33q, p_33_0, p_33_1, p_33_2, p_33_3, p_33_4, p_33_5⟩ := hQ_33
    have N_33 := Fr.app N_14 N_33q
    have Z_34 : n0 ≤ T_33.heap.size := Nat.le_trans Z_15 p_33_0.1
    refine own_go (S' := T_33.setTop (mkF m 69 #[.val (.int ua), .val (.int ub), .val (.int uc), .val (.int fl), .val (.ref b_1), .val (.int (1 : Int32)), .val (.long (4 : Int64)), .second] [(.int (fl &&& (2 : Int32)))])) (fun target kt => ?_) ?_
    · show Steps p.tables e below (T_14.setTop (mkF m 52 #[.val (.int ua), .val (.int ub), .val (.int uc), .val (.int fl), .val (.ref b_1), .val (.int (1 : Int32)), .val (.long (3 : Int64)), .second] [(.int (fl &&& (1 : Int32)))])) target
      refine XS.ifNo X_14.here hx rfl (hb hby at_52) rfl ((if0 _ _).trans (feq hc52).1) ?_
      show Steps p.tables e below (T_14.setTop (mkF m 55 #[.val (.int ua), .val (.int ub), .val (.int uc), .val (.int fl), .val (.ref b_1), .val (.int (1 : Int32)), .val (.long (3 : Int64)), .second] [])) target
      refine XS.aload X_14.here hx rfl (hb hby at_55) rfl rfl ?_
      show Steps p.tables e below (T_14.setTop (mkF m 57 #[.val (.int ua), .val (.int ub), .val (.int uc), .val (.int fl), .val (.ref b_1), .val (.int (1 : Int32)), .val (.long (3 : Int64)), .second] [(.ref b_1)])) target
      refine st_33.trans ?_
      show Steps p.tables e below (T_33.setTop (mkF m 60 #[.val (.int ua), .val (.int ub), .val (.int uc), .val (.int fl), .val (.ref b_1), .val (.int (1 : Int32)), .val (.long (3 : Int64)), .second] [])) target
      refine XS.lload X_33.here hx rfl (hb hby at_60) rfl ?_
      show Steps p.tables e below (T_33.setTop (mkF m 62 #[.val (.int ua), .val (.int ub), .val (.int uc), .val (.int fl), .val (.ref b_1), .val (.int (1 : Int32)), .val (.long (3 : Int64)), .second] [(.long (3 : Int64))])) target
      refine XS.lconst X_33.here hx rfl (hb hby at_62) ?_
      show Steps p.tables e below (T_33.setTop (mkF m 63 #[.val (.int ua), .val (.int ub), .val (.int uc), .val (.int fl), .val (.ref b_1), .val (.int (1 : Int32)), .val (.long (3 : Int64)), .second] [(.long (1 : Int64)), (.long (3 : Int64))])) target
      refine XS.ladd X_33.here hx rfl (hb hby at_63) rfl ?_
      show Steps p.tables e below (T_33.setTop (mkF m 64 #[.val (.int ua), .val (.int ub), .val (.int uc), .val (.int fl), .val (.ref b_1), .val (.int (1 : Int32)), .val (.long (3 : Int64)), .second] [(.long ((3 : Int64) + (1 : Int64)))])) target
      rw [show (3 : Int64) + (1 : Int64) = (4 : Int64) from by decide]
      show Steps p.tables e below (T_33.setTop (mkF m 64 #[.val (.int ua), .val (.int ub), .val (.int uc), .val (.int fl), .val (.ref b_1), .val (.int (1 : Int32)), .val (.long (3 : Int64)), .second] [(.long (4 : Int64))])) target
      refine XS.lstore X_33.here hx rfl (hb hby at_64) rfl (l' := #[.val (.int ua), .val (.int ub), .val (.int uc), .val (.int fl), .val (.ref b_1), .val (.int (1 : Int32)), .val (.long (4 : Int64)), .second]) rfl ?_
      show Steps p.tables e below (T_33.setTop (mkF m 66 #[.val (.int ua), .val (.int ub), .val (.int uc), .val (.int fl), .val (.ref b_1), .val (.int (1 : Int32)), .val (.long (4 : Int64)), .second] [])) target
      refine XS.iloadN X_33.here hx rfl (hb hby at_66) rfl ?_
      show Steps p.tables e below (T_33.setTop (mkF m 67 #[.val (.int ua), .val (.int ub), .val (.int uc), .val (.int fl), .val (.ref b_1), .val (.int (1 : Int32)), .val (.long (4 : Int64)), .second] [(.int fl)])) target
      refine XS.iconst X_33.here hx rfl (hb hby at_67) ?_
      show Steps p.tables e below (T_33.setTop (mkF m 68 #[.val (.int ua), .val (.int ub), .val (.int uc), .val (.int fl), .val (.ref b_1), .val (.int (1 : Int32)), .val (.long (4 : Int64)), .second] [(.int (2 : Int32)), (.int fl)])) target
      refine XS.iand X_33.here hx rfl (hb hby at_68) rfl ?_
      show Steps p.tables e below (T_33.setTop (mkF m 69 #[.val (.int ua), .val (.int ub), .val (.int uc), .val (.int fl), .val (.ref b_1), .val (.int (1 : Int32)), .val (.long (4 : Int64)), .second] [(.int (fl &&& (2 : Int32)))])) target
      exact kt
    by_cases hc69 : (fl &&& (2 : Int32)) = (0 : Int32)
    · -- pc 69: yes
      refine own_go (S' := T_33.setTop (mkF m 80 #[.val (.int ua), .val (.int ub), .val (.int uc), .val (.int fl), .val (.ref b_1), .val (.int (1 : Int32)), .val (.long (4 : Int64)), .second] [(.int (fl &&& (4 : Int32)))])) (fun target kt => ?_) ?_
      · show Steps p.tables e below (T_33.setTop (mkF m 69 #[.val (.int ua), .val (.int ub), .val (.int uc), .val (.int fl), .val (.ref b_1), .val (.int (1 : Int32)), .val (.long (4 : Int64)), .second] [(.int (fl &&& (2 : Int32)))])) target
        refine XS.ifYes X_33.here hx rfl (pc0 := 69) (pc' := 77) rfl (hb hby at_69) rfl ((if0 _ _).trans (teq hc69).1) (by decide) (by decide) ?_
        show Steps p.tables e below (T_33.setTop (mkF m 77 #[.val (.int ua), .val (.int ub), .val (.int uc), .val (.int fl), .val (.ref b_1), .val (.int (1 : Int32)), .val (.long (4 : Int64)), .second] [])) target
        refine XS.iloadN X_33.here hx rfl (hb hby at_77) rfl ?_
        show Steps p.tables e below (T_33.setTop (mkF m 78 #[.val (.int ua), .val (.int ub), .val (.int uc), .val (.int fl), .val (.ref b_1), .val (.int (1 : Int32)), .val (.long (4 : Int64)), .second] [(.int fl)])) target
        refine XS.iconst X_33.here hx rfl (hb hby at_78) ?_
        show Steps p.tables e below (T_33.setTop (mkF m 79 #[.val (.int ua), .val (.int ub), .val (.int uc), .val (.int fl), .val (.ref b_1), .val (.int (1 : Int32)), .val (.long (4 : Int64)), .second] [(.int (4 : Int32)), (.int fl)])) target
        refine XS.iand X_33.here hx rfl (hb hby at_79) rfl ?_
        show Steps p.tables e below (T_33.setTop (mkF m 80 #[.val (.int ua), .val (.int ub), .val (.int uc), .val (.int fl), .val (.ref b_1), .val (.int (1 : Int32)), .val (.long (4 : Int64)), .second] [(.int (fl &&& (4 : Int32)))])) target
        exact kt
      by_cases hc80 : (fl &&& (4 : Int32)) = (0 : Int32)
      · -- pc 80: yes
        have f_37 := (p_14_6.keep p_33_0 (by simp only [List.mem_cons, List.not_mem_nil, or_false, not_or]; exact (Ne.symm p_4_7)))
        obtain ⟨cq_36, kq_36, q_36a, q_36b, q_36c⟩ := isOf hZ rfl p_33_1
        obtain ⟨_, _, ⟨T_36, L_36, k_36, n_36⟩, -, X_36, ⟨Lc_36, hQ_36, l_36, y_36, z_36⟩, st_36⟩ := X_33.virtualBack hx (y := (⟨"com/example/honeybee/honeybee/crawl/CrawlCounts", "pages", "()J"⟩ : MethodName)) (z := (⟨"com/example/honeybee/honeybee/crawl/CrawlCounts", "pages", "()J"⟩ : MethodName)) hown (mvT hZ (hw _ (List.mem_of_getElem? (i := 12) rfl))) (mvT hZ (hw _ (List.mem_of_getElem? (i := 13) rfl))) (notFace_of_selects (args := #[]) (mvT hZ (hw _ (List.mem_of_getElem? (i := 15) rfl)))) (mvT hZ (hw _ (List.mem_of_getElem? (i := 15) rfl))) (mvT hZ (hw _ (List.mem_of_getElem? (i := 14) rfl))) (by decide) (backOf (W := 0) (rm_pages l Z a0 hw [] b_1 bx_4 kx_4 (0 : Int64) (0 : Int64) ((((0 : Int64) + own_hit ua (2 : Int32)) + own_hit ub (2 : Int32)) + own_hit uc (2 : Int32)) ((((0 : Int64) + own_hit ua (3 : Int32)) + own_hit ub (3 : Int32)) + own_hit uc (3 : Int32)) ((((0 : Int64) + own_hit ua (4 : Int32)) + own_hit ub (4 : Int32)) + own_hit uc (4 : Int32)) ((((0 : Int64) + own_hit ua (5 : Int32)) + own_hit ub (5 : Int32)) + own_hit uc (5 : Int32)) (((((0 : Int64) + own_hit ua (-1 : Int32)) + own_hit ub (-1 : Int32)) + own_hit uc (-1 : Int32)) + (1 : Int64)) T_33.heap n0 Z_34 p_33_1 p_33_5 p_33_2 f_37) hZ (hw _ (List.mem_of_getElem? (i := 16) rfl)) (hw _ (List.mem_of_getElem? (i := 2) rfl)) (by decide) (by decide)) q_36a q_36c (g := (mkF m 95 #[.val (.int ua), .val (.int ub), .val (.int uc), .val (.int fl), .val (.ref b_1), .val (.int (1 : Int32)), .val (.long (4 : Int64)), .second] [(.ref b_1)])) rfl (by rw [hml]; rfl) (Steps.refl _) (argsL := []) (rest := []) (lenOf pd__J rfl) rfl (by show 2 * 0 + _ ≤ _; exact Nat.le_of_eq rfl) (hb hby at_95) (fun _ _ => ⟨rfl, rfl, (by decide : 2 + 0 ≤ _), (by decide : 10 + 0 ≤ _)⟩)
        dsimp only [Pt.U, Pt.locs, Pt.cells, Pt.slots] at X_36 l_36 y_36 z_36 st_36 hQ_36
        subst l_36 y_36 z_36
        obtain ⟨rfl, N_36q, p_36_0⟩ := hQ_36
        have N_36 := Fr.app N_33 N_36q
        refine own_go (S' := T_36.setTop (mkF m 109 #[.val (.int ua), .val (.int ub), .val (.int uc), .val (.int fl), .val (.ref b_1), .val (.int (1 : Int32)), .val (.long (4 : Int64)), .second] [(.int (1 : Int32))])) (fun target kt => ?_) ?_
        · show Steps p.tables e below (T_33.setTop (mkF m 80 #[.val (.int ua), .val (.int ub), .val (.int uc), .val (.int fl), .val (.ref b_1), .val (.int (1 : Int32)), .val (.long (4 : Int64)), .second] [(.int (fl &&& (4 : Int32)))])) target
          refine XS.ifYes X_33.here hx rfl (pc0 := 80) (pc' := 88) rfl (hb hby at_80) rfl ((if0 _ _).trans (teq hc80).1) (by decide) (by decide) ?_
          show Steps p.tables e below (T_33.setTop (mkF m 88 #[.val (.int ua), .val (.int ub), .val (.int uc), .val (.int fl), .val (.ref b_1), .val (.int (1 : Int32)), .val (.long (4 : Int64)), .second] [])) target
          refine XS.iload X_33.here hx rfl (hb hby at_88) rfl ?_
          show Steps p.tables e below (T_33.setTop (mkF m 90 #[.val (.int ua), .val (.int ub), .val (.int uc), .val (.int fl), .val (.ref b_1), .val (.int (1 : Int32)), .val (.long (4 : Int64)), .second] [(.int (1 : Int32))])) target
          refine XS.ifNo X_33.here hx rfl (hb hby at_90) rfl ((if0 _ _).trans (feq (by decide : ¬ ((1 : Int32) = (0 : Int32)))).1) ?_
          show Steps p.tables e below (T_33.setTop (mkF m 93 #[.val (.int ua), .val (.int ub), .val (.int uc), .val (.int fl), .val (.ref b_1), .val (.int (1 : Int32)), .val (.long (4 : Int64)), .second] [])) target
          refine XS.aload X_33.here hx rfl (hb hby at_93) rfl rfl ?_
          show Steps p.tables e below (T_33.setTop (mkF m 95 #[.val (.int ua), .val (.int ub), .val (.int uc), .val (.int fl), .val (.ref b_1), .val (.int (1 : Int32)), .val (.long (4 : Int64)), .second] [(.ref b_1)])) target
          refine st_36.trans ?_
          show Steps p.tables e below (T_36.setTop (mkF m 98 #[.val (.int ua), .val (.int ub), .val (.int uc), .val (.int fl), .val (.ref b_1), .val (.int (1 : Int32)), .val (.long (4 : Int64)), .second] [(.long ((((((((0 : Int64) + own_hit ua (2 : Int32)) + own_hit ub (2 : Int32)) + own_hit uc (2 : Int32)) + ((((0 : Int64) + own_hit ua (3 : Int32)) + own_hit ub (3 : Int32)) + own_hit uc (3 : Int32))) + ((((0 : Int64) + own_hit ua (4 : Int32)) + own_hit ub (4 : Int32)) + own_hit uc (4 : Int32))) + ((((0 : Int64) + own_hit ua (5 : Int32)) + own_hit ub (5 : Int32)) + own_hit uc (5 : Int32))) + (((((0 : Int64) + own_hit ua (-1 : Int32)) + own_hit ub (-1 : Int32)) + own_hit uc (-1 : Int32)) + (1 : Int64))))])) target
          refine XS.lload X_36.here hx rfl (hb hby at_98) rfl ?_
          show Steps p.tables e below (T_36.setTop (mkF m 100 #[.val (.int ua), .val (.int ub), .val (.int uc), .val (.int fl), .val (.ref b_1), .val (.int (1 : Int32)), .val (.long (4 : Int64)), .second] [(.long (4 : Int64)), (.long ((((((((0 : Int64) + own_hit ua (2 : Int32)) + own_hit ub (2 : Int32)) + own_hit uc (2 : Int32)) + ((((0 : Int64) + own_hit ua (3 : Int32)) + own_hit ub (3 : Int32)) + own_hit uc (3 : Int32))) + ((((0 : Int64) + own_hit ua (4 : Int32)) + own_hit ub (4 : Int32)) + own_hit uc (4 : Int32))) + ((((0 : Int64) + own_hit ua (5 : Int32)) + own_hit ub (5 : Int32)) + own_hit uc (5 : Int32))) + (((((0 : Int64) + own_hit ua (-1 : Int32)) + own_hit ub (-1 : Int32)) + own_hit uc (-1 : Int32)) + (1 : Int64))))])) target
          refine XS.lcmp X_36.here hx rfl (hb hby at_100) rfl ?_
          show Steps p.tables e below (T_36.setTop (mkF m 101 #[.val (.int ua), .val (.int ub), .val (.int uc), .val (.int fl), .val (.ref b_1), .val (.int (1 : Int32)), .val (.long (4 : Int64)), .second] [(.int (lcmpW ((((((((0 : Int64) + own_hit ua (2 : Int32)) + own_hit ub (2 : Int32)) + own_hit uc (2 : Int32)) + ((((0 : Int64) + own_hit ua (3 : Int32)) + own_hit ub (3 : Int32)) + own_hit uc (3 : Int32))) + ((((0 : Int64) + own_hit ua (4 : Int32)) + own_hit ub (4 : Int32)) + own_hit uc (4 : Int32))) + ((((0 : Int64) + own_hit ua (5 : Int32)) + own_hit ub (5 : Int32)) + own_hit uc (5 : Int32))) + (((((0 : Int64) + own_hit ua (-1 : Int32)) + own_hit ub (-1 : Int32)) + own_hit uc (-1 : Int32)) + (1 : Int64))) (4 : Int64)))])) target
          refine XS.ifNo X_36.here hx rfl (hb hby at_101) rfl ((if0 _ _).trans (teq (own_l1 (own_pages1 _ _ _ : ((((((((0 : Int64) + own_hit ua (2 : Int32)) + own_hit ub (2 : Int32)) + own_hit uc (2 : Int32)) + ((((0 : Int64) + own_hit ua (3 : Int32)) + own_hit ub (3 : Int32)) + own_hit uc (3 : Int32))) + ((((0 : Int64) + own_hit ua (4 : Int32)) + own_hit ub (4 : Int32)) + own_hit uc (4 : Int32))) + ((((0 : Int64) + own_hit ua (5 : Int32)) + own_hit ub (5 : Int32)) + own_hit uc (5 : Int32))) + (((((0 : Int64) + own_hit ua (-1 : Int32)) + own_hit ub (-1 : Int32)) + own_hit uc (-1 : Int32)) + (1 : Int64))) = (4 : Int64)))).2) ?_
          show Steps p.tables e below (T_36.setTop (mkF m 104 #[.val (.int ua), .val (.int ub), .val (.int uc), .val (.int fl), .val (.ref b_1), .val (.int (1 : Int32)), .val (.long (4 : Int64)), .second] [])) target
          refine XS.iconst X_36.here hx rfl (hb hby at_104) ?_
          show Steps p.tables e below (T_36.setTop (mkF m 105 #[.val (.int ua), .val (.int ub), .val (.int uc), .val (.int fl), .val (.ref b_1), .val (.int (1 : Int32)), .val (.long (4 : Int64)), .second] [(.int (1 : Int32))])) target
          refine XS.goto X_36.here hx rfl (pc0 := 105) (pc' := 109) rfl (hb hby at_105) (by decide) (by decide) ?_
          show Steps p.tables e below (T_36.setTop (mkF m 109 #[.val (.int ua), .val (.int ub), .val (.int uc), .val (.int fl), .val (.ref b_1), .val (.int (1 : Int32)), .val (.long (4 : Int64)), .second] [(.int (1 : Int32))])) target
          exact kt
        obtain ⟨fs, hr, hrun, hended, hW, hsame⟩ := X_36.leave (v := some (.int (1 : Int32))) (fun h => by rw [Bd.returns] at h; cases h)
        refine ⟨_, _, retN X_36 hx (t := .boolean) Bd.returns (by simp) (hb hby at_109) hr, hrun, hended, _, _, rfl, ?_, ⟨_, rfl⟩, hW, hsame.mono (by decide) (by decide)⟩
        show Q_law Z ua ub uc fl h0 n0 _ T_36.heap _
        rw [p_36_0]
        exact ⟨rfl, N_36⟩
      · -- pc 80: no
        obtain ⟨cq_38, kq_38, q_38a, q_38b, q_38c⟩ := isOf hZ rfl p_33_1
        obtain ⟨_, _, ⟨T_38, L_38, k_38, n_38⟩, -, X_38, ⟨Lc_38, hQ_38, l_38, y_38, z_38⟩, st_38⟩ := X_33.virtualBack hx (y := (⟨"com/example/honeybee/honeybee/crawl/CrawlCounts", "countDisallowed", "()V"⟩ : MethodName)) (z := (⟨"com/example/honeybee/honeybee/crawl/CrawlCounts", "countDisallowed", "()V"⟩ : MethodName)) hown (mvT hZ (hw _ (List.mem_of_getElem? (i := 37) rfl))) (mvT hZ (hw _ (List.mem_of_getElem? (i := 38) rfl))) (notFace_of_selects (args := #[]) (mvT hZ (hw _ (List.mem_of_getElem? (i := 40) rfl)))) (mvT hZ (hw _ (List.mem_of_getElem? (i := 40) rfl))) (mvT hZ (hw _ (List.mem_of_getElem? (i := 39) rfl))) (by decide) (backOf (W := 0) (rm_cx l Z a0 hw [] b_1 (((((0 : Int64) + own_hit ua (-1 : Int32)) + own_hit ub (-1 : Int32)) + own_hit uc (-1 : Int32)) + (1 : Int64)) (0 : Int64) (0 : Int64) bx_4 T_33.heap n0 Z_34 p_33_1 p_33_2 p_33_3 p_33_4 p_33_5 gn_b_1) hZ (hw _ (List.mem_of_getElem? (i := 41) rfl)) (hw _ (List.mem_of_getElem? (i := 2) rfl)) (by decide) (by decide)) q_38a q_38c (g := (mkF m 85 #[.val (.int ua), .val (.int ub), .val (.int uc), .val (.int fl), .val (.ref b_1), .val (.int (1 : Int32)), .val (.long (4 : Int64)), .second] [(.ref b_1)])) rfl (by rw [hml]; rfl) (Steps.refl _) (argsL := []) (rest := []) (lenOf pd__V rfl) rfl (by show 2 * 0 + _ ≤ _; exact Nat.le_of_eq rfl) (hb hby at_85) (fun _ _ => ⟨rfl, rfl, (by decide : 2 + 0 ≤ _), (by decide : 10 + 0 ≤ _)⟩)
        dsimp only [Pt.U, Pt.locs, Pt.cells, Pt.slots] at X_38 l_38 y_38 z_38 st_38 hQ_38
        subst l_38 y_38 z_38
        obtain ⟨rfl, N_38q, p_38_0, p_38_1, p_38_2, p_38_3, p_38_4, p_38_5⟩ := hQ_38
        have N_38 := Fr.app N_33 N_38q
        have Z_39 : n0 ≤ T_38.heap.size := Nat.le_trans Z_34 p_38_0.1
        have f_42 := ((p_14_6.keep p_33_0 (by simp only [List.mem_cons, List.not_mem_nil, or_false, not_or]; exact (Ne.symm p_4_7))).keep p_38_0 (by simp only [List.mem_cons, List.not_mem_nil, or_false, not_or]; exact (Ne.symm p_4_7)))
        obtain ⟨cq_41, kq_41, q_41a, q_41b, q_41c⟩ := isOf hZ rfl p_38_1
        obtain ⟨_, _, ⟨T_41, L_41, k_41, n_41⟩, -, X_41, ⟨Lc_41, hQ_41, l_41, y_41, z_41⟩, st_41⟩ := X_38.virtualBack hx (y := (⟨"com/example/honeybee/honeybee/crawl/CrawlCounts", "pages", "()J"⟩ : MethodName)) (z := (⟨"com/example/honeybee/honeybee/crawl/CrawlCounts", "pages", "()J"⟩ : MethodName)) hown (mvT hZ (hw _ (List.mem_of_getElem? (i := 12) rfl))) (mvT hZ (hw _ (List.mem_of_getElem? (i := 13) rfl))) (notFace_of_selects (args := #[]) (mvT hZ (hw _ (List.mem_of_getElem? (i := 15) rfl)))) (mvT hZ (hw _ (List.mem_of_getElem? (i := 15) rfl))) (mvT hZ (hw _ (List.mem_of_getElem? (i := 14) rfl))) (by decide) (backOf (W := 0) (rm_pages l Z a0 hw [] b_1 bx_4 kx_4 (0 : Int64) (0 : Int64) ((((0 : Int64) + own_hit ua (2 : Int32)) + own_hit ub (2 : Int32)) + own_hit uc (2 : Int32)) ((((0 : Int64) + own_hit ua (3 : Int32)) + own_hit ub (3 : Int32)) + own_hit uc (3 : Int32)) ((((0 : Int64) + own_hit ua (4 : Int32)) + own_hit ub (4 : Int32)) + own_hit uc (4 : Int32)) ((((0 : Int64) + own_hit ua (5 : Int32)) + own_hit ub (5 : Int32)) + own_hit uc (5 : Int32)) (((((0 : Int64) + own_hit ua (-1 : Int32)) + own_hit ub (-1 : Int32)) + own_hit uc (-1 : Int32)) + (1 : Int64)) T_38.heap n0 Z_39 p_38_1 p_38_5 p_38_2 f_42) hZ (hw _ (List.mem_of_getElem? (i := 16) rfl)) (hw _ (List.mem_of_getElem? (i := 2) rfl)) (by decide) (by decide)) q_41a q_41c (g := (mkF m 95 #[.val (.int ua), .val (.int ub), .val (.int uc), .val (.int fl), .val (.ref b_1), .val (.int (1 : Int32)), .val (.long (4 : Int64)), .second] [(.ref b_1)])) rfl (by rw [hml]; rfl) (Steps.refl _) (argsL := []) (rest := []) (lenOf pd__J rfl) rfl (by show 2 * 0 + _ ≤ _; exact Nat.le_of_eq rfl) (hb hby at_95) (fun _ _ => ⟨rfl, rfl, (by decide : 2 + 0 ≤ _), (by decide : 10 + 0 ≤ _)⟩)
        dsimp only [Pt.U, Pt.locs, Pt.cells, Pt.slots] at X_41 l_41 y_41 z_41 st_41 hQ_41
        subst l_41 y_41 z_41
        obtain ⟨rfl, N_41q, p_41_0⟩ := hQ_41
        have N_41 := Fr.app N_38 N_41q
        refine own_go (S' := T_41.setTop (mkF m 109 #[.val (.int ua), .val (.int ub), .val (.int uc), .val (.int fl), .val (.ref b_1), .val (.int (1 : Int32)), .val (.long (4 : Int64)), .second] [(.int (1 : Int32))])) (fun target kt => ?_) ?_
        · show Steps p.tables e below (T_33.setTop (mkF m 80 #[.val (.int ua), .val (.int ub), .val (.int uc), .val (.int fl), .val (.ref b_1), .val (.int (1 : Int32)), .val (.long (4 : Int64)), .second] [(.int (fl &&& (4 : Int32)))])) target
          refine XS.ifNo X_33.here hx rfl (hb hby at_80) rfl ((if0 _ _).trans (feq hc80).1) ?_
          show Steps p.tables e below (T_33.setTop (mkF m 83 #[.val (.int ua), .val (.int ub), .val (.int uc), .val (.int fl), .val (.ref b_1), .val (.int (1 : Int32)), .val (.long (4 : Int64)), .second] [])) target
          refine XS.aload X_33.here hx rfl (hb hby at_83) rfl rfl ?_
          show Steps p.tables e below (T_33.setTop (mkF m 85 #[.val (.int ua), .val (.int ub), .val (.int uc), .val (.int fl), .val (.ref b_1), .val (.int (1 : Int32)), .val (.long (4 : Int64)), .second] [(.ref b_1)])) target
          refine st_38.trans ?_
          show Steps p.tables e below (T_38.setTop (mkF m 88 #[.val (.int ua), .val (.int ub), .val (.int uc), .val (.int fl), .val (.ref b_1), .val (.int (1 : Int32)), .val (.long (4 : Int64)), .second] [])) target
          refine XS.iload X_38.here hx rfl (hb hby at_88) rfl ?_
          show Steps p.tables e below (T_38.setTop (mkF m 90 #[.val (.int ua), .val (.int ub), .val (.int uc), .val (.int fl), .val (.ref b_1), .val (.int (1 : Int32)), .val (.long (4 : Int64)), .second] [(.int (1 : Int32))])) target
          refine XS.ifNo X_38.here hx rfl (hb hby at_90) rfl ((if0 _ _).trans (feq (by decide : ¬ ((1 : Int32) = (0 : Int32)))).1) ?_
          show Steps p.tables e below (T_38.setTop (mkF m 93 #[.val (.int ua), .val (.int ub), .val (.int uc), .val (.int fl), .val (.ref b_1), .val (.int (1 : Int32)), .val (.long (4 : Int64)), .second] [])) target
          refine XS.aload X_38.here hx rfl (hb hby at_93) rfl rfl ?_
          show Steps p.tables e below (T_38.setTop (mkF m 95 #[.val (.int ua), .val (.int ub), .val (.int uc), .val (.int fl), .val (.ref b_1), .val (.int (1 : Int32)), .val (.long (4 : Int64)), .second] [(.ref b_1)])) target
          refine st_41.trans ?_
          show Steps p.tables e below (T_41.setTop (mkF m 98 #[.val (.int ua), .val (.int ub), .val (.int uc), .val (.int fl), .val (.ref b_1), .val (.int (1 : Int32)), .val (.long (4 : Int64)), .second] [(.long ((((((((0 : Int64) + own_hit ua (2 : Int32)) + own_hit ub (2 : Int32)) + own_hit uc (2 : Int32)) + ((((0 : Int64) + own_hit ua (3 : Int32)) + own_hit ub (3 : Int32)) + own_hit uc (3 : Int32))) + ((((0 : Int64) + own_hit ua (4 : Int32)) + own_hit ub (4 : Int32)) + own_hit uc (4 : Int32))) + ((((0 : Int64) + own_hit ua (5 : Int32)) + own_hit ub (5 : Int32)) + own_hit uc (5 : Int32))) + (((((0 : Int64) + own_hit ua (-1 : Int32)) + own_hit ub (-1 : Int32)) + own_hit uc (-1 : Int32)) + (1 : Int64))))])) target
          refine XS.lload X_41.here hx rfl (hb hby at_98) rfl ?_
          show Steps p.tables e below (T_41.setTop (mkF m 100 #[.val (.int ua), .val (.int ub), .val (.int uc), .val (.int fl), .val (.ref b_1), .val (.int (1 : Int32)), .val (.long (4 : Int64)), .second] [(.long (4 : Int64)), (.long ((((((((0 : Int64) + own_hit ua (2 : Int32)) + own_hit ub (2 : Int32)) + own_hit uc (2 : Int32)) + ((((0 : Int64) + own_hit ua (3 : Int32)) + own_hit ub (3 : Int32)) + own_hit uc (3 : Int32))) + ((((0 : Int64) + own_hit ua (4 : Int32)) + own_hit ub (4 : Int32)) + own_hit uc (4 : Int32))) + ((((0 : Int64) + own_hit ua (5 : Int32)) + own_hit ub (5 : Int32)) + own_hit uc (5 : Int32))) + (((((0 : Int64) + own_hit ua (-1 : Int32)) + own_hit ub (-1 : Int32)) + own_hit uc (-1 : Int32)) + (1 : Int64))))])) target
          refine XS.lcmp X_41.here hx rfl (hb hby at_100) rfl ?_
          show Steps p.tables e below (T_41.setTop (mkF m 101 #[.val (.int ua), .val (.int ub), .val (.int uc), .val (.int fl), .val (.ref b_1), .val (.int (1 : Int32)), .val (.long (4 : Int64)), .second] [(.int (lcmpW ((((((((0 : Int64) + own_hit ua (2 : Int32)) + own_hit ub (2 : Int32)) + own_hit uc (2 : Int32)) + ((((0 : Int64) + own_hit ua (3 : Int32)) + own_hit ub (3 : Int32)) + own_hit uc (3 : Int32))) + ((((0 : Int64) + own_hit ua (4 : Int32)) + own_hit ub (4 : Int32)) + own_hit uc (4 : Int32))) + ((((0 : Int64) + own_hit ua (5 : Int32)) + own_hit ub (5 : Int32)) + own_hit uc (5 : Int32))) + (((((0 : Int64) + own_hit ua (-1 : Int32)) + own_hit ub (-1 : Int32)) + own_hit uc (-1 : Int32)) + (1 : Int64))) (4 : Int64)))])) target
          refine XS.ifNo X_41.here hx rfl (hb hby at_101) rfl ((if0 _ _).trans (teq (own_l1 (own_pages1 _ _ _ : ((((((((0 : Int64) + own_hit ua (2 : Int32)) + own_hit ub (2 : Int32)) + own_hit uc (2 : Int32)) + ((((0 : Int64) + own_hit ua (3 : Int32)) + own_hit ub (3 : Int32)) + own_hit uc (3 : Int32))) + ((((0 : Int64) + own_hit ua (4 : Int32)) + own_hit ub (4 : Int32)) + own_hit uc (4 : Int32))) + ((((0 : Int64) + own_hit ua (5 : Int32)) + own_hit ub (5 : Int32)) + own_hit uc (5 : Int32))) + (((((0 : Int64) + own_hit ua (-1 : Int32)) + own_hit ub (-1 : Int32)) + own_hit uc (-1 : Int32)) + (1 : Int64))) = (4 : Int64)))).2) ?_
          show Steps p.tables e below (T_41.setTop (mkF m 104 #[.val (.int ua), .val (.int ub), .val (.int uc), .val (.int fl), .val (.ref b_1), .val (.int (1 : Int32)), .val (.long (4 : Int64)), .second] [])) target
          refine XS.iconst X_41.here hx rfl (hb hby at_104) ?_
          show Steps p.tables e below (T_41.setTop (mkF m 105 #[.val (.int ua), .val (.int ub), .val (.int uc), .val (.int fl), .val (.ref b_1), .val (.int (1 : Int32)), .val (.long (4 : Int64)), .second] [(.int (1 : Int32))])) target
          refine XS.goto X_41.here hx rfl (pc0 := 105) (pc' := 109) rfl (hb hby at_105) (by decide) (by decide) ?_
          show Steps p.tables e below (T_41.setTop (mkF m 109 #[.val (.int ua), .val (.int ub), .val (.int uc), .val (.int fl), .val (.ref b_1), .val (.int (1 : Int32)), .val (.long (4 : Int64)), .second] [(.int (1 : Int32))])) target
          exact kt
        obtain ⟨fs, hr, hrun, hended, hW, hsame⟩ := X_41.leave (v := some (.int (1 : Int32))) (fun h => by rw [Bd.returns] at h; cases h)
        refine ⟨_, _, retN X_41 hx (t := .boolean) Bd.returns (by simp) (hb hby at_109) hr, hrun, hended, _, _, rfl, ?_, ⟨_, rfl⟩, hW, hsame.mono (by decide) (by decide)⟩
        show Q_law Z ua ub uc fl h0 n0 _ T_41.heap _
        rw [p_41_0]
        exact ⟨rfl, N_41⟩
    · -- pc 69: no
      obtain ⟨cq_43, kq_43, q_43a, q_43b, q_43c⟩ := isOf hZ rfl p_33_1
      obtain ⟨_, _, ⟨T_43, L_43, k_43, n_43⟩, -, X_43, ⟨Lc_43, hQ_43, l_43, y_43, z_43⟩, st_43⟩ := X_33.virtualBack hx (y := (⟨"com/example/honeybee/honeybee/crawl/CrawlCounts", "countDuplicate", "()V"⟩ : MethodName)) (z := (⟨"com/example/honeybee/honeybee/crawl/CrawlCounts", "countDuplicate", "()V"⟩ : MethodName)) hown (mvT hZ (hw _ (List.mem_of_getElem? (i := 30) rfl))) (mvT hZ (hw _ (List.mem_of_getElem? (i := 31) rfl))) (notFace_of_selects (args := #[]) (mvT hZ (hw _ (List.mem_of_getElem? (i := 33) rfl)))) (mvT hZ (hw _ (List.mem_of_getElem? (i := 33) rfl))) (mvT hZ (hw _ (List.mem_of_getElem? (i := 32) rfl))) (by decide) (backOf (W := 0) (rm_cd l Z a0 hw [] b_1 (((((0 : Int64) + own_hit ua (-1 : Int32)) + own_hit ub (-1 : Int32)) + own_hit uc (-1 : Int32)) + (1 : Int64)) (0 : Int64) (0 : Int64) bx_4 T_33.heap n0 Z_34 p_33_1 p_33_2 p_33_3 p_33_4 p_33_5 gn_b_1) hZ (hw _ (List.mem_of_getElem? (i := 34) rfl)) (hw _ (List.mem_of_getElem? (i := 2) rfl)) (by decide) (by decide)) q_43a q_43c (g := (mkF m 74 #[.val (.int ua), .val (.int ub), .val (.int uc), .val (.int fl), .val (.ref b_1), .val (.int (1 : Int32)), .val (.long (4 : Int64)), .second] [(.ref b_1)])) rfl (by rw [hml]; rfl) (Steps.refl _) (argsL := []) (rest := []) (lenOf pd__V rfl) rfl (by show 2 * 0 + _ ≤ _; exact Nat.le_of_eq rfl) (hb hby at_74) (fun _ _ => ⟨rfl, rfl, (by decide : 2 + 0 ≤ _), (by decide : 10 + 0 ≤ _)⟩)
      dsimp only [Pt.U, Pt.locs, Pt.cells, Pt.slots] at X_43 l_43 y_43 z_43 st_43 hQ_43
      subst l_43 y_43 z_43
      obtain ⟨rfl, N_43q, p_43_0, p_43_1, p_43_2, p_43_3, p_43_4, p_43_5⟩ := hQ_43
      have N_43 := Fr.app N_33 N_43q
      have Z_44 : n0 ≤ T_43.heap.size := Nat.le_trans Z_34 p_43_0.1
      refine own_go (S' := T_43.setTop (mkF m 80 #[.val (.int ua), .val (.int ub), .val (.int uc), .val (.int fl), .val (.ref b_1), .val (.int (1 : Int32)), .val (.long (4 : Int64)), .second] [(.int (fl &&& (4 : Int32)))])) (fun target kt => ?_) ?_
      · show Steps p.tables e below (T_33.setTop (mkF m 69 #[.val (.int ua), .val (.int ub), .val (.int uc), .val (.int fl), .val (.ref b_1), .val (.int (1 : Int32)), .val (.long (4 : Int64)), .second] [(.int (fl &&& (2 : Int32)))])) target
        refine XS.ifNo X_33.here hx rfl (hb hby at_69) rfl ((if0 _ _).trans (feq hc69).1) ?_
        show Steps p.tables e below (T_33.setTop (mkF m 72 #[.val (.int ua), .val (.int ub), .val (.int uc), .val (.int fl), .val (.ref b_1), .val (.int (1 : Int32)), .val (.long (4 : Int64)), .second] [])) target
        refine XS.aload X_33.here hx rfl (hb hby at_72) rfl rfl ?_
        show Steps p.tables e below (T_33.setTop (mkF m 74 #[.val (.int ua), .val (.int ub), .val (.int uc), .val (.int fl), .val (.ref b_1), .val (.int (1 : Int32)), .val (.long (4 : Int64)), .second] [(.ref b_1)])) target
        refine st_43.trans ?_
        show Steps p.tables e below (T_43.setTop (mkF m 77 #[.val (.int ua), .val (.int ub), .val (.int uc), .val (.int fl), .val (.ref b_1), .val (.int (1 : Int32)), .val (.long (4 : Int64)), .second] [])) target
        refine XS.iloadN X_43.here hx rfl (hb hby at_77) rfl ?_
        show Steps p.tables e below (T_43.setTop (mkF m 78 #[.val (.int ua), .val (.int ub), .val (.int uc), .val (.int fl), .val (.ref b_1), .val (.int (1 : Int32)), .val (.long (4 : Int64)), .second] [(.int fl)])) target
        refine XS.iconst X_43.here hx rfl (hb hby at_78) ?_
        show Steps p.tables e below (T_43.setTop (mkF m 79 #[.val (.int ua), .val (.int ub), .val (.int uc), .val (.int fl), .val (.ref b_1), .val (.int (1 : Int32)), .val (.long (4 : Int64)), .second] [(.int (4 : Int32)), (.int fl)])) target
        refine XS.iand X_43.here hx rfl (hb hby at_79) rfl ?_
        show Steps p.tables e below (T_43.setTop (mkF m 80 #[.val (.int ua), .val (.int ub), .val (.int uc), .val (.int fl), .val (.ref b_1), .val (.int (1 : Int32)), .val (.long (4 : Int64)), .second] [(.int (fl &&& (4 : Int32)))])) target
        exact kt
      by_cases hc80 : (fl &&& (4 : Int32)) = (0 : Int32)
      · -- pc 80: yes
        have f_47 := ((p_14_6.keep p_33_0 (by simp only [List.mem_cons, List.not_mem_nil, or_false, not_or]; exact (Ne.symm p_4_7))).keep p_43_0 (by simp only [List.mem_cons, List.not_mem_nil, or_false, not_or]; exact (Ne.symm p_4_7)))
        obtain ⟨cq_46, kq_46, q_46a, q_46b, q_46c⟩ := isOf hZ rfl p_43_1
        obtain ⟨_, _, ⟨T_46, L_46, k_46, n_46⟩, -, X_46, ⟨Lc_46, hQ_46, l_46, y_46, z_46⟩, st_46⟩ := X_43.virtualBack hx (y := (⟨"com/example/honeybee/honeybee/crawl/CrawlCounts", "pages", "()J"⟩ : MethodName)) (z := (⟨"com/example/honeybee/honeybee/crawl/CrawlCounts", "pages", "()J"⟩ : MethodName)) hown (mvT hZ (hw _ (List.mem_of_getElem? (i := 12) rfl))) (mvT hZ (hw _ (List.mem_of_getElem? (i := 13) rfl))) (notFace_of_selects (args := #[]) (mvT hZ (hw _ (List.mem_of_getElem? (i := 15) rfl)))) (mvT hZ (hw _ (List.mem_of_getElem? (i := 15) rfl))) (mvT hZ (hw _ (List.mem_of_getElem? (i := 14) rfl))) (by decide) (backOf (W := 0) (rm_pages l Z a0 hw [] b_1 bx_4 kx_4 (0 : Int64) (0 : Int64) ((((0 : Int64) + own_hit ua (2 : Int32)) + own_hit ub (2 : Int32)) + own_hit uc (2 : Int32)) ((((0 : Int64) + own_hit ua (3 : Int32)) + own_hit ub (3 : Int32)) + own_hit uc (3 : Int32)) ((((0 : Int64) + own_hit ua (4 : Int32)) + own_hit ub (4 : Int32)) + own_hit uc (4 : Int32)) ((((0 : Int64) + own_hit ua (5 : Int32)) + own_hit ub (5 : Int32)) + own_hit uc (5 : Int32)) (((((0 : Int64) + own_hit ua (-1 : Int32)) + own_hit ub (-1 : Int32)) + own_hit uc (-1 : Int32)) + (1 : Int64)) T_43.heap n0 Z_44 p_43_1 p_43_5 p_43_2 f_47) hZ (hw _ (List.mem_of_getElem? (i := 16) rfl)) (hw _ (List.mem_of_getElem? (i := 2) rfl)) (by decide) (by decide)) q_46a q_46c (g := (mkF m 95 #[.val (.int ua), .val (.int ub), .val (.int uc), .val (.int fl), .val (.ref b_1), .val (.int (1 : Int32)), .val (.long (4 : Int64)), .second] [(.ref b_1)])) rfl (by rw [hml]; rfl) (Steps.refl _) (argsL := []) (rest := []) (lenOf pd__J rfl) rfl (by show 2 * 0 + _ ≤ _; exact Nat.le_of_eq rfl) (hb hby at_95) (fun _ _ => ⟨rfl, rfl, (by decide : 2 + 0 ≤ _), (by decide : 10 + 0 ≤ _)⟩)
        dsimp only [Pt.U, Pt.locs, Pt.cells, Pt.slots] at X_46 l_46 y_46 z_46 st_46 hQ_46
        subst l_46 y_46 z_46
        obtain ⟨rfl, N_46q, p_46_0⟩ := hQ_46
        have N_46 := Fr.app N_43 N_46q
        refine own_go (S' := T_46.setTop (mkF m 109 #[.val (.int ua), .val (.int ub), .val (.int uc), .val (.int fl), .val (.ref b_1), .val (.int (1 : Int32)), .val (.long (4 : Int64)), .second] [(.int (1 : Int32))])) (fun target kt => ?_) ?_
        · show Steps p.tables e below (T_43.setTop (mkF m 80 #[.val (.int ua), .val (.int ub), .val (.int uc), .val (.int fl), .val (.ref b_1), .val (.int (1 : Int32)), .val (.long (4 : Int64)), .second] [(.int (fl &&& (4 : Int32)))])) target
          refine XS.ifYes X_43.here hx rfl (pc0 := 80) (pc' := 88) rfl (hb hby at_80) rfl ((if0 _ _).trans (teq hc80).1) (by decide) (by decide) ?_
          show Steps p.tables e below (T_43.setTop (mkF m 88 #[.val (.int ua), .val (.int ub), .val (.int uc), .val (.int fl), .val (.ref b_1), .val (.int (1 : Int32)), .val (.long (4 : Int64)), .second] [])) target
          refine XS.iload X_43.here hx rfl (hb hby at_88) rfl ?_
          show Steps p.tables e below (T_43.setTop (mkF m 90 #[.val (.int ua), .val (.int ub), .val (.int uc), .val (.int fl), .val (.ref b_1), .val (.int (1 : Int32)), .val (.long (4 : Int64)), .second] [(.int (1 : Int32))])) target
          refine XS.ifNo X_43.here hx rfl (hb hby at_90) rfl ((if0 _ _).trans (feq (by decide : ¬ ((1 : Int32) = (0 : Int32)))).1) ?_
          show Steps p.tables e below (T_43.setTop (mkF m 93 #[.val (.int ua), .val (.int ub), .val (.int uc), .val (.int fl), .val (.ref b_1), .val (.int (1 : Int32)), .val (.long (4 : Int64)), .second] [])) target
          refine XS.aload X_43.here hx rfl (hb hby at_93) rfl rfl ?_
          show Steps p.tables e below (T_43.setTop (mkF m 95 #[.val (.int ua), .val (.int ub), .val (.int uc), .val (.int fl), .val (.ref b_1), .val (.int (1 : Int32)), .val (.long (4 : Int64)), .second] [(.ref b_1)])) target
          refine st_46.trans ?_
          show Steps p.tables e below (T_46.setTop (mkF m 98 #[.val (.int ua), .val (.int ub), .val (.int uc), .val (.int fl), .val (.ref b_1), .val (.int (1 : Int32)), .val (.long (4 : Int64)), .second] [(.long ((((((((0 : Int64) + own_hit ua (2 : Int32)) + own_hit ub (2 : Int32)) + own_hit uc (2 : Int32)) + ((((0 : Int64) + own_hit ua (3 : Int32)) + own_hit ub (3 : Int32)) + own_hit uc (3 : Int32))) + ((((0 : Int64) + own_hit ua (4 : Int32)) + own_hit ub (4 : Int32)) + own_hit uc (4 : Int32))) + ((((0 : Int64) + own_hit ua (5 : Int32)) + own_hit ub (5 : Int32)) + own_hit uc (5 : Int32))) + (((((0 : Int64) + own_hit ua (-1 : Int32)) + own_hit ub (-1 : Int32)) + own_hit uc (-1 : Int32)) + (1 : Int64))))])) target
          refine XS.lload X_46.here hx rfl (hb hby at_98) rfl ?_
          show Steps p.tables e below (T_46.setTop (mkF m 100 #[.val (.int ua), .val (.int ub), .val (.int uc), .val (.int fl), .val (.ref b_1), .val (.int (1 : Int32)), .val (.long (4 : Int64)), .second] [(.long (4 : Int64)), (.long ((((((((0 : Int64) + own_hit ua (2 : Int32)) + own_hit ub (2 : Int32)) + own_hit uc (2 : Int32)) + ((((0 : Int64) + own_hit ua (3 : Int32)) + own_hit ub (3 : Int32)) + own_hit uc (3 : Int32))) + ((((0 : Int64) + own_hit ua (4 : Int32)) + own_hit ub (4 : Int32)) + own_hit uc (4 : Int32))) + ((((0 : Int64) + own_hit ua (5 : Int32)) + own_hit ub (5 : Int32)) + own_hit uc (5 : Int32))) + (((((0 : Int64) + own_hit ua (-1 : Int32)) + own_hit ub (-1 : Int32)) + own_hit uc (-1 : Int32)) + (1 : Int64))))])) target
          refine XS.lcmp X_46.here hx rfl (hb hby at_100) rfl ?_
          show Steps p.tables e below (T_46.setTop (mkF m 101 #[.val (.int ua), .val (.int ub), .val (.int uc), .val (.int fl), .val (.ref b_1), .val (.int (1 : Int32)), .val (.long (4 : Int64)), .second] [(.int (lcmpW ((((((((0 : Int64) + own_hit ua (2 : Int32)) + own_hit ub (2 : Int32)) + own_hit uc (2 : Int32)) + ((((0 : Int64) + own_hit ua (3 : Int32)) + own_hit ub (3 : Int32)) + own_hit uc (3 : Int32))) + ((((0 : Int64) + own_hit ua (4 : Int32)) + own_hit ub (4 : Int32)) + own_hit uc (4 : Int32))) + ((((0 : Int64) + own_hit ua (5 : Int32)) + own_hit ub (5 : Int32)) + own_hit uc (5 : Int32))) + (((((0 : Int64) + own_hit ua (-1 : Int32)) + own_hit ub (-1 : Int32)) + own_hit uc (-1 : Int32)) + (1 : Int64))) (4 : Int64)))])) target
          refine XS.ifNo X_46.here hx rfl (hb hby at_101) rfl ((if0 _ _).trans (teq (own_l1 (own_pages1 _ _ _ : ((((((((0 : Int64) + own_hit ua (2 : Int32)) + own_hit ub (2 : Int32)) + own_hit uc (2 : Int32)) + ((((0 : Int64) + own_hit ua (3 : Int32)) + own_hit ub (3 : Int32)) + own_hit uc (3 : Int32))) + ((((0 : Int64) + own_hit ua (4 : Int32)) + own_hit ub (4 : Int32)) + own_hit uc (4 : Int32))) + ((((0 : Int64) + own_hit ua (5 : Int32)) + own_hit ub (5 : Int32)) + own_hit uc (5 : Int32))) + (((((0 : Int64) + own_hit ua (-1 : Int32)) + own_hit ub (-1 : Int32)) + own_hit uc (-1 : Int32)) + (1 : Int64))) = (4 : Int64)))).2) ?_
          show Steps p.tables e below (T_46.setTop (mkF m 104 #[.val (.int ua), .val (.int ub), .val (.int uc), .val (.int fl), .val (.ref b_1), .val (.int (1 : Int32)), .val (.long (4 : Int64)), .second] [])) target
          refine XS.iconst X_46.here hx rfl (hb hby at_104) ?_
          show Steps p.tables e below (T_46.setTop (mkF m 105 #[.val (.int ua), .val (.int ub), .val (.int uc), .val (.int fl), .val (.ref b_1), .val (.int (1 : Int32)), .val (.long (4 : Int64)), .second] [(.int (1 : Int32))])) target
          refine XS.goto X_46.here hx rfl (pc0 := 105) (pc' := 109) rfl (hb hby at_105) (by decide) (by decide) ?_
          show Steps p.tables e below (T_46.setTop (mkF m 109 #[.val (.int ua), .val (.int ub), .val (.int uc), .val (.int fl), .val (.ref b_1), .val (.int (1 : Int32)), .val (.long (4 : Int64)), .second] [(.int (1 : Int32))])) target
          exact kt
        obtain ⟨fs, hr, hrun, hended, hW, hsame⟩ := X_46.leave (v := some (.int (1 : Int32))) (fun h => by rw [Bd.returns] at h; cases h)
        refine ⟨_, _, retN X_46 hx (t := .boolean) Bd.returns (by simp) (hb hby at_109) hr, hrun, hended, _, _, rfl, ?_, ⟨_, rfl⟩, hW, hsame.mono (by decide) (by decide)⟩
        show Q_law Z ua ub uc fl h0 n0 _ T_46.heap _
        rw [p_46_0]
        exact ⟨rfl, N_46⟩
      · -- pc 80: no
        obtain ⟨cq_48, kq_48, q_48a, q_48b, q_48c⟩ := isOf hZ rfl p_43_1
        obtain ⟨_, _, ⟨T_48, L_48, k_48, n_48⟩, -, X_48, ⟨Lc_48, hQ_48, l_48, y_48, z_48⟩, st_48⟩ := X_43.virtualBack hx (y := (⟨"com/example/honeybee/honeybee/crawl/CrawlCounts", "countDisallowed", "()V"⟩ : MethodName)) (z := (⟨"com/example/honeybee/honeybee/crawl/CrawlCounts", "countDisallowed", "()V"⟩ : MethodName)) hown (mvT hZ (hw _ (List.mem_of_getElem? (i := 37) rfl))) (mvT hZ (hw _ (List.mem_of_getElem? (i := 38) rfl))) (notFace_of_selects (args := #[]) (mvT hZ (hw _ (List.mem_of_getElem? (i := 40) rfl)))) (mvT hZ (hw _ (List.mem_of_getElem? (i := 40) rfl))) (mvT hZ (hw _ (List.mem_of_getElem? (i := 39) rfl))) (by decide) (backOf (W := 0) (rm_cx l Z a0 hw [] b_1 (((((0 : Int64) + own_hit ua (-1 : Int32)) + own_hit ub (-1 : Int32)) + own_hit uc (-1 : Int32)) + (1 : Int64)) ((0 : Int64) + (1 : Int64)) (0 : Int64) bx_4 T_43.heap n0 Z_44 p_43_1 p_43_2 p_43_3 p_43_4 p_43_5 gn_b_1) hZ (hw _ (List.mem_of_getElem? (i := 41) rfl)) (hw _ (List.mem_of_getElem? (i := 2) rfl)) (by decide) (by decide)) q_48a q_48c (g := (mkF m 85 #[.val (.int ua), .val (.int ub), .val (.int uc), .val (.int fl), .val (.ref b_1), .val (.int (1 : Int32)), .val (.long (4 : Int64)), .second] [(.ref b_1)])) rfl (by rw [hml]; rfl) (Steps.refl _) (argsL := []) (rest := []) (lenOf pd__V rfl) rfl (by show 2 * 0 + _ ≤ _; exact Nat.le_of_eq rfl) (hb hby at_85) (fun _ _ => ⟨rfl, rfl, (by decide : 2 + 0 ≤ _), (by decide : 10 + 0 ≤ _)⟩)
        dsimp only [Pt.U, Pt.locs, Pt.cells, Pt.slots] at X_48 l_48 y_48 z_48 st_48 hQ_48
        subst l_48 y_48 z_48
        obtain ⟨rfl, N_48q, p_48_0, p_48_1, p_48_2, p_48_3, p_48_4, p_48_5⟩ := hQ_48
        have N_48 := Fr.app N_43 N_48q
        have Z_49 : n0 ≤ T_48.heap.size := Nat.le_trans Z_44 p_48_0.1
        have f_52 := (((p_14_6.keep p_33_0 (by simp only [List.mem_cons, List.not_mem_nil, or_false, not_or]; exact (Ne.symm p_4_7))).keep p_43_0 (by simp only [List.mem_cons, List.not_mem_nil, or_false, not_or]; exact (Ne.symm p_4_7))).keep p_48_0 (by simp only [List.mem_cons, List.not_mem_nil, or_false, not_or]; exact (Ne.symm p_4_7)))
        obtain ⟨cq_51, kq_51, q_51a, q_51b, q_51c⟩ := isOf hZ rfl p_48_1
        obtain ⟨_, _, ⟨T_51, L_51, k_51, n_51⟩, -, X_51, ⟨Lc_51, hQ_51, l_51, y_51, z_51⟩, st_51⟩ := X_48.virtualBack hx (y := (⟨"com/example/honeybee/honeybee/crawl/CrawlCounts", "pages", "()J"⟩ : MethodName)) (z := (⟨"com/example/honeybee/honeybee/crawl/CrawlCounts", "pages", "()J"⟩ : MethodName)) hown (mvT hZ (hw _ (List.mem_of_getElem? (i := 12) rfl))) (mvT hZ (hw _ (List.mem_of_getElem? (i := 13) rfl))) (notFace_of_selects (args := #[]) (mvT hZ (hw _ (List.mem_of_getElem? (i := 15) rfl)))) (mvT hZ (hw _ (List.mem_of_getElem? (i := 15) rfl))) (mvT hZ (hw _ (List.mem_of_getElem? (i := 14) rfl))) (by decide) (backOf (W := 0) (rm_pages l Z a0 hw [] b_1 bx_4 kx_4 (0 : Int64) (0 : Int64) ((((0 : Int64) + own_hit ua (2 : Int32)) + own_hit ub (2 : Int32)) + own_hit uc (2 : Int32)) ((((0 : Int64) + own_hit ua (3 : Int32)) + own_hit ub (3 : Int32)) + own_hit uc (3 : Int32)) ((((0 : Int64) + own_hit ua (4 : Int32)) + own_hit ub (4 : Int32)) + own_hit uc (4 : Int32)) ((((0 : Int64) + own_hit ua (5 : Int32)) + own_hit ub (5 : Int32)) + own_hit uc (5 : Int32)) (((((0 : Int64) + own_hit ua (-1 : Int32)) + own_hit ub (-1 : Int32)) + own_hit uc (-1 : Int32)) + (1 : Int64)) T_48.heap n0 Z_49 p_48_1 p_48_5 p_48_2 f_52) hZ (hw _ (List.mem_of_getElem? (i := 16) rfl)) (hw _ (List.mem_of_getElem? (i := 2) rfl)) (by decide) (by decide)) q_51a q_51c (g := (mkF m 95 #[.val (.int ua), .val (.int ub), .val (.int uc), .val (.int fl), .val (.ref b_1), .val (.int (1 : Int32)), .val (.long (4 : Int64)), .second] [(.ref b_1)])) rfl (by rw [hml]; rfl) (Steps.refl _) (argsL := []) (rest := []) (lenOf pd__J rfl) rfl (by show 2 * 0 + _ ≤ _; exact Nat.le_of_eq rfl) (hb hby at_95) (fun _ _ => ⟨rfl, rfl, (by decide : 2 + 0 ≤ _), (by decide : 10 + 0 ≤ _)⟩)
        dsimp only [Pt.U, Pt.locs, Pt.cells, Pt.slots] at X_51 l_51 y_51 z_51 st_51 hQ_51
        subst l_51 y_51 z_51
        obtain ⟨rfl, N_51q, p_51_0⟩ := hQ_51
        have N_51 := Fr.app N_48 N_51q
        refine own_go (S' := T_51.setTop (mkF m 109 #[.val (.int ua), .val (.int ub), .val (.int uc), .val (.int fl), .val (.ref b_1), .val (.int (1 : Int32)), .val (.long (4 : Int64)), .second] [(.int (1 : Int32))])) (fun target kt => ?_) ?_
        · show Steps p.tables e below (T_43.setTop (mkF m 80 #[.val (.int ua), .val (.int ub), .val (.int uc), .val (.int fl), .val (.ref b_1), .val (.int (1 : Int32)), .val (.long (4 : Int64)), .second] [(.int (fl &&& (4 : Int32)))])) target
          refine XS.ifNo X_43.here hx rfl (hb hby at_80) rfl ((if0 _ _).trans (feq hc80).1) ?_
          show Steps p.tables e below (T_43.setTop (mkF m 83 #[.val (.int ua), .val (.int ub), .val (.int uc), .val (.int fl), .val (.ref b_1), .val (.int (1 : Int32)), .val (.long (4 : Int64)), .second] [])) target
          refine XS.aload X_43.here hx rfl (hb hby at_83) rfl rfl ?_
          show Steps p.tables e below (T_43.setTop (mkF m 85 #[.val (.int ua), .val (.int ub), .val (.int uc), .val (.int fl), .val (.ref b_1), .val (.int (1 : Int32)), .val (.long (4 : Int64)), .second] [(.ref b_1)])) target
          refine st_48.trans ?_
          show Steps p.tables e below (T_48.setTop (mkF m 88 #[.val (.int ua), .val (.int ub), .val (.int uc), .val (.int fl), .val (.ref b_1), .val (.int (1 : Int32)), .val (.long (4 : Int64)), .second] [])) target
          refine XS.iload X_48.here hx rfl (hb hby at_88) rfl ?_
          show Steps p.tables e below (T_48.setTop (mkF m 90 #[.val (.int ua), .val (.int ub), .val (.int uc), .val (.int fl), .val (.ref b_1), .val (.int (1 : Int32)), .val (.long (4 : Int64)), .second] [(.int (1 : Int32))])) target
          refine XS.ifNo X_48.here hx rfl (hb hby at_90) rfl ((if0 _ _).trans (feq (by decide : ¬ ((1 : Int32) = (0 : Int32)))).1) ?_
          show Steps p.tables e below (T_48.setTop (mkF m 93 #[.val (.int ua), .val (.int ub), .val (.int uc), .val (.int fl), .val (.ref b_1), .val (.int (1 : Int32)), .val (.long (4 : Int64)), .second] [])) target
          refine XS.aload X_48.here hx rfl (hb hby at_93) rfl rfl ?_
          show Steps p.tables e below (T_48.setTop (mkF m 95 #[.val (.int ua), .val (.int ub), .val (.int uc), .val (.int fl), .val (.ref b_1), .val (.int (1 : Int32)), .val (.long (4 : Int64)), .second] [(.ref b_1)])) target
          refine st_51.trans ?_
          show Steps p.tables e below (T_51.setTop (mkF m 98 #[.val (.int ua), .val (.int ub), .val (.int uc), .val (.int fl), .val (.ref b_1), .val (.int (1 : Int32)), .val (.long (4 : Int64)), .second] [(.long ((((((((0 : Int64) + own_hit ua (2 : Int32)) + own_hit ub (2 : Int32)) + own_hit uc (2 : Int32)) + ((((0 : Int64) + own_hit ua (3 : Int32)) + own_hit ub (3 : Int32)) + own_hit uc (3 : Int32))) + ((((0 : Int64) + own_hit ua (4 : Int32)) + own_hit ub (4 : Int32)) + own_hit uc (4 : Int32))) + ((((0 : Int64) + own_hit ua (5 : Int32)) + own_hit ub (5 : Int32)) + own_hit uc (5 : Int32))) + (((((0 : Int64) + own_hit ua (-1 : Int32)) + own_hit ub (-1 : Int32)) + own_hit uc (-1 : Int32)) + (1 : Int64))))])) target
          refine XS.lload X_51.here hx rfl (hb hby at_98) rfl ?_
          show Steps p.tables e below (T_51.setTop (mkF m 100 #[.val (.int ua), .val (.int ub), .val (.int uc), .val (.int fl), .val (.ref b_1), .val (.int (1 : Int32)), .val (.long (4 : Int64)), .second] [(.long (4 : Int64)), (.long ((((((((0 : Int64) + own_hit ua (2 : Int32)) + own_hit ub (2 : Int32)) + own_hit uc (2 : Int32)) + ((((0 : Int64) + own_hit ua (3 : Int32)) + own_hit ub (3 : Int32)) + own_hit uc (3 : Int32))) + ((((0 : Int64) + own_hit ua (4 : Int32)) + own_hit ub (4 : Int32)) + own_hit uc (4 : Int32))) + ((((0 : Int64) + own_hit ua (5 : Int32)) + own_hit ub (5 : Int32)) + own_hit uc (5 : Int32))) + (((((0 : Int64) + own_hit ua (-1 : Int32)) + own_hit ub (-1 : Int32)) + own_hit uc (-1 : Int32)) + (1 : Int64))))])) target
          refine XS.lcmp X_51.here hx rfl (hb hby at_100) rfl ?_
          show Steps p.tables e below (T_51.setTop (mkF m 101 #[.val (.int ua), .val (.int ub), .val (.int uc), .val (.int fl), .val (.ref b_1), .val (.int (1 : Int32)), .val (.long (4 : Int64)), .second] [(.int (lcmpW ((((((((0 : Int64) + own_hit ua (2 : Int32)) + own_hit ub (2 : Int32)) + own_hit uc (2 : Int32)) + ((((0 : Int64) + own_hit ua (3 : Int32)) + own_hit ub (3 : Int32)) + own_hit uc (3 : Int32))) + ((((0 : Int64) + own_hit ua (4 : Int32)) + own_hit ub (4 : Int32)) + own_hit uc (4 : Int32))) + ((((0 : Int64) + own_hit ua (5 : Int32)) + own_hit ub (5 : Int32)) + own_hit uc (5 : Int32))) + (((((0 : Int64) + own_hit ua (-1 : Int32)) + own_hit ub (-1 : Int32)) + own_hit uc (-1 : Int32)) + (1 : Int64))) (4 : Int64)))])) target
          refine XS.ifNo X_51.here hx rfl (hb hby at_101) rfl ((if0 _ _).trans (teq (own_l1 (own_pages1 _ _ _ : ((((((((0 : Int64) + own_hit ua (2 : Int32)) + own_hit ub (2 : Int32)) + own_hit uc (2 : Int32)) + ((((0 : Int64) + own_hit ua (3 : Int32)) + own_hit ub (3 : Int32)) + own_hit uc (3 : Int32))) + ((((0 : Int64) + own_hit ua (4 : Int32)) + own_hit ub (4 : Int32)) + own_hit uc (4 : Int32))) + ((((0 : Int64) + own_hit ua (5 : Int32)) + own_hit ub (5 : Int32)) + own_hit uc (5 : Int32))) + (((((0 : Int64) + own_hit ua (-1 : Int32)) + own_hit ub (-1 : Int32)) + own_hit uc (-1 : Int32)) + (1 : Int64))) = (4 : Int64)))).2) ?_
          show Steps p.tables e below (T_51.setTop (mkF m 104 #[.val (.int ua), .val (.int ub), .val (.int uc), .val (.int fl), .val (.ref b_1), .val (.int (1 : Int32)), .val (.long (4 : Int64)), .second] [])) target
          refine XS.iconst X_51.here hx rfl (hb hby at_104) ?_
          show Steps p.tables e below (T_51.setTop (mkF m 105 #[.val (.int ua), .val (.int ub), .val (.int uc), .val (.int fl), .val (.ref b_1), .val (.int (1 : Int32)), .val (.long (4 : Int64)), .second] [(.int (1 : Int32))])) target
          refine XS.goto X_51.here hx rfl (pc0 := 105) (pc' := 109) rfl (hb hby at_105) (by decide) (by decide) ?_
          show Steps p.tables e below (T_51.setTop (mkF m 109 #[.val (.int ua), .val (.int ub), .val (.int uc), .val (.int fl), .val (.ref b_1), .val (.int (1 : Int32)), .val (.long (4 : Int64)), .second] [(.int (1 : Int32))])) target
          exact kt
        obtain ⟨fs, hr, hrun, hended, hW, hsame⟩ := X_51.leave (v := some (.int (1 : Int32))) (fun h => by rw [Bd.returns] at h; cases h)
        refine ⟨_, _, retN X_51 hx (t := .boolean) Bd.returns (by simp) (hb hby at_109) hr, hrun, hended, _, _, rfl, ?_, ⟨_, rfl⟩, hW, hsame.mono (by decide) (by decide)⟩
        show Q_law Z ua ub uc fl h0 n0 _ T_51.heap _
        rw [p_51_0]
        exact ⟨rfl, N_51⟩
set_option maxRecDepth 65536 in
set_option maxHeartbeats 40000000 in
theorem comes_1 {Post : Tables → Env → Array Value → State → Outcome → State → Prop} (hpost : ∀ tb e args s v u, (limb_1_1.after args s (.returned v) u = true ∧ limb_1_2.after args s (.returned v) u = true ∧ True) → FrameEnd s (.returned v) u (Jvm.fieldLocs frame_1_writes args s ++ Jvm.arrayLocs frame_1_arrays args s ++ Jvm.staticLocs frame_1_statics s) 16 128 → Post tb e args s (.returned v) u) :
    ArmFor flags0 classFile x code maxLocals ret World_1 tables_1 room_1 Calls_1 rest_1 Pre_1 Post := by
  intro l hfl _ _ p e ha hc hk s m args below hf hA hF happ hP
  obtain ⟨hcalls, hrest, hpre⟩ := hP
  obtain ⟨-, -, -, hnamed, -, -, -, hat⟩ := (Spec.applies_iff hf).mp happ
  obtain ⟨hg, hn⟩ := and_e (Cond.before_iff.mp (show (Jvm.Cond.and given_1 narrow_1).before args s = true from hpre))
  obtain ⟨gc0, gd0⟩ := and_e hg
  obtain ⟨gc1, gd1⟩ := and_e gd0
  obtain ⟨gc2, gd2⟩ := and_e gd1
  obtain ⟨gc3, gd3⟩ := and_e gd2
  obtain ⟨w0, w1, w2, w3, rfl⟩ : ∃ w0 w1 w2 w3 : Value, args = #[w0, w1, w2, w3] := by
    have hs : args.size = 4 := by simpa [Cond.value, given_1] using gc0
    obtain ⟨L⟩ := args
    match L, hs with
    | [w0, w1, w2, w3], _ => exact ⟨w0, w1, w2, w3, rfl⟩
  have hw := fun d (hd : d ∈ tables_1) => atoms_spec (ws := Jvm.Cond.code x code maxLocals ret :: tables_1) hat d (List.mem_cons_of_mem _ hd)
  obtain ⟨i0, ei0⟩ := is_v gc1
  obtain rfl : w0 = (.int i0) := Option.some.inj ei0
  obtain ⟨i1, ei1⟩ := is_v gc2
  obtain rfl : w1 = (.int i1) := Option.some.inj ei1
  obtain ⟨i2, ei2⟩ := is_v gc3
  obtain rfl : w2 = (.int i2) := Option.some.inj ei2
  obtain ⟨i3, ei3⟩ := is_v gd3
  obtain rfl : w3 = (.int i3) := Option.some.inj ei3
  obtain ⟨n, o, h1, h2, h3, _, L, rfl, ⟨rfl, N⟩, hq⟩ := rm_law l s _ hw tables_1 i0 i1 i2 i3 s.heap s.heap.size (Nat.le_refl _) p e ha hc hk s m _ below hf ((Spec.applies_iff_loose hf).mp happ).1 ⟨rfl, State.Warmed39.refl s, rfl⟩ trivial
  refine ⟨n, _, h1, h2, h3, hpost _ _ _ _ _ _ ⟨Cond.after_iff.mpr rfl, Cond.after_iff.mpr (eq_i res_at (Term.int_eval (1)) rfl), trivial⟩ ⟨hq.1, hq.2.1, (hq.2.2.sift fun y hy => Or.inr (N y hy)).mono (by decide) (by decide)⟩⟩
theorem main_1_1 : Claimed_1_1 := comes_1 fun _ _ _ _ _ _ h hF => ⟨h.1, hF⟩
theorem main_1_2 : Claimed_1_2 := comes_1 fun _ _ _ _ _ _ h hF => ⟨h.2.1, hF⟩
end Jvm.Pilot.@@N@@
namespace Jvm.Pilot.@@N@@
open Jvm Jvm.ClassFile Sem Op Lib Jvm.Free Jvm.Stand Jvm.Pilot.@@N@@.Jvm.D
/-! MADE BY PROGRAM (witnessworld.py) out of the Statement's table words and the real class files: 11 classes; the members and pool entries that the words name. The judged class is class 1, her method 1. -/
namespace start1
open Jvm.ClassFile
def u (s : String) : CpInfo := .utf8 (stringToUtf16 s)
/-- a pool by its gaps: so many unusable entries, then the entry; so many at the end -/
def gap : Nat → List CpInfo → List CpInfo
  | 0, r => r
  | n + 1, r => .unusable :: gap n r
def poolList (es : List (Nat × CpInfo)) (last : Nat) : List CpInfo := es.foldr (fun e r => gap e.1 (e.2 :: r)) (gap last [])
def pool (es : List (Nat × CpInfo)) (last : Nat) : Array CpInfo := ⟨poolList es last⟩
def fileOf (pool : Array CpInfo) (this : Nat) (attrs : Array Attribute := #[]) (ms : Array MethodInfo := #[]) (fl : Nat := 33) (sup : Nat := 0) (ifs : Array Nat := #[]) (fds : Array FieldInfo := #[]) : ClassFile where
  minorVersion := 0
  majorVersion := 65
  constantPool := pool
  accessFlags := fl
  thisClass := this
  superClass := sup
  interfaces := ifs
  fields := fds
  methods := ms
  attributes := attrs
def plain (name : String) (sup : Option ClassId) : Class where
  name := name
  kind := .ordinary
  loader := none
  accessFlags := 33
  super := sup
  interfaces := #[]
  cf := none
  fields := #[]
  methods := #[]
  instanceTypes := #[]
  staticTypes := #[]
  resolved := #[]
  callSites := []
  init := .initialized
  statics := none
  mirror := none

def pool0 : Array CpInfo := pool [(5, u "<init>"), (0, u "()V"), (1, .class_ 10), (1, u "java/lang/Object")] 113

def k0c0 : Code := { maxStack := 0, maxLocals := 1, code := object_method_1_code, exceptionTable := #[], attributes := #[] }
def k0m0 : Method := { name := "<init>", desc := "()V", sig := { parameters := [], returnType := none }, accessFlags := 1, code := some k0c0 }
/-- java/lang/Object -/
def k0 : Class := { plain "java/lang/Object" none with
  accessFlags := 33
  interfaces := #[]
  cf := some (fileOf pool0 8 #[] #[{ accessFlags := 1, nameIndex := 5, descriptorIndex := 6, attributes := #[] }] 33 0 #[] #[])
  fields := #[]
  methods := #[k0m0]
  instanceTypes := #[]
  staticTypes := #[]
  resolved := Array.replicate 124 none
  statics := none }

def pool1 : Array CpInfo := pool [(2, .class_ 4), (0, .nameAndType 5 6), (0, u "java/lang/Object"), (0, u "<init>"), (0, u "()V"), (0, .class_ 8), (0, u "com/example/honeybee/honeybee/crawl/CrawlCounts"), (0, .methodref 7 3), (0, .methodref 7 11), (0, .nameAndType 12 13), (0, u "pages"), (0, u "()J"), (0, .methodref 7 15), (0, .nameAndType 16 17), (0, u "countAnswer"), (0, u "(I)V"), (0, .long 3), (1, .methodref 7 21), (0, .nameAndType 22 6), (0, u "countFailure"), (0, .methodref 7 24), (0, .nameAndType 25 6), (0, u "countDuplicate"), (0, .methodref 7 27), (0, .nameAndType 28 6), (0, u "countDisallowed"), (0, .class_ 30), (0, u "com/example/honeybee/honeybee/crawl/CrawlCountsPagesPinLaw"), (2, u "law"), (0, u "(IIII)Z")] 3

def k1m0 : Method := { name := "<init>", desc := "()V", sig := { parameters := [], returnType := none }, accessFlags := 1, code := none }
def k1c1 : Code := { maxStack := 4, maxLocals := 8, code := code, exceptionTable := #[], attributes := #[] }
def k1m1 : Method := { name := "law", desc := "(IIII)Z", sig := { parameters := [.int, .int, .int, .int], returnType := some .boolean }, accessFlags := 9, code := some k1c1 }
/-- com/example/honeybee/honeybee/crawl/CrawlCountsPagesPinLaw -/
def k1 : Class := { plain "com/example/honeybee/honeybee/crawl/CrawlCountsPagesPinLaw" (some 0) with
  accessFlags := 49
  interfaces := #[]
  cf := some (fileOf pool1 29 #[] #[{ accessFlags := 1, nameIndex := 5, descriptorIndex := 6, attributes := #[] }, { accessFlags := 9, nameIndex := 33, descriptorIndex := 34, attributes := #[] }] 49 2 #[] #[])
  fields := #[]
  methods := #[k1m0, k1m1]
  instanceTypes := #[]
  staticTypes := #[]
  resolved := Array.replicate 38 none
  statics := none }

def pool2 : Array CpInfo := pool [(1, .methodref 2 3), (0, .class_ 4), (0, .nameAndType 5 6), (0, u "java/lang/Object"), (0, u "<init>"), (0, u "()V"), (0, .fieldref 8 9), (0, .class_ 10), (0, .nameAndType 11 12), (0, u "com/example/honeybee/honeybee/crawl/CrawlCounts"), (0, u "byClass"), (0, u "[J"), (0, .fieldref 8 14), (0, .nameAndType 15 16), (0, u "failed"), (0, u "J"), (0, .fieldref 8 18), (0, .nameAndType 19 16), (0, u "duplicates"), (0, .fieldref 8 21), (0, .nameAndType 22 16), (0, u "disallowed"), (2, u "countAnswer"), (0, u "(I)V"), (1, u "countFailure"), (0, u "countDuplicate"), (0, u "countDisallowed"), (0, u "pages"), (0, u "()J")] 4

def k2c0 : Code := { maxStack := 2, maxLocals := 1, code := prog_1_method_1_code, exceptionTable := #[], attributes := #[] }
def k2m0 : Method := { name := "<init>", desc := "()V", sig := { parameters := [], returnType := none }, accessFlags := 1, code := some k2c0 }
def k2c1 : Code := { maxStack := 6, maxLocals := 2, code := prog_1_method_2_code, exceptionTable := #[], attributes := #[] }
def k2m1 : Method := { name := "countAnswer", desc := "(I)V", sig := { parameters := [.int], returnType := none }, accessFlags := 0, code := some k2c1 }
def k2c2 : Code := { maxStack := 5, maxLocals := 1, code := prog_1_method_3_code, exceptionTable := #[], attributes := #[] }
def k2m2 : Method := { name := "countFailure", desc := "()V", sig := { parameters := [], returnType := none }, accessFlags := 0, code := some k2c2 }
def k2c3 : Code := { maxStack := 5, maxLocals := 1, code := prog_1_method_4_code, exceptionTable := #[], attributes := #[] }
def k2m3 : Method := { name := "countDuplicate", desc := "()V", sig := { parameters := [], returnType := none }, accessFlags := 0, code := some k2c3 }
def k2c4 : Code := { maxStack := 5, maxLocals := 1, code := prog_1_method_5_code, exceptionTable := #[], attributes := #[] }
def k2m4 : Method := { name := "countDisallowed", desc := "()V", sig := { parameters := [], returnType := none }, accessFlags := 0, code := some k2c4 }
def k2c5 : Code := { maxStack := 4, maxLocals := 1, code := prog_1_method_6_code, exceptionTable := #[], attributes := #[] }
def k2m5 : Method := { name := "pages", desc := "()J", sig := { parameters := [], returnType := some .long }, accessFlags := 1, code := some k2c5 }
/-- com/example/honeybee/honeybee/crawl/CrawlCounts -/
def k2 : Class := { plain "com/example/honeybee/honeybee/crawl/CrawlCounts" (some 0) with
  accessFlags := 49
  interfaces := #[]
  cf := some (fileOf pool2 8 #[] #[{ accessFlags := 1, nameIndex := 5, descriptorIndex := 6, attributes := #[] }, { accessFlags := 0, nameIndex := 25, descriptorIndex := 26, attributes := #[] }, { accessFlags := 0, nameIndex := 28, descriptorIndex := 6, attributes := #[] }, { accessFlags := 0, nameIndex := 29, descriptorIndex := 6, attributes := #[] }, { accessFlags := 0, nameIndex := 30, descriptorIndex := 6, attributes := #[] }, { accessFlags := 1, nameIndex := 31, descriptorIndex := 32, attributes := #[] }] 49 2 #[] #[{ accessFlags := 18, nameIndex := 11, descriptorIndex := 12, attributes := #[] }, { accessFlags := 2, nameIndex := 15, descriptorIndex := 16, attributes := #[] }, { accessFlags := 2, nameIndex := 19, descriptorIndex := 16, attributes := #[] }, { accessFlags := 2, nameIndex := 22, descriptorIndex := 16, attributes := #[] }])
  fields := #[{ name := "byClass", type := (.array .long), accessFlags := 18, slot := 0, constantValue := 0 }, { name := "failed", type := .long, accessFlags := 2, slot := 1, constantValue := 0 }, { name := "duplicates", type := .long, accessFlags := 2, slot := 2, constantValue := 0 }, { name := "disallowed", type := .long, accessFlags := 2, slot := 3, constantValue := 0 }]
  methods := #[k2m0, k2m1, k2m2, k2m3, k2m4, k2m5]
  instanceTypes := #[(.array .long), .long, .long, .long]
  staticTypes := #[]
  resolved := Array.replicate 37 none
  statics := none }

def pool3 : Array CpInfo := pool [(1, u "java/lang/Cloneable"), (0, .class_ 1), (0, u "java/lang/Object"), (0, .class_ 3)] 3

/-- java/lang/Cloneable -/
def k3 : Class := { plain "java/lang/Cloneable" (some 0) with
  accessFlags := 1537
  interfaces := #[]
  cf := some (fileOf pool3 2 #[] #[] 1537 4 #[] #[])
  fields := #[]
  methods := #[]
  instanceTypes := #[]
  staticTypes := #[]
  resolved := Array.replicate 8 none
  statics := none }

def pool4 : Array CpInfo := pool [(1, u "java/io/Serializable"), (0, .class_ 1), (0, u "java/lang/Object"), (0, .class_ 3)] 3

/-- java/io/Serializable -/
def k4 : Class := { plain "java/io/Serializable" (some 0) with
  accessFlags := 1537
  interfaces := #[]
  cf := some (fileOf pool4 2 #[] #[] 1537 4 #[] #[])
  fields := #[]
  methods := #[]
  instanceTypes := #[]
  staticTypes := #[]
  resolved := Array.replicate 8 none
  statics := none }

/-- the primitive byte -/
def k5 : Class := { plain "byte" none with kind := .primitive 'B', accessFlags := 0x411 }
/-- [B -/
def k6 : Class := { plain "[B" (some 0) with kind := .array 5 .byte, interfaces := #[3, 4], accessFlags := 1041 }

/-- the primitive int -/
def k7 : Class := { plain "int" none with kind := .primitive 'I', accessFlags := 0x411 }
/-- [I -/
def k8 : Class := { plain "[I" (some 0) with kind := .array 7 .int, interfaces := #[3, 4], accessFlags := 1041 }

/-- the primitive long -/
def k9 : Class := { plain "long" none with kind := .primitive 'J', accessFlags := 0x411 }
/-- [J -/
def k10 : Class := { plain "[J" (some 0) with kind := .array 9 .long, interfaces := #[3, 4], accessFlags := 1041 }

def heap : Heap := #[]
def classes : Array Class := #[k0, k1, k2, k3, k4, k5, k6, k7, k8, k9, k10]
def interned : List (Array UInt16 × Addr) := []
def slotsUsed : Nat := 0
def theMethod : MethodId := ⟨1, 1⟩
def args0 : Array Value := #[.int 5, .int 205, .int 2, .int 3]
def aboutOver (below : List Frame) : State where
  vm := { classes := classes, interned := interned.toArray }
  heap := heap
  slotsUsed := slotsUsed
  threads := #[{ frames := .invoking theMethod args0 :: below }]
def below0 : List Frame := [.native { method := ⟨0, 0⟩, args := #[] }]
def about1 : State := aboutOver below0
def p0 : Program := .bare "" "" ""
def e0 : Env := launch0.env 0 0 0
theorem w_frames : about1.frames = Frame.invoking theMethod args0 :: below0 := rfl
set_option maxRecDepth 65536 in
theorem w_args : argsFit about1.vm theMethod args0 = true := by decide +kernel
set_option maxRecDepth 65536 in
theorem w_heap : heapFits about1 = true := by decide +kernel
set_option maxRecDepth 65536 in
theorem w_runnable : about1.curStatus? = some .runnable := by decide +kernel
set_option maxRecDepth 65536 in
theorem w_alone : about1.alone = true := by decide +kernel
set_option maxRecDepth 65536 in
theorem w_named : about1.methodNamed? x = some theMethod := by decide +kernel
set_option maxRecDepth 65536 in
theorem w_hears : about1.hears theMethod below0 = true := by decide +kernel
set_option maxRecDepth 65536 in
theorem w_ripe : about1.ripe theMethod args0 below0 = true := by decide +kernel
theorem w_running : about1.status = .running := rfl
set_option maxRecDepth 65536 in
theorem w_room : about1.hasRoom e0.platform room_1 = true :=
  launch0.hasRoom_least _ room_1 (by decide +kernel) (by decide +kernel) (by decide +kernel) (by decide +kernel) (by decide +kernel) (by decide +kernel)
theorem allAtoms_all (ts : List Jvm.Cond) (a : Array Jvm.Value) (st : Jvm.State) : (allAtoms ts).before a st = ts.all (fun c => c.before a st) := by
  induction ts with
  | nil => rfl
  | cons c t ih =>
    show (Jvm.Cond.and c (allAtoms t)).before a st = _
    rw [Jvm.Cond.before_and, ih, List.all_cons]
def words1 : List Jvm.Cond := Jvm.Cond.code x code maxLocals ret :: tables_1
/-- a 'code' word, met by the world's own term for the bytes: nothing is compared byte by byte -/
theorem code_word {y : MethodName} {bytes : ByteArray} {mx : Nat} {rt : Option FieldType} {a : Array Value} {s : State} {m : MethodId} {meth : Method} {c : Code} (h1 : s.methodNamed? y = some m) (h2 : s.vm.method? m = some meth) (h3 : meth.code = some c) (h4 : c.code = bytes)
    (h5 : (c.maxLocals == mx && c.exceptionTable.isEmpty && decide (c.maxStack ≤ mostOperands) && decide (meth.sig.returnType = rt) && !meth.locks && decide (parseMethodDescriptor y.desc = some meth.sig)) = true) : (Jvm.Cond.code y bytes mx rt).before a s = true := by
  simp only [Bool.and_eq_true, beq_iff_eq, Bool.not_eq_true', decide_eq_true_eq] at h5
  obtain ⟨⟨⟨⟨⟨g1, g2⟩, g3⟩, g4⟩, g5⟩, g6⟩ := h5
  simp [Cond.before, Cond.holds, Cond.value, h1, h2, h3, h4, g1, g2, g3, g4, g5, g6]
def isCode : Jvm.Cond → Bool
  | .code _ _ _ _ => true
  | _ => false
theorem all_split {L : List Jvm.Cond} {P : Jvm.Cond → Bool} (h1 : L.all (fun c => isCode c || P c) = true) (h2 : ∀ c ∈ L.filter isCode, P c = true) : L.all P = true := by
  refine List.all_eq_true.mpr fun c hc => ?_
  have h := List.all_eq_true.mp h1 c hc
  rcases Bool.eq_false_or_eq_true (isCode c) with hi | hi
  · exact h2 c (List.mem_filter.mpr ⟨hc, hi⟩)
  · simpa [hi] using h
set_option maxRecDepth 65536 in
theorem w_c0 : (Jvm.Cond.code x code maxLocals ret).before args0 about1 = true := code_word (m := ⟨1, 1⟩) (meth := k1m1) (c := k1c1) (by decide +kernel) rfl rfl rfl (by decide +kernel)
set_option maxRecDepth 65536 in
theorem w_c1 : (Jvm.Cond.code ({ cls := "com/example/honeybee/honeybee/crawl/CrawlCounts", name := "<init>", desc := "()V" } : Jvm.MethodName) prog_1_method_1_code (1 : Nat) (Option.none : Option Jvm.ClassFile.FieldType)).before args0 about1 = true := code_word (m := ⟨2, 0⟩) (meth := k2m0) (c := k2c0) (by decide +kernel) rfl rfl rfl (by decide +kernel)
set_option maxRecDepth 65536 in
theorem w_c2 : (Jvm.Cond.code ({ cls := "java/lang/Object", name := "<init>", desc := "()V" } : Jvm.MethodName) object_method_1_code (1 : Nat) (Option.none : Option Jvm.ClassFile.FieldType)).before args0 about1 = true := code_word (m := ⟨0, 0⟩) (meth := k0m0) (c := k0c0) (by decide +kernel) rfl rfl rfl (by decide +kernel)
set_option maxRecDepth 65536 in
theorem w_c3 : (Jvm.Cond.code ({ cls := "com/example/honeybee/honeybee/crawl/CrawlCounts", name := "pages", desc := "()J" } : Jvm.MethodName) prog_1_method_6_code (1 : Nat) (Option.some Jvm.ClassFile.FieldType.long)).before args0 about1 = true := code_word (m := ⟨2, 5⟩) (meth := k2m5) (c := k2c5) (by decide +kernel) rfl rfl rfl (by decide +kernel)
set_option maxRecDepth 65536 in
theorem w_c4 : (Jvm.Cond.code ({ cls := "com/example/honeybee/honeybee/crawl/CrawlCounts", name := "countAnswer", desc := "(I)V" } : Jvm.MethodName) prog_1_method_2_code (2 : Nat) (Option.none : Option Jvm.ClassFile.FieldType)).before args0 about1 = true := code_word (m := ⟨2, 1⟩) (meth := k2m1) (c := k2c1) (by decide +kernel) rfl rfl rfl (by decide +kernel)
set_option maxRecDepth 65536 in
theorem w_c5 : (Jvm.Cond.code ({ cls := "com/example/honeybee/honeybee/crawl/CrawlCounts", name := "countFailure", desc := "()V" } : Jvm.MethodName) prog_1_method_3_code (1 : Nat) (Option.none : Option Jvm.ClassFile.FieldType)).before args0 about1 = true := code_word (m := ⟨2, 2⟩) (meth := k2m2) (c := k2c2) (by decide +kernel) rfl rfl rfl (by decide +kernel)
set_option maxRecDepth 65536 in
theorem w_c6 : (Jvm.Cond.code ({ cls := "com/example/honeybee/honeybee/crawl/CrawlCounts", name := "countDuplicate", desc := "()V" } : Jvm.MethodName) prog_1_method_4_code (1 : Nat) (Option.none : Option Jvm.ClassFile.FieldType)).before args0 about1 = true := code_word (m := ⟨2, 3⟩) (meth := k2m3) (c := k2c3) (by decide +kernel) rfl rfl rfl (by decide +kernel)
set_option maxRecDepth 65536 in
theorem w_c7 : (Jvm.Cond.code ({ cls := "com/example/honeybee/honeybee/crawl/CrawlCounts", name := "countDisallowed", desc := "()V" } : Jvm.MethodName) prog_1_method_5_code (1 : Nat) (Option.none : Option Jvm.ClassFile.FieldType)).before args0 about1 = true := code_word (m := ⟨2, 4⟩) (meth := k2m4) (c := k2c4) (by decide +kernel) rfl rfl rfl (by decide +kernel)
def codes1 : List Jvm.Cond := [Jvm.Cond.code x code maxLocals ret, Jvm.Cond.code ({ cls := "com/example/honeybee/honeybee/crawl/CrawlCounts", name := "<init>", desc := "()V" } : Jvm.MethodName) prog_1_method_1_code (1 : Nat) (Option.none : Option Jvm.ClassFile.FieldType), Jvm.Cond.code ({ cls := "java/lang/Object", name := "<init>", desc := "()V" } : Jvm.MethodName) object_method_1_code (1 : Nat) (Option.none : Option Jvm.ClassFile.FieldType), Jvm.Cond.code ({ cls := "com/example/honeybee/honeybee/crawl/CrawlCounts", name := "pages", desc := "()J" } : Jvm.MethodName) prog_1_method_6_code (1 : Nat) (Option.some Jvm.ClassFile.FieldType.long), Jvm.Cond.code ({ cls := "com/example/honeybee/honeybee/crawl/CrawlCounts", name := "countAnswer", desc := "(I)V" } : Jvm.MethodName) prog_1_method_2_code (2 : Nat) (Option.none : Option Jvm.ClassFile.FieldType), Jvm.Cond.code ({ cls := "com/example/honeybee/honeybee/crawl/CrawlCounts", name := "countFailure", desc := "()V" } : Jvm.MethodName) prog_1_method_3_code (1 : Nat) (Option.none : Option Jvm.ClassFile.FieldType), Jvm.Cond.code ({ cls := "com/example/honeybee/honeybee/crawl/CrawlCounts", name := "countDuplicate", desc := "()V" } : Jvm.MethodName) prog_1_method_4_code (1 : Nat) (Option.none : Option Jvm.ClassFile.FieldType), Jvm.Cond.code ({ cls := "com/example/honeybee/honeybee/crawl/CrawlCounts", name := "countDisallowed", desc := "()V" } : Jvm.MethodName) prog_1_method_5_code (1 : Nat) (Option.none : Option Jvm.ClassFile.FieldType)]
set_option maxRecDepth 65536 in
theorem codes_eq : words1.filter isCode = codes1 := rfl
theorem w_codes : ∀ c ∈ words1.filter isCode, c.before args0 about1 = true := by
  rw [codes_eq]
  intro c hc
  simp only [codes1, List.mem_cons, List.not_mem_nil, or_false] at hc
  rcases hc with rfl | rfl | rfl | rfl | rfl | rfl | rfl | rfl
  · exact w_c0
  · exact w_c1
  · exact w_c2
  · exact w_c3
  · exact w_c4
  · exact w_c5
  · exact w_c6
  · exact w_c7
set_option maxRecDepth 65536 in
theorem w_t1 : (words1.take 24).all (fun c => isCode c || c.before args0 about1) = true := by decide +kernel
set_option maxRecDepth 65536 in
theorem w_t2 : (words1.drop 24).all (fun c => isCode c || c.before args0 about1) = true := by decide +kernel
theorem w_tables : (allAtoms (Jvm.Cond.code x code maxLocals ret :: tables_1)).before args0 about1 = true := by
  rw [allAtoms_all]
  show words1.all (fun c => c.before args0 about1) = true
  refine all_split ?_ w_codes
  rw [← List.take_append_drop 24 words1, List.all_append, w_t1, w_t2]
  rfl
set_option maxRecDepth 65536 in
theorem w_case : (Jvm.Cond.and given_1 narrow_1).before args0 about1 = true := by decide +kernel
theorem w_applies : (headSpec (Jvm.Cond.code x code maxLocals ret :: tables_1) room_1).applies x e0.platform about1 = true :=
  (Spec.applies_iff w_frames).mpr ⟨w_running, w_runnable, w_alone, w_named, w_hears, w_ripe, w_room, w_tables⟩
theorem atStart : AtStart classFile x code maxLocals ret World_1 tables_1 room_1 Calls_1 rest_1 Pre_1 launch0 p0 e0 about1 theMethod args0 below0 :=
  ⟨lists_1, trivial, launch0.admits_env _ _ _, launch0.least_env, fairChoices_fair.cas, fairChoices_fair.clock, w_frames, w_args, w_heap, w_applies, trivial, trivial, w_case⟩
end start1
theorem witness_1 : WitnessClaimed_1 := ⟨start1.p0, start1.e0, start1.about1, start1.theMethod, start1.args0, start1.below0, start1.atStart⟩
end Jvm.Pilot.@@N@@
