import JvmDerived
import JvmDerived.Pilot.@@N@@Statement
import JvmDerived.Pilot.@@N@@Code
set_option linter.unusedVariables false
set_option linter.unusedSimpArgs false
namespace Jvm.RoadKit
open Sem ClassFile Op Lib Jvm.Stand Jvm.Free Jvm.LawKit
section New
variable {p : Program} {l : Launch} {e : Env} {R : Room} {s : State} {m : MethodId} {args : Array Value} {below : List Frame} {meth : Method} {c : Code} {T : State} {locs : List Loc} {cells slots : Nat}
theorem retI (X : Stand p l e R s m args below meth c T locs cells slots) (hx : p.tables.exec = Jvm.exec) {pc : Nat} {Ls : Array Slot} {z : Int32} {rest : List Value} (hret : meth.sig.returnType = some .int) (hd : decode c.code pc = .ok (.ireturn, 1)) {fs : List Frame}
    (hl : ∀ (f : JFrame) (acts : List Action), f.method = m → f.locked = none → f.entered = [] → (doReturn e (T.setTop f) acts (some (.int z))).1 = T.setFrames fs) : Steps p.tables e below (T.setTop (mkF m pc Ls (.int z :: rest))) (T.setFrames fs) := by
  have hm' : T.vm.method? m = some meth := X.method'
  have hn : narrow .int (.int z) = .int z := rfl
  show Steps p.tables e below (T.setTop { method := m, pc := pc, locals := Ls, stack := _ :: rest, locked := none }) _
  jvm_step X.here [X.here.top, hx, hd, hm', hret, hn]
  first | (intro acts; rw [hl _ acts rfl rfl rfl]) | rw [hl _ _ rfl rfl rfl]
  exact Steps.refl _
end New
end Jvm.RoadKit
namespace Jvm.Pilot.@@N@@
open Jvm Jvm.ClassFile Sem Op Lib Jvm.Free Jvm.Stand Jvm.LawKit Jvm.RoadKit Bundle Jvm.Pilot.@@N@@.Jvm.D
def own_G (tb : Tables) (e : Env) (below : List Frame) (P : State → Outcome → Prop) (S : State) : Prop := ∃ t o, Steps tb e below S t ∧ P t o
theorem own_in {tb : Tables} {e : Env} {below : List Frame} {P : State → Outcome → Prop} {S : State} (h : own_G tb e below P S) : ∃ t o, Steps tb e below S t ∧ P t o := h
theorem own_go {tb : Tables} {e : Env} {below : List Frame} {P : State → Outcome → Prop} {S S' : State} (f : ∀ t, Steps tb e below S' t → Steps tb e below S t) (h : own_G tb e below P S') : own_G tb e below P S := by
  obtain ⟨t, o, st, hp⟩ := h
  exact ⟨t, o, f t st, hp⟩
theorem own_join {α : Type} {tb : Tables} {e : Env} {below : List Frame} {P : State → Outcome → Prop} {S : State} (C : α → Prop) (F : α → State) (J : ∀ a, C a → own_G tb e below P (F a)) (M : (∀ a, C a → own_G tb e below P (F a)) → own_G tb e below P S) : own_G tb e below P S := M J
theorem own_loop {α : Type} {tb : Tables} {e : Env} {below : List Frame} {P : State → Outcome → Prop} {S : State} (mu : α → Nat) (C : α → Prop) (F : α → State) (J : ∀ a, C a → (∀ b, C b → mu b < mu a → own_G tb e below P (F b)) → own_G tb e below P (F a)) (M : (∀ a, C a → own_G tb e below P (F a)) → own_G tb e below P S) : own_G tb e below P S := by
  apply M
  have q : ∀ n a, mu a < n → C a → own_G tb e below P (F a) := by
    intro n
    induction n with
    | zero => intro a h; exact absurd h (Nat.not_lt_zero _)
    | succ n ih => intro a h ha; exact J a ha fun b hb hlt => ih b (by omega) hb
  exact fun a ha => q _ a (Nat.lt_succ_self _) ha
theorem own_l1 {a b : Int64} (h : a = b) : lcmpW a b = 0 := by subst h; simp [lcmpW]
theorem own_l2 {a b : Int64} (h : ¬ a = b) : ¬ lcmpW a b = 0 := by
  unfold lcmpW; split
  · decide
  · first | (rw [if_neg h]; decide) | decide
theorem own_l3 {a b : Int64} (h : a < b) : lcmpW a b < 0 := by
  have h1 : ¬ a > b := Int64.not_lt.mpr (Int64.le_of_lt h)
  have h2 : ¬ a = b := fun q => by subst q; exact Int64.lt_irrefl h
  unfold lcmpW; rw [if_neg h1, if_neg h2]; decide
theorem own_l4 {a b : Int64} (h : ¬ a < b) : ¬ lcmpW a b < 0 := by
  unfold lcmpW; split
  · decide
  · split
    · decide
    · rename_i h1 h2
      rw [gt_iff_lt, Int64.lt_iff_toInt_lt] at h1; rw [Int64.lt_iff_toInt_lt] at h; rw [← Int64.toInt_inj] at h2; omega
theorem own_l5 {a b : Int64} (h : b < a) : 0 < lcmpW a b := by unfold lcmpW; rw [if_pos h]; decide
theorem own_l6 {a b : Int64} (h : ¬ b < a) : ¬ 0 < lcmpW a b := by
  unfold lcmpW; rw [if_neg h]; split <;> decide
def own_unres (c : Int32) : Int32 := if (¬ c < (97 : Int32) ∧ ¬ (122 : Int32) < c) ∨ (¬ c < (65 : Int32) ∧ ¬ (90 : Int32) < c) ∨ (¬ c < (48 : Int32) ∧ ¬ (57 : Int32) < c) ∨ c = (45 : Int32) ∨ c = (46 : Int32) ∨ c = (95 : Int32) ∨ c = (126 : Int32) then 1 else 0
def own_exp (c : Int32) : Int32 := if ¬ c < (0 : Int32) ∧ c < (64 : Int32) then (if (((288054454291267584 : Int64).toUInt64 >>> (c &&& 0x3f).toInt64.toUInt64).toInt64) &&& (1 : Int64) = (0 : Int64) then 0 else 1) else if ¬ c < (64 : Int32) ∧ c < (128 : Int32) then (if (((5188146764422578174 : Int64).toUInt64 >>> ((c - (64 : Int32)) &&& 0x3f).toInt64.toUInt64).toInt64) &&& (1 : Int64) = (0 : Int64) then 0 else 1) else 0
theorem own_tab : ∀ n : Fin 128, own_unres (Int32.ofNat n.val) = own_exp (Int32.ofNat n.val) := by decide +kernel
theorem own_ue (c : Int32) : own_unres c = own_exp c := by
  by_cases h : 0 ≤ c.toInt ∧ c.toInt < 128
  · have e : c = Int32.ofNat c.toInt.toNat := by
      apply Int32.toInt_inj.mp
      rw [Int32.toInt_ofNat_of_lt (by omega)]; omega
    rw [e]; exact own_tab ⟨c.toInt.toNat, by omega⟩
  · have e : ∀ k : Int32, (c < k) = (c.toInt < k.toInt) := fun k => propext Int32.lt_iff_toInt_lt
    have e' : ∀ k : Int32, (k < c) = (k.toInt < c.toInt) := fun k => propext Int32.lt_iff_toInt_lt
    have e2 : ∀ k : Int32, (c = k) = (c.toInt = k.toInt) := fun k => propext Int32.toInt_inj.symm
    unfold own_unres own_exp
    rw [if_neg, if_neg, if_neg]
    · simp only [e, e', e2, Int32.reduceToInt]; omega
    · simp only [e, e', e2, Int32.reduceToInt]; omega
    · simp only [e, e', e2, Int32.reduceToInt]; omega
theorem pd_I_Z : parseMethodDescriptor "(I)Z" = some ⟨[.int], some .boolean⟩ := by decide +kernel
-- com/example/brisk_current/briskcurrent/hypermedia/UriEncoding.isUnreserved:(I)Z
theorem d_isu_0 : decode prog_18_method_2_code 0 = .ok (.iload_n 0, 1) := by decide +kernel
theorem d_isu_1 : decode prog_18_method_2_code 1 = .ok (.bipush 97, 2) := by decide +kernel
theorem d_isu_3 : decode prog_18_method_2_code 3 = .ok (.if_icmp .lt 9, 3) := by decide +kernel
theorem d_isu_6 : decode prog_18_method_2_code 6 = .ok (.iload_n 0, 1) := by decide +kernel
theorem d_isu_7 : decode prog_18_method_2_code 7 = .ok (.bipush 122, 2) := by decide +kernel
theorem d_isu_9 : decode prog_18_method_2_code 9 = .ok (.if_icmp .le 51, 3) := by decide +kernel
theorem d_isu_12 : decode prog_18_method_2_code 12 = .ok (.iload_n 0, 1) := by decide +kernel
theorem d_isu_13 : decode prog_18_method_2_code 13 = .ok (.bipush 65, 2) := by decide +kernel
theorem d_isu_15 : decode prog_18_method_2_code 15 = .ok (.if_icmp .lt 9, 3) := by decide +kernel
theorem d_isu_18 : decode prog_18_method_2_code 18 = .ok (.iload_n 0, 1) := by decide +kernel
theorem d_isu_19 : decode prog_18_method_2_code 19 = .ok (.bipush 90, 2) := by decide +kernel
theorem d_isu_21 : decode prog_18_method_2_code 21 = .ok (.if_icmp .le 39, 3) := by decide +kernel
theorem d_isu_24 : decode prog_18_method_2_code 24 = .ok (.iload_n 0, 1) := by decide +kernel
theorem d_isu_25 : decode prog_18_method_2_code 25 = .ok (.bipush 48, 2) := by decide +kernel
theorem d_isu_27 : decode prog_18_method_2_code 27 = .ok (.if_icmp .lt 9, 3) := by decide +kernel
theorem d_isu_30 : decode prog_18_method_2_code 30 = .ok (.iload_n 0, 1) := by decide +kernel
theorem d_isu_31 : decode prog_18_method_2_code 31 = .ok (.bipush 57, 2) := by decide +kernel
theorem d_isu_33 : decode prog_18_method_2_code 33 = .ok (.if_icmp .le 27, 3) := by decide +kernel
theorem d_isu_36 : decode prog_18_method_2_code 36 = .ok (.iload_n 0, 1) := by decide +kernel
theorem d_isu_37 : decode prog_18_method_2_code 37 = .ok (.bipush 45, 2) := by decide +kernel
theorem d_isu_39 : decode prog_18_method_2_code 39 = .ok (.if_icmp .eq 21, 3) := by decide +kernel
theorem d_isu_42 : decode prog_18_method_2_code 42 = .ok (.iload_n 0, 1) := by decide +kernel
theorem d_isu_43 : decode prog_18_method_2_code 43 = .ok (.bipush 46, 2) := by decide +kernel
theorem d_isu_45 : decode prog_18_method_2_code 45 = .ok (.if_icmp .eq 15, 3) := by decide +kernel
theorem d_isu_48 : decode prog_18_method_2_code 48 = .ok (.iload_n 0, 1) := by decide +kernel
theorem d_isu_49 : decode prog_18_method_2_code 49 = .ok (.bipush 95, 2) := by decide +kernel
theorem d_isu_51 : decode prog_18_method_2_code 51 = .ok (.if_icmp .eq 9, 3) := by decide +kernel
theorem d_isu_54 : decode prog_18_method_2_code 54 = .ok (.iload_n 0, 1) := by decide +kernel
theorem d_isu_55 : decode prog_18_method_2_code 55 = .ok (.bipush 126, 2) := by decide +kernel
theorem d_isu_57 : decode prog_18_method_2_code 57 = .ok (.if_icmp .ne 7, 3) := by decide +kernel
theorem d_isu_60 : decode prog_18_method_2_code 60 = .ok (.iconst 1, 1) := by decide +kernel
theorem d_isu_61 : decode prog_18_method_2_code 61 = .ok (.goto 4, 3) := by decide +kernel
theorem d_isu_64 : decode prog_18_method_2_code 64 = .ok (.iconst 0, 1) := by decide +kernel
theorem d_isu_65 : decode prog_18_method_2_code 65 = .ok (.ireturn, 1) := by decide +kernel
theorem pn_isu : plainName "com/example/brisk_current/briskcurrent/hypermedia/UriEncoding" = true := by first | (simp [plainName, overriddenIn]; done) | decide +kernel
theorem ef_isu (m : MethodId) (cj : Int32) : entryFrame m #[(.int cj)] 1 = mkF m 0 #[.val (.int cj)] [] := by first | (simp [entryFrame, mkF, argsToLocals, Value.category]; done) | rfl
def Q_isu (Z : State) (cj : Int32) (h0 : Heap) (n0 : Nat) (v : Option Value) (h : Heap) (L : List Loc) : Prop := v = some (.int (own_unres cj)) ∧ Fr n0 L ∧ h = h0
set_option maxRecDepth 65536 in
set_option maxHeartbeats 40000000 in
theorem rm_isu (l : Launch) (Z : State) (a0 : Array Value) (hw : ∀ d ∈ tables_1, d.before a0 Z = true) (ws : List Jvm.Cond) (cj : Int32) (h0 : Heap) (n0 : Nat) (Z0 : n0 ≤ h0.size) :
    MetFree l (⟨"com/example/brisk_current/briskcurrent/hypermedia/UriEncoding", "isUnreserved", "(I)Z"⟩ : MethodName) (head1 (Jvm.Cond.code (⟨"com/example/brisk_current/briskcurrent/hypermedia/UriEncoding", "isUnreserved", "(I)Z"⟩ : MethodName) prog_18_method_2_code 1 (some .boolean) :: ws) ({ frames := 0, cells := 0, slots := 0, locals := 0 } : Room)) (fun a U => a = #[(.int cj)] ∧ Z.Warmed39 U.vm ∧ U.heap = h0) (fun _ _ _ _ _ => True) (fun _ U o U' => ∃ v L, o = .returned v ∧ Q_isu Z cj h0 n0 v U'.heap L ∧ FrameEnd U o U' L ({ frames := 0, cells := 0, slots := 0, locals := 0 } : Room).cells ({ frames := 0, cells := 0, slots := 0, locals := 0 } : Room).slots) := by
  refine MetFree.of_bodySF (plainFor_of_name pn_isu) hisR ?_
  intro p e s m args below meth c s₁ Bd hml0 hP hK
  obtain ⟨rfl, hZ, hh⟩ := hP
  have hx := Bd.exec
  have hby := Bd.bytes
  have hml : c.maxLocals = 1 := hml0
  have hown : s.vm.findClass "com/example/brisk_current/briskcurrent/hypermedia/UriEncoding" = some m.cls := findClass_of_methodNamed Bd.named
  have hnm := (name_of_methodNamed Bd.named Bd.method).1
  have X0 : Stand p l e ({ frames := 0, cells := 0, slots := 0, locals := 0 } : Room) s m #[(.int cj)] below meth c s₁ [] 0 0 := Stand.of_body Bd
  have e0 : s₁.heap = h0 := by rw [← hh, Bd.state]; rfl
  have N0 := Fr.nil n0
  refine own_in ?_
  refine own_go (S' := s₁.setTop (mkF m 0 #[.val (.int cj)] [])) (fun tgt_ stp_ => castTop (ef_isu m cj) stp_) ?_
  refine own_go (S' := s₁.setTop (mkF m 3 #[.val (.int cj)] [(.int (97 : Int32)), (.int cj)])) (fun target kt => ?_) ?_
  · show Steps p.tables e below (s₁.setTop (mkF m 0 #[.val (.int cj)] [])) target
    refine XS.iloadN X0.here hx rfl (hb hby d_isu_0) rfl ?_
    show Steps p.tables e below (s₁.setTop (mkF m 1 #[.val (.int cj)] [(.int cj)])) target
    refine XS.bipush X0.here hx rfl (hb hby d_isu_1) ?_
    show Steps p.tables e below (s₁.setTop (mkF m 3 #[.val (.int cj)] [(.int (97 : Int32)), (.int cj)])) target
    exact kt
  by_cases hc3 : cj < (97 : Int32)
  · -- pc 3: yes
    refine own_go (S' := s₁.setTop (mkF m 15 #[.val (.int cj)] [(.int (65 : Int32)), (.int cj)])) (fun target kt => ?_) ?_
    · show Steps p.tables e below (s₁.setTop (mkF m 3 #[.val (.int cj)] [(.int (97 : Int32)), (.int cj)])) target
      refine XS.icmpYes X0.here hx rfl (pc0 := 3) (pc' := 12) rfl (hb hby d_isu_3) rfl (tlt hc3).1 (by decide) (by decide) ?_
      show Steps p.tables e below (s₁.setTop (mkF m 12 #[.val (.int cj)] [])) target
      refine XS.iloadN X0.here hx rfl (hb hby d_isu_12) rfl ?_
      show Steps p.tables e below (s₁.setTop (mkF m 13 #[.val (.int cj)] [(.int cj)])) target
      refine XS.bipush X0.here hx rfl (hb hby d_isu_13) ?_
      show Steps p.tables e below (s₁.setTop (mkF m 15 #[.val (.int cj)] [(.int (65 : Int32)), (.int cj)])) target
      exact kt
    by_cases hc15 : cj < (65 : Int32)
    · -- pc 15: yes
      refine own_go (S' := s₁.setTop (mkF m 27 #[.val (.int cj)] [(.int (48 : Int32)), (.int cj)])) (fun target kt => ?_) ?_
      · show Steps p.tables e below (s₁.setTop (mkF m 15 #[.val (.int cj)] [(.int (65 : Int32)), (.int cj)])) target
        refine XS.icmpYes X0.here hx rfl (pc0 := 15) (pc' := 24) rfl (hb hby d_isu_15) rfl (tlt hc15).1 (by decide) (by decide) ?_
        show Steps p.tables e below (s₁.setTop (mkF m 24 #[.val (.int cj)] [])) target
        refine XS.iloadN X0.here hx rfl (hb hby d_isu_24) rfl ?_
        show Steps p.tables e below (s₁.setTop (mkF m 25 #[.val (.int cj)] [(.int cj)])) target
        refine XS.bipush X0.here hx rfl (hb hby d_isu_25) ?_
        show Steps p.tables e below (s₁.setTop (mkF m 27 #[.val (.int cj)] [(.int (48 : Int32)), (.int cj)])) target
        exact kt
      by_cases hc27 : cj < (48 : Int32)
      · -- pc 27: yes
        refine own_go (S' := s₁.setTop (mkF m 39 #[.val (.int cj)] [(.int (45 : Int32)), (.int cj)])) (fun target kt => ?_) ?_
        · show Steps p.tables e below (s₁.setTop (mkF m 27 #[.val (.int cj)] [(.int (48 : Int32)), (.int cj)])) target
          refine XS.icmpYes X0.here hx rfl (pc0 := 27) (pc' := 36) rfl (hb hby d_isu_27) rfl (tlt hc27).1 (by decide) (by decide) ?_
          show Steps p.tables e below (s₁.setTop (mkF m 36 #[.val (.int cj)] [])) target
          refine XS.iloadN X0.here hx rfl (hb hby d_isu_36) rfl ?_
          show Steps p.tables e below (s₁.setTop (mkF m 37 #[.val (.int cj)] [(.int cj)])) target
          refine XS.bipush X0.here hx rfl (hb hby d_isu_37) ?_
          show Steps p.tables e below (s₁.setTop (mkF m 39 #[.val (.int cj)] [(.int (45 : Int32)), (.int cj)])) target
          exact kt
        by_cases hc39 : cj = (45 : Int32)
        · -- pc 39: yes
          refine own_go (S' := s₁.setTop (mkF m 65 #[.val (.int cj)] [(.int (1 : Int32))])) (fun target kt => ?_) ?_
          · show Steps p.tables e below (s₁.setTop (mkF m 39 #[.val (.int cj)] [(.int (45 : Int32)), (.int cj)])) target
            refine XS.icmpYes X0.here hx rfl (pc0 := 39) (pc' := 60) rfl (hb hby d_isu_39) rfl (teq hc39).1 (by decide) (by decide) ?_
            show Steps p.tables e below (s₁.setTop (mkF m 60 #[.val (.int cj)] [])) target
            refine XS.iconst X0.here hx rfl (hb hby d_isu_60) ?_
            show Steps p.tables e below (s₁.setTop (mkF m 61 #[.val (.int cj)] [(.int (1 : Int32))])) target
            refine XS.goto X0.here hx rfl (pc0 := 61) (pc' := 65) rfl (hb hby d_isu_61) (by decide) (by decide) ?_
            show Steps p.tables e below (s₁.setTop (mkF m 65 #[.val (.int cj)] [(.int (1 : Int32))])) target
            exact kt
          obtain ⟨fs, hr, hrun, hended, hW, hsame⟩ := X0.leave (v := some (.int (1 : Int32))) (fun h => by rw [Bd.returns] at h; cases h)
          refine ⟨_, _, retN X0 hx (t := .boolean) Bd.returns (by simp) (hb hby d_isu_65) hr, hrun, hended, _, _, rfl, ?_, ⟨_, rfl⟩, hW, hsame.mono (by decide) (by decide)⟩
          show Q_isu Z cj h0 n0 _ s₁.heap _
          rw [e0]
          exact ⟨(congrArg (fun z => some (Value.int z)) (by first | (simp only [own_unres, hc3, hc15, hc27, hc39, not_true_eq_false, not_false_eq_true, and_self, and_true, true_and, and_false, false_and, or_self, or_true, true_or, or_false, false_or, if_true, if_false, ↓reduceIte]; done) | (simp [own_unres, hc3, hc15, hc27, hc39]; done))), N0, rfl⟩
        · -- pc 39: no
          refine own_go (S' := s₁.setTop (mkF m 45 #[.val (.int cj)] [(.int (46 : Int32)), (.int cj)])) (fun target kt => ?_) ?_
          · show Steps p.tables e below (s₁.setTop (mkF m 39 #[.val (.int cj)] [(.int (45 : Int32)), (.int cj)])) target
            refine XS.icmpNo X0.here hx rfl (hb hby d_isu_39) rfl (feq hc39).1 ?_
            show Steps p.tables e below (s₁.setTop (mkF m 42 #[.val (.int cj)] [])) target
            refine XS.iloadN X0.here hx rfl (hb hby d_isu_42) rfl ?_
            show Steps p.tables e below (s₁.setTop (mkF m 43 #[.val (.int cj)] [(.int cj)])) target
            refine XS.bipush X0.here hx rfl (hb hby d_isu_43) ?_
            show Steps p.tables e below (s₁.setTop (mkF m 45 #[.val (.int cj)] [(.int (46 : Int32)), (.int cj)])) target
            exact kt
          by_cases hc45 : cj = (46 : Int32)
          · -- pc 45: yes
            refine own_go (S' := s₁.setTop (mkF m 65 #[.val (.int cj)] [(.int (1 : Int32))])) (fun target kt => ?_) ?_
            · show Steps p.tables e below (s₁.setTop (mkF m 45 #[.val (.int cj)] [(.int (46 : Int32)), (.int cj)])) target
              refine XS.icmpYes X0.here hx rfl (pc0 := 45) (pc' := 60) rfl (hb hby d_isu_45) rfl (teq hc45).1 (by decide) (by decide) ?_
              show Steps p.tables e below (s₁.setTop (mkF m 60 #[.val (.int cj)] [])) target
              refine XS.iconst X0.here hx rfl (hb hby d_isu_60) ?_
              show Steps p.tables e below (s₁.setTop (mkF m 61 #[.val (.int cj)] [(.int (1 : Int32))])) target
              refine XS.goto X0.here hx rfl (pc0 := 61) (pc' := 65) rfl (hb hby d_isu_61) (by decide) (by decide) ?_
              show Steps p.tables e below (s₁.setTop (mkF m 65 #[.val (.int cj)] [(.int (1 : Int32))])) target
              exact kt
            obtain ⟨fs, hr, hrun, hended, hW, hsame⟩ := X0.leave (v := some (.int (1 : Int32))) (fun h => by rw [Bd.returns] at h; cases h)
            refine ⟨_, _, retN X0 hx (t := .boolean) Bd.returns (by simp) (hb hby d_isu_65) hr, hrun, hended, _, _, rfl, ?_, ⟨_, rfl⟩, hW, hsame.mono (by decide) (by decide)⟩
            show Q_isu Z cj h0 n0 _ s₁.heap _
            rw [e0]
            exact ⟨(congrArg (fun z => some (Value.int z)) (by first | (simp only [own_unres, hc3, hc15, hc27, hc39, hc45, not_true_eq_false, not_false_eq_true, and_self, and_true, true_and, and_false, false_and, or_self, or_true, true_or, or_false, false_or, if_true, if_false, ↓reduceIte]; done) | (simp [own_unres, hc3, hc15, hc27, hc39, hc45]; done))), N0, rfl⟩
          · -- pc 45: no
            refine own_go (S' := s₁.setTop (mkF m 51 #[.val (.int cj)] [(.int (95 : Int32)), (.int cj)])) (fun target kt => ?_) ?_
            · show Steps p.tables e below (s₁.setTop (mkF m 45 #[.val (.int cj)] [(.int (46 : Int32)), (.int cj)])) target
              refine XS.icmpNo X0.here hx rfl (hb hby d_isu_45) rfl (feq hc45).1 ?_
              show Steps p.tables e below (s₁.setTop (mkF m 48 #[.val (.int cj)] [])) target
              refine XS.iloadN X0.here hx rfl (hb hby d_isu_48) rfl ?_
              show Steps p.tables e below (s₁.setTop (mkF m 49 #[.val (.int cj)] [(.int cj)])) target
              refine XS.bipush X0.here hx rfl (hb hby d_isu_49) ?_
              show Steps p.tables e below (s₁.setTop (mkF m 51 #[.val (.int cj)] [(.int (95 : Int32)), (.int cj)])) target
              exact kt
            by_cases hc51 : cj = (95 : Int32)
            · -- pc 51: yes
              refine own_go (S' := s₁.setTop (mkF m 65 #[.val (.int cj)] [(.int (1 : Int32))])) (fun target kt => ?_) ?_
              · show Steps p.tables e below (s₁.setTop (mkF m 51 #[.val (.int cj)] [(.int (95 : Int32)), (.int cj)])) target
                refine XS.icmpYes X0.here hx rfl (pc0 := 51) (pc' := 60) rfl (hb hby d_isu_51) rfl (teq hc51).1 (by decide) (by decide) ?_
                show Steps p.tables e below (s₁.setTop (mkF m 60 #[.val (.int cj)] [])) target
                refine XS.iconst X0.here hx rfl (hb hby d_isu_60) ?_
                show Steps p.tables e below (s₁.setTop (mkF m 61 #[.val (.int cj)] [(.int (1 : Int32))])) target
                refine XS.goto X0.here hx rfl (pc0 := 61) (pc' := 65) rfl (hb hby d_isu_61) (by decide) (by decide) ?_
                show Steps p.tables e below (s₁.setTop (mkF m 65 #[.val (.int cj)] [(.int (1 : Int32))])) target
                exact kt
              obtain ⟨fs, hr, hrun, hended, hW, hsame⟩ := X0.leave (v := some (.int (1 : Int32))) (fun h => by rw [Bd.returns] at h; cases h)
              refine ⟨_, _, retN X0 hx (t := .boolean) Bd.returns (by simp) (hb hby d_isu_65) hr, hrun, hended, _, _, rfl, ?_, ⟨_, rfl⟩, hW, hsame.mono (by decide) (by decide)⟩
              show Q_isu Z cj h0 n0 _ s₁.heap _
              rw [e0]
              exact ⟨(congrArg (fun z => some (Value.int z)) (by first | (simp only [own_unres, hc3, hc15, hc27, hc39, hc45, hc51, not_true_eq_false, not_false_eq_true, and_self, and_true, true_and, and_false, false_and, or_self, or_true, true_or, or_false, false_or, if_true, if_false, ↓reduceIte]; done) | (simp [own_unres, hc3, hc15, hc27, hc39, hc45, hc51]; done))), N0, rfl⟩
            · -- pc 51: no
              refine own_go (S' := s₁.setTop (mkF m 57 #[.val (.int cj)] [(.int (126 : Int32)), (.int cj)])) (fun target kt => ?_) ?_
              · show Steps p.tables e below (s₁.setTop (mkF m 51 #[.val (.int cj)] [(.int (95 : Int32)), (.int cj)])) target
                refine XS.icmpNo X0.here hx rfl (hb hby d_isu_51) rfl (feq hc51).1 ?_
                show Steps p.tables e below (s₁.setTop (mkF m 54 #[.val (.int cj)] [])) target
                refine XS.iloadN X0.here hx rfl (hb hby d_isu_54) rfl ?_
                show Steps p.tables e below (s₁.setTop (mkF m 55 #[.val (.int cj)] [(.int cj)])) target
                refine XS.bipush X0.here hx rfl (hb hby d_isu_55) ?_
                show Steps p.tables e below (s₁.setTop (mkF m 57 #[.val (.int cj)] [(.int (126 : Int32)), (.int cj)])) target
                exact kt
              by_cases hc57 : cj = (126 : Int32)
              · -- pc 57: yes
                refine own_go (S' := s₁.setTop (mkF m 65 #[.val (.int cj)] [(.int (1 : Int32))])) (fun target kt => ?_) ?_
                · show Steps p.tables e below (s₁.setTop (mkF m 57 #[.val (.int cj)] [(.int (126 : Int32)), (.int cj)])) target
                  refine XS.icmpNo X0.here hx rfl (hb hby d_isu_57) rfl (teq hc57).2 ?_
                  show Steps p.tables e below (s₁.setTop (mkF m 60 #[.val (.int cj)] [])) target
                  refine XS.iconst X0.here hx rfl (hb hby d_isu_60) ?_
                  show Steps p.tables e below (s₁.setTop (mkF m 61 #[.val (.int cj)] [(.int (1 : Int32))])) target
                  refine XS.goto X0.here hx rfl (pc0 := 61) (pc' := 65) rfl (hb hby d_isu_61) (by decide) (by decide) ?_
                  show Steps p.tables e below (s₁.setTop (mkF m 65 #[.val (.int cj)] [(.int (1 : Int32))])) target
                  exact kt
                obtain ⟨fs, hr, hrun, hended, hW, hsame⟩ := X0.leave (v := some (.int (1 : Int32))) (fun h => by rw [Bd.returns] at h; cases h)
                refine ⟨_, _, retN X0 hx (t := .boolean) Bd.returns (by simp) (hb hby d_isu_65) hr, hrun, hended, _, _, rfl, ?_, ⟨_, rfl⟩, hW, hsame.mono (by decide) (by decide)⟩
                show Q_isu Z cj h0 n0 _ s₁.heap _
                rw [e0]
                exact ⟨(congrArg (fun z => some (Value.int z)) (by first | (simp only [own_unres, hc3, hc15, hc27, hc39, hc45, hc51, hc57, not_true_eq_false, not_false_eq_true, and_self, and_true, true_and, and_false, false_and, or_self, or_true, true_or, or_false, false_or, if_true, if_false, ↓reduceIte]; done) | (simp [own_unres, hc3, hc15, hc27, hc39, hc45, hc51, hc57]; done))), N0, rfl⟩
              · -- pc 57: no
                refine own_go (S' := s₁.setTop (mkF m 65 #[.val (.int cj)] [(.int (0 : Int32))])) (fun target kt => ?_) ?_
                · show Steps p.tables e below (s₁.setTop (mkF m 57 #[.val (.int cj)] [(.int (126 : Int32)), (.int cj)])) target
                  refine XS.icmpYes X0.here hx rfl (pc0 := 57) (pc' := 64) rfl (hb hby d_isu_57) rfl (feq hc57).2 (by decide) (by decide) ?_
                  show Steps p.tables e below (s₁.setTop (mkF m 64 #[.val (.int cj)] [])) target
                  refine XS.iconst X0.here hx rfl (hb hby d_isu_64) ?_
                  show Steps p.tables e below (s₁.setTop (mkF m 65 #[.val (.int cj)] [(.int (0 : Int32))])) target
                  exact kt
                obtain ⟨fs, hr, hrun, hended, hW, hsame⟩ := X0.leave (v := some (.int (0 : Int32))) (fun h => by rw [Bd.returns] at h; cases h)
                refine ⟨_, _, retN X0 hx (t := .boolean) Bd.returns (by simp) (hb hby d_isu_65) hr, hrun, hended, _, _, rfl, ?_, ⟨_, rfl⟩, hW, hsame.mono (by decide) (by decide)⟩
                show Q_isu Z cj h0 n0 _ s₁.heap _
                rw [e0]
                exact ⟨(congrArg (fun z => some (Value.int z)) (by first | (simp only [own_unres, hc3, hc15, hc27, hc39, hc45, hc51, hc57, not_true_eq_false, not_false_eq_true, and_self, and_true, true_and, and_false, false_and, or_self, or_true, true_or, or_false, false_or, if_true, if_false, ↓reduceIte]; done) | (simp [own_unres, hc3, hc15, hc27, hc39, hc45, hc51, hc57]; done))), N0, rfl⟩
      · -- pc 27: no
        refine own_go (S' := s₁.setTop (mkF m 33 #[.val (.int cj)] [(.int (57 : Int32)), (.int cj)])) (fun target kt => ?_) ?_
        · show Steps p.tables e below (s₁.setTop (mkF m 27 #[.val (.int cj)] [(.int (48 : Int32)), (.int cj)])) target
          refine XS.icmpNo X0.here hx rfl (hb hby d_isu_27) rfl (flt hc27).1 ?_
          show Steps p.tables e below (s₁.setTop (mkF m 30 #[.val (.int cj)] [])) target
          refine XS.iloadN X0.here hx rfl (hb hby d_isu_30) rfl ?_
          show Steps p.tables e below (s₁.setTop (mkF m 31 #[.val (.int cj)] [(.int cj)])) target
          refine XS.bipush X0.here hx rfl (hb hby d_isu_31) ?_
          show Steps p.tables e below (s₁.setTop (mkF m 33 #[.val (.int cj)] [(.int (57 : Int32)), (.int cj)])) target
          exact kt
        by_cases hc33 : (57 : Int32) < cj
        · -- pc 33: yes
          refine own_go (S' := s₁.setTop (mkF m 39 #[.val (.int cj)] [(.int (45 : Int32)), (.int cj)])) (fun target kt => ?_) ?_
          · show Steps p.tables e below (s₁.setTop (mkF m 33 #[.val (.int cj)] [(.int (57 : Int32)), (.int cj)])) target
            refine XS.icmpNo X0.here hx rfl (hb hby d_isu_33) rfl (tlt hc33).2.2.2 ?_
            show Steps p.tables e below (s₁.setTop (mkF m 36 #[.val (.int cj)] [])) target
            refine XS.iloadN X0.here hx rfl (hb hby d_isu_36) rfl ?_
            show Steps p.tables e below (s₁.setTop (mkF m 37 #[.val (.int cj)] [(.int cj)])) target
            refine XS.bipush X0.here hx rfl (hb hby d_isu_37) ?_
            show Steps p.tables e below (s₁.setTop (mkF m 39 #[.val (.int cj)] [(.int (45 : Int32)), (.int cj)])) target
            exact kt
          by_cases hc39 : cj = (45 : Int32)
          · -- pc 39: yes
            refine own_go (S' := s₁.setTop (mkF m 65 #[.val (.int cj)] [(.int (1 : Int32))])) (fun target kt => ?_) ?_
            · show Steps p.tables e below (s₁.setTop (mkF m 39 #[.val (.int cj)] [(.int (45 : Int32)), (.int cj)])) target
              refine XS.icmpYes X0.here hx rfl (pc0 := 39) (pc' := 60) rfl (hb hby d_isu_39) rfl (teq hc39).1 (by decide) (by decide) ?_
              show Steps p.tables e below (s₁.setTop (mkF m 60 #[.val (.int cj)] [])) target
              refine XS.iconst X0.here hx rfl (hb hby d_isu_60) ?_
              show Steps p.tables e below (s₁.setTop (mkF m 61 #[.val (.int cj)] [(.int (1 : Int32))])) target
              refine XS.goto X0.here hx rfl (pc0 := 61) (pc' := 65) rfl (hb hby d_isu_61) (by decide) (by decide) ?_
              show Steps p.tables e below (s₁.setTop (mkF m 65 #[.val (.int cj)] [(.int (1 : Int32))])) target
              exact kt
            obtain ⟨fs, hr, hrun, hended, hW, hsame⟩ := X0.leave (v := some (.int (1 : Int32))) (fun h => by rw [Bd.returns] at h; cases h)
            refine ⟨_, _, retN X0 hx (t := .boolean) Bd.returns (by simp) (hb hby d_isu_65) hr, hrun, hended, _, _, rfl, ?_, ⟨_, rfl⟩, hW, hsame.mono (by decide) (by decide)⟩
            show Q_isu Z cj h0 n0 _ s₁.heap _
            rw [e0]
            exact ⟨(congrArg (fun z => some (Value.int z)) (by first | (simp only [own_unres, hc3, hc15, hc27, hc33, hc39, not_true_eq_false, not_false_eq_true, and_self, and_true, true_and, and_false, false_and, or_self, or_true, true_or, or_false, false_or, if_true, if_false, ↓reduceIte]; done) | (simp [own_unres, hc3, hc15, hc27, hc33, hc39]; done))), N0, rfl⟩
          · -- pc 39: no
            refine own_go (S' := s₁.setTop (mkF m 45 #[.val (.int cj)] [(.int (46 : Int32)), (.int cj)])) (fun target kt => ?_) ?_
            · show Steps p.tables e below (s₁.setTop (mkF m 39 #[.val (.int cj)] [(.int (45 : Int32)), (.int cj)])) target
              refine XS.icmpNo X0.here hx rfl (hb hby d_isu_39) rfl (feq hc39).1 ?_
              show Steps p.tables e below (s₁.setTop (mkF m 42 #[.val (.int cj)] [])) target
              refine XS.iloadN X0.here hx rfl (hb hby d_isu_42) rfl ?_
              show Steps p.tables e below (s₁.setTop (mkF m 43 #[.val (.int cj)] [(.int cj)])) target
              refine XS.bipush X0.here hx rfl (hb hby d_isu_43) ?_
              show Steps p.tables e below (s₁.setTop (mkF m 45 #[.val (.int cj)] [(.int (46 : Int32)), (.int cj)])) target
              exact kt
            by_cases hc45 : cj = (46 : Int32)
            · -- pc 45: yes
              refine own_go (S' := s₁.setTop (mkF m 65 #[.val (.int cj)] [(.int (1 : Int32))])) (fun target kt => ?_) ?_
              · show Steps p.tables e below (s₁.setTop (mkF m 45 #[.val (.int cj)] [(.int (46 : Int32)), (.int cj)])) target
                refine XS.icmpYes X0.here hx rfl (pc0 := 45) (pc' := 60) rfl (hb hby d_isu_45) rfl (teq hc45).1 (by decide) (by decide) ?_
                show Steps p.tables e below (s₁.setTop (mkF m 60 #[.val (.int cj)] [])) target
                refine XS.iconst X0.here hx rfl (hb hby d_isu_60) ?_
                show Steps p.tables e below (s₁.setTop (mkF m 61 #[.val (.int cj)] [(.int (1 : Int32))])) target
                refine XS.goto X0.here hx rfl (pc0 := 61) (pc' := 65) rfl (hb hby d_isu_61) (by decide) (by decide) ?_
                show Steps p.tables e below (s₁.setTop (mkF m 65 #[.val (.int cj)] [(.int (1 : Int32))])) target
                exact kt
              obtain ⟨fs, hr, hrun, hended, hW, hsame⟩ := X0.leave (v := some (.int (1 : Int32))) (fun h => by rw [Bd.returns] at h; cases h)
              refine ⟨_, _, retN X0 hx (t := .boolean) Bd.returns (by simp) (hb hby d_isu_65) hr, hrun, hended, _, _, rfl, ?_, ⟨_, rfl⟩, hW, hsame.mono (by decide) (by decide)⟩
              show Q_isu Z cj h0 n0 _ s₁.heap _
              rw [e0]
              exact ⟨(congrArg (fun z => some (Value.int z)) (by first | (simp only [own_unres, hc3, hc15, hc27, hc33, hc39, hc45, not_true_eq_false, not_false_eq_true, and_self, and_true, true_and, and_false, false_and, or_self, or_true, true_or, or_false, false_or, if_true, if_false, ↓reduceIte]; done) | (simp [own_unres, hc3, hc15, hc27, hc33, hc39, hc45]; done))), N0, rfl⟩
            · -- pc 45: no
              refine own_go (S' := s₁.setTop (mkF m 51 #[.val (.int cj)] [(.int (95 : Int32)), (.int cj)])) (fun target kt => ?_) ?_
              · show Steps p.tables e below (s₁.setTop (mkF m 45 #[.val (.int cj)] [(.int (46 : Int32)), (.int cj)])) target
                refine XS.icmpNo X0.here hx rfl (hb hby d_isu_45) rfl (feq hc45).1 ?_
                show Steps p.tables e below (s₁.setTop (mkF m 48 #[.val (.int cj)] [])) target
                refine XS.iloadN X0.here hx rfl (hb hby d_isu_48) rfl ?_
                show Steps p.tables e below (s₁.setTop (mkF m 49 #[.val (.int cj)] [(.int cj)])) target
                refine XS.bipush X0.here hx rfl (hb hby d_isu_49) ?_
                show Steps p.tables e below (s₁.setTop (mkF m 51 #[.val (.int cj)] [(.int (95 : Int32)), (.int cj)])) target
                exact kt
              by_cases hc51 : cj = (95 : Int32)
              · -- pc 51: yes
                refine own_go (S' := s₁.setTop (mkF m 65 #[.val (.int cj)] [(.int (1 : Int32))])) (fun target kt => ?_) ?_
                · show Steps p.tables e below (s₁.setTop (mkF m 51 #[.val (.int cj)] [(.int (95 : Int32)), (.int cj)])) target
                  refine XS.icmpYes X0.here hx rfl (pc0 := 51) (pc' := 60) rfl (hb hby d_isu_51) rfl (teq hc51).1 (by decide) (by decide) ?_
                  show Steps p.tables e below (s₁.setTop (mkF m 60 #[.val (.int cj)] [])) target
                  refine XS.iconst X0.here hx rfl (hb hby d_isu_60) ?_
                  show Steps p.tables e below (s₁.setTop (mkF m 61 #[.val (.int cj)] [(.int (1 : Int32))])) target
                  refine XS.goto X0.here hx rfl (pc0 := 61) (pc' := 65) rfl (hb hby d_isu_61) (by decide) (by decide) ?_
                  show Steps p.tables e below (s₁.setTop (mkF m 65 #[.val (.int cj)] [(.int (1 : Int32))])) target
                  exact kt
                obtain ⟨fs, hr, hrun, hended, hW, hsame⟩ := X0.leave (v := some (.int (1 : Int32))) (fun h => by rw [Bd.returns] at h; cases h)
                refine ⟨_, _, retN X0 hx (t := .boolean) Bd.returns (by simp) (hb hby d_isu_65) hr, hrun, hended, _, _, rfl, ?_, ⟨_, rfl⟩, hW, hsame.mono (by decide) (by decide)⟩
                show Q_isu Z cj h0 n0 _ s₁.heap _
                rw [e0]
                exact ⟨(congrArg (fun z => some (Value.int z)) (by first | (simp only [own_unres, hc3, hc15, hc27, hc33, hc39, hc45, hc51, not_true_eq_false, not_false_eq_true, and_self, and_true, true_and, and_false, false_and, or_self, or_true, true_or, or_false, false_or, if_true, if_false, ↓reduceIte]; done) | (simp [own_unres, hc3, hc15, hc27, hc33, hc39, hc45, hc51]; done))), N0, rfl⟩
              · -- pc 51: no
                refine own_go (S' := s₁.setTop (mkF m 57 #[.val (.int cj)] [(.int (126 : Int32)), (.int cj)])) (fun target kt => ?_) ?_
                · show Steps p.tables e below (s₁.setTop (mkF m 51 #[.val (.int cj)] [(.int (95 : Int32)), (.int cj)])) target
                  refine XS.icmpNo X0.here hx rfl (hb hby d_isu_51) rfl (feq hc51).1 ?_
                  show Steps p.tables e below (s₁.setTop (mkF m 54 #[.val (.int cj)] [])) target
                  refine XS.iloadN X0.here hx rfl (hb hby d_isu_54) rfl ?_
                  show Steps p.tables e below (s₁.setTop (mkF m 55 #[.val (.int cj)] [(.int cj)])) target
                  refine XS.bipush X0.here hx rfl (hb hby d_isu_55) ?_
                  show Steps p.tables e below (s₁.setTop (mkF m 57 #[.val (.int cj)] [(.int (126 : Int32)), (.int cj)])) target
                  exact kt
                by_cases hc57 : cj = (126 : Int32)
                · -- pc 57: yes
                  refine own_go (S' := s₁.setTop (mkF m 65 #[.val (.int cj)] [(.int (1 : Int32))])) (fun target kt => ?_) ?_
                  · show Steps p.tables e below (s₁.setTop (mkF m 57 #[.val (.int cj)] [(.int (126 : Int32)), (.int cj)])) target
                    refine XS.icmpNo X0.here hx rfl (hb hby d_isu_57) rfl (teq hc57).2 ?_
                    show Steps p.tables e below (s₁.setTop (mkF m 60 #[.val (.int cj)] [])) target
                    refine XS.iconst X0.here hx rfl (hb hby d_isu_60) ?_
                    show Steps p.tables e below (s₁.setTop (mkF m 61 #[.val (.int cj)] [(.int (1 : Int32))])) target
                    refine XS.goto X0.here hx rfl (pc0 := 61) (pc' := 65) rfl (hb hby d_isu_61) (by decide) (by decide) ?_
                    show Steps p.tables e below (s₁.setTop (mkF m 65 #[.val (.int cj)] [(.int (1 : Int32))])) target
                    exact kt
                  obtain ⟨fs, hr, hrun, hended, hW, hsame⟩ := X0.leave (v := some (.int (1 : Int32))) (fun h => by rw [Bd.returns] at h; cases h)
                  refine ⟨_, _, retN X0 hx (t := .boolean) Bd.returns (by simp) (hb hby d_isu_65) hr, hrun, hended, _, _, rfl, ?_, ⟨_, rfl⟩, hW, hsame.mono (by decide) (by decide)⟩
                  show Q_isu Z cj h0 n0 _ s₁.heap _
                  rw [e0]
                  exact ⟨(congrArg (fun z => some (Value.int z)) (by first | (simp only [own_unres, hc3, hc15, hc27, hc33, hc39, hc45, hc51, hc57, not_true_eq_false, not_false_eq_true, and_self, and_true, true_and, and_false, false_and, or_self, or_true, true_or, or_false, false_or, if_true, if_false, ↓reduceIte]; done) | (simp [own_unres, hc3, hc15, hc27, hc33, hc39, hc45, hc51, hc57]; done))), N0, rfl⟩
                · -- pc 57: no
                  refine own_go (S' := s₁.setTop (mkF m 65 #[.val (.int cj)] [(.int (0 : Int32))])) (fun target kt => ?_) ?_
                  · show Steps p.tables e below (s₁.setTop (mkF m 57 #[.val (.int cj)] [(.int (126 : Int32)), (.int cj)])) target
                    refine XS.icmpYes X0.here hx rfl (pc0 := 57) (pc' := 64) rfl (hb hby d_isu_57) rfl (feq hc57).2 (by decide) (by decide) ?_
                    show Steps p.tables e below (s₁.setTop (mkF m 64 #[.val (.int cj)] [])) target
                    refine XS.iconst X0.here hx rfl (hb hby d_isu_64) ?_
                    show Steps p.tables e below (s₁.setTop (mkF m 65 #[.val (.int cj)] [(.int (0 : Int32))])) target
                    exact kt
                  obtain ⟨fs, hr, hrun, hended, hW, hsame⟩ := X0.leave (v := some (.int (0 : Int32))) (fun h => by rw [Bd.returns] at h; cases h)
                  refine ⟨_, _, retN X0 hx (t := .boolean) Bd.returns (by simp) (hb hby d_isu_65) hr, hrun, hended, _, _, rfl, ?_, ⟨_, rfl⟩, hW, hsame.mono (by decide) (by decide)⟩
                  show Q_isu Z cj h0 n0 _ s₁.heap _
                  rw [e0]
                  exact ⟨(congrArg (fun z => some (Value.int z)) (by first | (simp only [own_unres, hc3, hc15, hc27, hc33, hc39, hc45, hc51, hc57, not_true_eq_false, not_false_eq_true, and_self, and_true, true_and, and_false, false_and, or_self, or_true, true_or, or_false, false_or, if_true, if_false, ↓reduceIte]; done) | (simp [own_unres, hc3, hc15, hc27, hc33, hc39, hc45, hc51, hc57]; done))), N0, rfl⟩
        · -- pc 33: no
          refine own_go (S' := s₁.setTop (mkF m 65 #[.val (.int cj)] [(.int (1 : Int32))])) (fun target kt => ?_) ?_
          · show Steps p.tables e below (s₁.setTop (mkF m 33 #[.val (.int cj)] [(.int (57 : Int32)), (.int cj)])) target
            refine XS.icmpYes X0.here hx rfl (pc0 := 33) (pc' := 60) rfl (hb hby d_isu_33) rfl (flt hc33).2.2.2 (by decide) (by decide) ?_
            show Steps p.tables e below (s₁.setTop (mkF m 60 #[.val (.int cj)] [])) target
            refine XS.iconst X0.here hx rfl (hb hby d_isu_60) ?_
            show Steps p.tables e below (s₁.setTop (mkF m 61 #[.val (.int cj)] [(.int (1 : Int32))])) target
            refine XS.goto X0.here hx rfl (pc0 := 61) (pc' := 65) rfl (hb hby d_isu_61) (by decide) (by decide) ?_
            show Steps p.tables e below (s₁.setTop (mkF m 65 #[.val (.int cj)] [(.int (1 : Int32))])) target
            exact kt
          obtain ⟨fs, hr, hrun, hended, hW, hsame⟩ := X0.leave (v := some (.int (1 : Int32))) (fun h => by rw [Bd.returns] at h; cases h)
          refine ⟨_, _, retN X0 hx (t := .boolean) Bd.returns (by simp) (hb hby d_isu_65) hr, hrun, hended, _, _, rfl, ?_, ⟨_, rfl⟩, hW, hsame.mono (by decide) (by decide)⟩
          show Q_isu Z cj h0 n0 _ s₁.heap _
          rw [e0]
          exact ⟨(congrArg (fun z => some (Value.int z)) (by first | (simp only [own_unres, hc3, hc15, hc27, hc33, not_true_eq_false, not_false_eq_true, and_self, and_true, true_and, and_false, false_and, or_self, or_true, true_or, or_false, false_or, if_true, if_false, ↓reduceIte]; done) | (simp [own_unres, hc3, hc15, hc27, hc33]; done))), N0, rfl⟩
    · -- pc 15: no
      refine own_go (S' := s₁.setTop (mkF m 21 #[.val (.int cj)] [(.int (90 : Int32)), (.int cj)])) (fun target kt => ?_) ?_
      · show Steps p.tables e below (s₁.setTop (mkF m 15 #[.val (.int cj)] [(.int (65 : Int32)), (.int cj)])) target
        refine XS.icmpNo X0.here hx rfl (hb hby d_isu_15) rfl (flt hc15).1 ?_
        show Steps p.tables e below (s₁.setTop (mkF m 18 #[.val (.int cj)] [])) target
        refine XS.iloadN X0.here hx rfl (hb hby d_isu_18) rfl ?_
        show Steps p.tables e below (s₁.setTop (mkF m 19 #[.val (.int cj)] [(.int cj)])) target
        refine XS.bipush X0.here hx rfl (hb hby d_isu_19) ?_
        show Steps p.tables e below (s₁.setTop (mkF m 21 #[.val (.int cj)] [(.int (90 : Int32)), (.int cj)])) target
        exact kt
      by_cases hc21 : (90 : Int32) < cj
      · -- pc 21: yes
        refine own_go (S' := s₁.setTop (mkF m 27 #[.val (.int cj)] [(.int (48 : Int32)), (.int cj)])) (fun target kt => ?_) ?_
        · show Steps p.tables e below (s₁.setTop (mkF m 21 #[.val (.int cj)] [(.int (90 : Int32)), (.int cj)])) target
          refine XS.icmpNo X0.here hx rfl (hb hby d_isu_21) rfl (tlt hc21).2.2.2 ?_
          show Steps p.tables e below (s₁.setTop (mkF m 24 #[.val (.int cj)] [])) target
          refine XS.iloadN X0.here hx rfl (hb hby d_isu_24) rfl ?_
          show Steps p.tables e below (s₁.setTop (mkF m 25 #[.val (.int cj)] [(.int cj)])) target
          refine XS.bipush X0.here hx rfl (hb hby d_isu_25) ?_
          show Steps p.tables e below (s₁.setTop (mkF m 27 #[.val (.int cj)] [(.int (48 : Int32)), (.int cj)])) target
          exact kt
        by_cases hc27 : cj < (48 : Int32)
        · -- pc 27: yes
          refine own_go (S' := s₁.setTop (mkF m 39 #[.val (.int cj)] [(.int (45 : Int32)), (.int cj)])) (fun target kt => ?_) ?_
          · show Steps p.tables e below (s₁.setTop (mkF m 27 #[.val (.int cj)] [(.int (48 : Int32)), (.int cj)])) target
            refine XS.icmpYes X0.here hx rfl (pc0 := 27) (pc' := 36) rfl (hb hby d_isu_27) rfl (tlt hc27).1 (by decide) (by decide) ?_
            show Steps p.tables e below (s₁.setTop (mkF m 36 #[.val (.int cj)] [])) target
            refine XS.iloadN X0.here hx rfl (hb hby d_isu_36) rfl ?_
            show Steps p.tables e below (s₁.setTop (mkF m 37 #[.val (.int cj)] [(.int cj)])) target
            refine XS.bipush X0.here hx rfl (hb hby d_isu_37) ?_
            show Steps p.tables e below (s₁.setTop (mkF m 39 #[.val (.int cj)] [(.int (45 : Int32)), (.int cj)])) target
            exact kt
          by_cases hc39 : cj = (45 : Int32)
          · -- pc 39: yes
            refine own_go (S' := s₁.setTop (mkF m 65 #[.val (.int cj)] [(.int (1 : Int32))])) (fun target kt => ?_) ?_
            · show Steps p.tables e below (s₁.setTop (mkF m 39 #[.val (.int cj)] [(.int (45 : Int32)), (.int cj)])) target
              refine XS.icmpYes X0.here hx rfl (pc0 := 39) (pc' := 60) rfl (hb hby d_isu_39) rfl (teq hc39).1 (by decide) (by decide) ?_
              show Steps p.tables e below (s₁.setTop (mkF m 60 #[.val (.int cj)] [])) target
              refine XS.iconst X0.here hx rfl (hb hby d_isu_60) ?_
              show Steps p.tables e below (s₁.setTop (mkF m 61 #[.val (.int cj)] [(.int (1 : Int32))])) target
              refine XS.goto X0.here hx rfl (pc0 := 61) (pc' := 65) rfl (hb hby d_isu_61) (by decide) (by decide) ?_
              show Steps p.tables e below (s₁.setTop (mkF m 65 #[.val (.int cj)] [(.int (1 : Int32))])) target
              exact kt
            obtain ⟨fs, hr, hrun, hended, hW, hsame⟩ := X0.leave (v := some (.int (1 : Int32))) (fun h => by rw [Bd.returns] at h; cases h)
            refine ⟨_, _, retN X0 hx (t := .boolean) Bd.returns (by simp) (hb hby d_isu_65) hr, hrun, hended, _, _, rfl, ?_, ⟨_, rfl⟩, hW, hsame.mono (by decide) (by decide)⟩
            show Q_isu Z cj h0 n0 _ s₁.heap _
            rw [e0]
            exact ⟨(congrArg (fun z => some (Value.int z)) (by first | (simp only [own_unres, hc3, hc15, hc21, hc27, hc39, not_true_eq_false, not_false_eq_true, and_self, and_true, true_and, and_false, false_and, or_self, or_true, true_or, or_false, false_or, if_true, if_false, ↓reduceIte]; done) | (simp [own_unres, hc3, hc15, hc21, hc27, hc39]; done))), N0, rfl⟩
          · -- pc 39: no
            refine own_go (S' := s₁.setTop (mkF m 45 #[.val (.int cj)] [(.int (46 : Int32)), (.int cj)])) (fun target kt => ?_) ?_
            · show Steps p.tables e below (s₁.setTop (mkF m 39 #[.val (.int cj)] [(.int (45 : Int32)), (.int cj)])) target
              refine XS.icmpNo X0.here hx rfl (hb hby d_isu_39) rfl (feq hc39).1 ?_
              show Steps p.tables e below (s₁.setTop (mkF m 42 #[.val (.int cj)] [])) target
              refine XS.iloadN X0.here hx rfl (hb hby d_isu_42) rfl ?_
              show Steps p.tables e below (s₁.setTop (mkF m 43 #[.val (.int cj)] [(.int cj)])) target
              refine XS.bipush X0.here hx rfl (hb hby d_isu_43) ?_
              show Steps p.tables e below (s₁.setTop (mkF m 45 #[.val (.int cj)] [(.int (46 : Int32)), (.int cj)])) target
              exact kt
            by_cases hc45 : cj = (46 : Int32)
            · -- pc 45: yes
              refine own_go (S' := s₁.setTop (mkF m 65 #[.val (.int cj)] [(.int (1 : Int32))])) (fun target kt => ?_) ?_
              · show Steps p.tables e below (s₁.setTop (mkF m 45 #[.val (.int cj)] [(.int (46 : Int32)), (.int cj)])) target
                refine XS.icmpYes X0.here hx rfl (pc0 := 45) (pc' := 60) rfl (hb hby d_isu_45) rfl (teq hc45).1 (by decide) (by decide) ?_
                show Steps p.tables e below (s₁.setTop (mkF m 60 #[.val (.int cj)] [])) target
                refine XS.iconst X0.here hx rfl (hb hby d_isu_60) ?_
                show Steps p.tables e below (s₁.setTop (mkF m 61 #[.val (.int cj)] [(.int (1 : Int32))])) target
                refine XS.goto X0.here hx rfl (pc0 := 61) (pc' := 65) rfl (hb hby d_isu_61) (by decide) (by decide) ?_
                show Steps p.tables e below (s₁.setTop (mkF m 65 #[.val (.int cj)] [(.int (1 : Int32))])) target
                exact kt
              obtain ⟨fs, hr, hrun, hended, hW, hsame⟩ := X0.leave (v := some (.int (1 : Int32))) (fun h => by rw [Bd.returns] at h; cases h)
              refine ⟨_, _, retN X0 hx (t := .boolean) Bd.returns (by simp) (hb hby d_isu_65) hr, hrun, hended, _, _, rfl, ?_, ⟨_, rfl⟩, hW, hsame.mono (by decide) (by decide)⟩
              show Q_isu Z cj h0 n0 _ s₁.heap _
              rw [e0]
              exact ⟨(congrArg (fun z => some (Value.int z)) (by first | (simp only [own_unres, hc3, hc15, hc21, hc27, hc39, hc45, not_true_eq_false, not_false_eq_true, and_self, and_true, true_and, and_false, false_and, or_self, or_true, true_or, or_false, false_or, if_true, if_false, ↓reduceIte]; done) | (simp [own_unres, hc3, hc15, hc21, hc27, hc39, hc45]; done))), N0, rfl⟩
            · -- pc 45: no
              refine own_go (S' := s₁.setTop (mkF m 51 #[.val (.int cj)] [(.int (95 : Int32)), (.int cj)])) (fun target kt => ?_) ?_
              · show Steps p.tables e below (s₁.setTop (mkF m 45 #[.val (.int cj)] [(.int (46 : Int32)), (.int cj)])) target
                refine XS.icmpNo X0.here hx rfl (hb hby d_isu_45) rfl (feq hc45).1 ?_
                show Steps p.tables e below (s₁.setTop (mkF m 48 #[.val (.int cj)] [])) target
                refine XS.iloadN X0.here hx rfl (hb hby d_isu_48) rfl ?_
                show Steps p.tables e below (s₁.setTop (mkF m 49 #[.val (.int cj)] [(.int cj)])) target
                refine XS.bipush X0.here hx rfl (hb hby d_isu_49) ?_
                show Steps p.tables e below (s₁.setTop (mkF m 51 #[.val (.int cj)] [(.int (95 : Int32)), (.int cj)])) target
                exact kt
              by_cases hc51 : cj = (95 : Int32)
              · -- pc 51: yes
                refine own_go (S' := s₁.setTop (mkF m 65 #[.val (.int cj)] [(.int (1 : Int32))])) (fun target kt => ?_) ?_
                · show Steps p.tables e below (s₁.setTop (mkF m 51 #[.val (.int cj)] [(.int (95 : Int32)), (.int cj)])) target
                  refine XS.icmpYes X0.here hx rfl (pc0 := 51) (pc' := 60) rfl (hb hby d_isu_51) rfl (teq hc51).1 (by decide) (by decide) ?_
                  show Steps p.tables e below (s₁.setTop (mkF m 60 #[.val (.int cj)] [])) target
                  refine XS.iconst X0.here hx rfl (hb hby d_isu_60) ?_
                  show Steps p.tables e below (s₁.setTop (mkF m 61 #[.val (.int cj)] [(.int (1 : Int32))])) target
                  refine XS.goto X0.here hx rfl (pc0 := 61) (pc' := 65) rfl (hb hby d_isu_61) (by decide) (by decide) ?_
                  show Steps p.tables e below (s₁.setTop (mkF m 65 #[.val (.int cj)] [(.int (1 : Int32))])) target
                  exact kt
                obtain ⟨fs, hr, hrun, hended, hW, hsame⟩ := X0.leave (v := some (.int (1 : Int32))) (fun h => by rw [Bd.returns] at h; cases h)
                refine ⟨_, _, retN X0 hx (t := .boolean) Bd.returns (by simp) (hb hby d_isu_65) hr, hrun, hended, _, _, rfl, ?_, ⟨_, rfl⟩, hW, hsame.mono (by decide) (by decide)⟩
                show Q_isu Z cj h0 n0 _ s₁.heap _
                rw [e0]
                exact ⟨(congrArg (fun z => some (Value.int z)) (by first | (simp only [own_unres, hc3, hc15, hc21, hc27, hc39, hc45, hc51, not_true_eq_false, not_false_eq_true, and_self, and_true, true_and, and_false, false_and, or_self, or_true, true_or, or_false, false_or, if_true, if_false, ↓reduceIte]; done) | (simp [own_unres, hc3, hc15, hc21, hc27, hc39, hc45, hc51]; done))), N0, rfl⟩
              · -- pc 51: no
                refine own_go (S' := s₁.setTop (mkF m 57 #[.val (.int cj)] [(.int (126 : Int32)), (.int cj)])) (fun target kt => ?_) ?_
                · show Steps p.tables e below (s₁.setTop (mkF m 51 #[.val (.int cj)] [(.int (95 : Int32)), (.int cj)])) target
                  refine XS.icmpNo X0.here hx rfl (hb hby d_isu_51) rfl (feq hc51).1 ?_
                  show Steps p.tables e below (s₁.setTop (mkF m 54 #[.val (.int cj)] [])) target
                  refine XS.iloadN X0.here hx rfl (hb hby d_isu_54) rfl ?_
                  show Steps p.tables e below (s₁.setTop (mkF m 55 #[.val (.int cj)] [(.int cj)])) target
                  refine XS.bipush X0.here hx rfl (hb hby d_isu_55) ?_
                  show Steps p.tables e below (s₁.setTop (mkF m 57 #[.val (.int cj)] [(.int (126 : Int32)), (.int cj)])) target
                  exact kt
                by_cases hc57 : cj = (126 : Int32)
                · -- pc 57: yes
                  refine own_go (S' := s₁.setTop (mkF m 65 #[.val (.int cj)] [(.int (1 : Int32))])) (fun target kt => ?_) ?_
                  · show Steps p.tables e below (s₁.setTop (mkF m 57 #[.val (.int cj)] [(.int (126 : Int32)), (.int cj)])) target
                    refine XS.icmpNo X0.here hx rfl (hb hby d_isu_57) rfl (teq hc57).2 ?_
                    show Steps p.tables e below (s₁.setTop (mkF m 60 #[.val (.int cj)] [])) target
                    refine XS.iconst X0.here hx rfl (hb hby d_isu_60) ?_
                    show Steps p.tables e below (s₁.setTop (mkF m 61 #[.val (.int cj)] [(.int (1 : Int32))])) target
                    refine XS.goto X0.here hx rfl (pc0 := 61) (pc' := 65) rfl (hb hby d_isu_61) (by decide) (by decide) ?_
                    show Steps p.tables e below (s₁.setTop (mkF m 65 #[.val (.int cj)] [(.int (1 : Int32))])) target
                    exact kt
                  obtain ⟨fs, hr, hrun, hended, hW, hsame⟩ := X0.leave (v := some (.int (1 : Int32))) (fun h => by rw [Bd.returns] at h; cases h)
                  refine ⟨_, _, retN X0 hx (t := .boolean) Bd.returns (by simp) (hb hby d_isu_65) hr, hrun, hended, _, _, rfl, ?_, ⟨_, rfl⟩, hW, hsame.mono (by decide) (by decide)⟩
                  show Q_isu Z cj h0 n0 _ s₁.heap _
                  rw [e0]
                  exact ⟨(congrArg (fun z => some (Value.int z)) (by first | (simp only [own_unres, hc3, hc15, hc21, hc27, hc39, hc45, hc51, hc57, not_true_eq_false, not_false_eq_true, and_self, and_true, true_and, and_false, false_and, or_self, or_true, true_or, or_false, false_or, if_true, if_false, ↓reduceIte]; done) | (simp [own_unres, hc3, hc15, hc21, hc27, hc39, hc45, hc51, hc57]; done))), N0, rfl⟩
                · -- pc 57: no
                  refine own_go (S' := s₁.setTop (mkF m 65 #[.val (.int cj)] [(.int (0 : Int32))])) (fun target kt => ?_) ?_
                  · show Steps p.tables e below (s₁.setTop (mkF m 57 #[.val (.int cj)] [(.int (126 : Int32)), (.int cj)])) target
                    refine XS.icmpYes X0.here hx rfl (pc0 := 57) (pc' := 64) rfl (hb hby d_isu_57) rfl (feq hc57).2 (by decide) (by decide) ?_
                    show Steps p.tables e below (s₁.setTop (mkF m 64 #[.val (.int cj)] [])) target
                    refine XS.iconst X0.here hx rfl (hb hby d_isu_64) ?_
                    show Steps p.tables e below (s₁.setTop (mkF m 65 #[.val (.int cj)] [(.int (0 : Int32))])) target
                    exact kt
                  obtain ⟨fs, hr, hrun, hended, hW, hsame⟩ := X0.leave (v := some (.int (0 : Int32))) (fun h => by rw [Bd.returns] at h; cases h)
                  refine ⟨_, _, retN X0 hx (t := .boolean) Bd.returns (by simp) (hb hby d_isu_65) hr, hrun, hended, _, _, rfl, ?_, ⟨_, rfl⟩, hW, hsame.mono (by decide) (by decide)⟩
                  show Q_isu Z cj h0 n0 _ s₁.heap _
                  rw [e0]
                  exact ⟨(congrArg (fun z => some (Value.int z)) (by first | (simp only [own_unres, hc3, hc15, hc21, hc27, hc39, hc45, hc51, hc57, not_true_eq_false, not_false_eq_true, and_self, and_true, true_and, and_false, false_and, or_self, or_true, true_or, or_false, false_or, if_true, if_false, ↓reduceIte]; done) | (simp [own_unres, hc3, hc15, hc21, hc27, hc39, hc45, hc51, hc57]; done))), N0, rfl⟩
        · -- pc 27: no
          refine own_go (S' := s₁.setTop (mkF m 33 #[.val (.int cj)] [(.int (57 : Int32)), (.int cj)])) (fun target kt => ?_) ?_
          · show Steps p.tables e below (s₁.setTop (mkF m 27 #[.val (.int cj)] [(.int (48 : Int32)), (.int cj)])) target
            refine XS.icmpNo X0.here hx rfl (hb hby d_isu_27) rfl (flt hc27).1 ?_
            show Steps p.tables e below (s₁.setTop (mkF m 30 #[.val (.int cj)] [])) target
            refine XS.iloadN X0.here hx rfl (hb hby d_isu_30) rfl ?_
            show Steps p.tables e below (s₁.setTop (mkF m 31 #[.val (.int cj)] [(.int cj)])) target
            refine XS.bipush X0.here hx rfl (hb hby d_isu_31) ?_
            show Steps p.tables e below (s₁.setTop (mkF m 33 #[.val (.int cj)] [(.int (57 : Int32)), (.int cj)])) target
            exact kt
          by_cases hc33 : (57 : Int32) < cj
          · -- pc 33: yes
            refine own_go (S' := s₁.setTop (mkF m 39 #[.val (.int cj)] [(.int (45 : Int32)), (.int cj)])) (fun target kt => ?_) ?_
            · show Steps p.tables e below (s₁.setTop (mkF m 33 #[.val (.int cj)] [(.int (57 : Int32)), (.int cj)])) target
              refine XS.icmpNo X0.here hx rfl (hb hby d_isu_33) rfl (tlt hc33).2.2.2 ?_
              show Steps p.tables e below (s₁.setTop (mkF m 36 #[.val (.int cj)] [])) target
              refine XS.iloadN X0.here hx rfl (hb hby d_isu_36) rfl ?_
              show Steps p.tables e below (s₁.setTop (mkF m 37 #[.val (.int cj)] [(.int cj)])) target
              refine XS.bipush X0.here hx rfl (hb hby d_isu_37) ?_
              show Steps p.tables e below (s₁.setTop (mkF m 39 #[.val (.int cj)] [(.int (45 : Int32)), (.int cj)])) target
              exact kt
            by_cases hc39 : cj = (45 : Int32)
            · -- pc 39: yes
              refine own_go (S' := s₁.setTop (mkF m 65 #[.val (.int cj)] [(.int (1 : Int32))])) (fun target kt => ?_) ?_
              · show Steps p.tables e below (s₁.setTop (mkF m 39 #[.val (.int cj)] [(.int (45 : Int32)), (.int cj)])) target
                refine XS.icmpYes X0.here hx rfl (pc0 := 39) (pc' := 60) rfl (hb hby d_isu_39) rfl (teq hc39).1 (by decide) (by decide) ?_
                show Steps p.tables e below (s₁.setTop (mkF m 60 #[.val (.int cj)] [])) target
                refine XS.iconst X0.here hx rfl (hb hby d_isu_60) ?_
                show Steps p.tables e below (s₁.setTop (mkF m 61 #[.val (.int cj)] [(.int (1 : Int32))])) target
                refine XS.goto X0.here hx rfl (pc0 := 61) (pc' := 65) rfl (hb hby d_isu_61) (by decide) (by decide) ?_
                show Steps p.tables e below (s₁.setTop (mkF m 65 #[.val (.int cj)] [(.int (1 : Int32))])) target
                exact kt
              obtain ⟨fs, hr, hrun, hended, hW, hsame⟩ := X0.leave (v := some (.int (1 : Int32))) (fun h => by rw [Bd.returns] at h; cases h)
              refine ⟨_, _, retN X0 hx (t := .boolean) Bd.returns (by simp) (hb hby d_isu_65) hr, hrun, hended, _, _, rfl, ?_, ⟨_, rfl⟩, hW, hsame.mono (by decide) (by decide)⟩
              show Q_isu Z cj h0 n0 _ s₁.heap _
              rw [e0]
              exact ⟨(congrArg (fun z => some (Value.int z)) (by first | (simp only [own_unres, hc3, hc15, hc21, hc27, hc33, hc39, not_true_eq_false, not_false_eq_true, and_self, and_true, true_and, and_false, false_and, or_self, or_true, true_or, or_false, false_or, if_true, if_false, ↓reduceIte]; done) | (simp [own_unres, hc3, hc15, hc21, hc27, hc33, hc39]; done))), N0, rfl⟩
            · -- pc 39: no
              refine own_go (S' := s₁.setTop (mkF m 45 #[.val (.int cj)] [(.int (46 : Int32)), (.int cj)])) (fun target kt => ?_) ?_
              · show Steps p.tables e below (s₁.setTop (mkF m 39 #[.val (.int cj)] [(.int (45 : Int32)), (.int cj)])) target
                refine XS.icmpNo X0.here hx rfl (hb hby d_isu_39) rfl (feq hc39).1 ?_
                show Steps p.tables e below (s₁.setTop (mkF m 42 #[.val (.int cj)] [])) target
                refine XS.iloadN X0.here hx rfl (hb hby d_isu_42) rfl ?_
                show Steps p.tables e below (s₁.setTop (mkF m 43 #[.val (.int cj)] [(.int cj)])) target
                refine XS.bipush X0.here hx rfl (hb hby d_isu_43) ?_
                show Steps p.tables e below (s₁.setTop (mkF m 45 #[.val (.int cj)] [(.int (46 : Int32)), (.int cj)])) target
                exact kt
              by_cases hc45 : cj = (46 : Int32)
              · -- pc 45: yes
                refine own_go (S' := s₁.setTop (mkF m 65 #[.val (.int cj)] [(.int (1 : Int32))])) (fun target kt => ?_) ?_
                · show Steps p.tables e below (s₁.setTop (mkF m 45 #[.val (.int cj)] [(.int (46 : Int32)), (.int cj)])) target
                  refine XS.icmpYes X0.here hx rfl (pc0 := 45) (pc' := 60) rfl (hb hby d_isu_45) rfl (teq hc45).1 (by decide) (by decide) ?_
                  show Steps p.tables e below (s₁.setTop (mkF m 60 #[.val (.int cj)] [])) target
                  refine XS.iconst X0.here hx rfl (hb hby d_isu_60) ?_
                  show Steps p.tables e below (s₁.setTop (mkF m 61 #[.val (.int cj)] [(.int (1 : Int32))])) target
                  refine XS.goto X0.here hx rfl (pc0 := 61) (pc' := 65) rfl (hb hby d_isu_61) (by decide) (by decide) ?_
                  show Steps p.tables e below (s₁.setTop (mkF m 65 #[.val (.int cj)] [(.int (1 : Int32))])) target
                  exact kt
                obtain ⟨fs, hr, hrun, hended, hW, hsame⟩ := X0.leave (v := some (.int (1 : Int32))) (fun h => by rw [Bd.returns] at h; cases h)
                refine ⟨_, _, retN X0 hx (t := .boolean) Bd.returns (by simp) (hb hby d_isu_65) hr, hrun, hended, _, _, rfl, ?_, ⟨_, rfl⟩, hW, hsame.mono (by decide) (by decide)⟩
                show Q_isu Z cj h0 n0 _ s₁.heap _
                rw [e0]
                exact ⟨(congrArg (fun z => some (Value.int z)) (by first | (simp only [own_unres, hc3, hc15, hc21, hc27, hc33, hc39, hc45, not_true_eq_false, not_false_eq_true, and_self, and_true, true_and, and_false, false_and, or_self, or_true, true_or, or_false, false_or, if_true, if_false, ↓reduceIte]; done) | (simp [own_unres, hc3, hc15, hc21, hc27, hc33, hc39, hc45]; done))), N0, rfl⟩
              · -- pc 45: no
                refine own_go (S' := s₁.setTop (mkF m 51 #[.val (.int cj)] [(.int (95 : Int32)), (.int cj)])) (fun target kt => ?_) ?_
                · show Steps p.tables e below (s₁.setTop (mkF m 45 #[.val (.int cj)] [(.int (46 : Int32)), (.int cj)])) target
                  refine XS.icmpNo X0.here hx rfl (hb hby d_isu_45) rfl (feq hc45).1 ?_
                  show Steps p.tables e below (s₁.setTop (mkF m 48 #[.val (.int cj)] [])) target
                  refine XS.iloadN X0.here hx rfl (hb hby d_isu_48) rfl ?_
                  show Steps p.tables e below (s₁.setTop (mkF m 49 #[.val (.int cj)] [(.int cj)])) target
                  refine XS.bipush X0.here hx rfl (hb hby d_isu_49) ?_
                  show Steps p.tables e below (s₁.setTop (mkF m 51 #[.val (.int cj)] [(.int (95 : Int32)), (.int cj)])) target
                  exact kt
                by_cases hc51 : cj = (95 : Int32)
                · -- pc 51: yes
                  refine own_go (S' := s₁.setTop (mkF m 65 #[.val (.int cj)] [(.int (1 : Int32))])) (fun target kt => ?_) ?_
                  · show Steps p.tables e below (s₁.setTop (mkF m 51 #[.val (.int cj)] [(.int (95 : Int32)), (.int cj)])) target
                    refine XS.icmpYes X0.here hx rfl (pc0 := 51) (pc' := 60) rfl (hb hby d_isu_51) rfl (teq hc51).1 (by decide) (by decide) ?_
                    show Steps p.tables e below (s₁.setTop (mkF m 60 #[.val (.int cj)] [])) target
                    refine XS.iconst X0.here hx rfl (hb hby d_isu_60) ?_
                    show Steps p.tables e below (s₁.setTop (mkF m 61 #[.val (.int cj)] [(.int (1 : Int32))])) target
                    refine XS.goto X0.here hx rfl (pc0 := 61) (pc' := 65) rfl (hb hby d_isu_61) (by decide) (by decide) ?_
                    show Steps p.tables e below (s₁.setTop (mkF m 65 #[.val (.int cj)] [(.int (1 : Int32))])) target
                    exact kt
                  obtain ⟨fs, hr, hrun, hended, hW, hsame⟩ := X0.leave (v := some (.int (1 : Int32))) (fun h => by rw [Bd.returns] at h; cases h)
                  refine ⟨_, _, retN X0 hx (t := .boolean) Bd.returns (by simp) (hb hby d_isu_65) hr, hrun, hended, _, _, rfl, ?_, ⟨_, rfl⟩, hW, hsame.mono (by decide) (by decide)⟩
                  show Q_isu Z cj h0 n0 _ s₁.heap _
                  rw [e0]
                  exact ⟨(congrArg (fun z => some (Value.int z)) (by first | (simp only [own_unres, hc3, hc15, hc21, hc27, hc33, hc39, hc45, hc51, not_true_eq_false, not_false_eq_true, and_self, and_true, true_and, and_false, false_and, or_self, or_true, true_or, or_false, false_or, if_true, if_false, ↓reduceIte]; done) | (simp [own_unres, hc3, hc15, hc21, hc27, hc33, hc39, hc45, hc51]; done))), N0, rfl⟩
                · -- pc 51: no
                  refine own_go (S' := s₁.setTop (mkF m 57 #[.val (.int cj)] [(.int (126 : Int32)), (.int cj)])) (fun target kt => ?_) ?_
                  · show Steps p.tables e below (s₁.setTop (mkF m 51 #[.val (.int cj)] [(.int (95 : Int32)), (.int cj)])) target
                    refine XS.icmpNo X0.here hx rfl (hb hby d_isu_51) rfl (feq hc51).1 ?_
                    show Steps p.tables e below (s₁.setTop (mkF m 54 #[.val (.int cj)] [])) target
                    refine XS.iloadN X0.here hx rfl (hb hby d_isu_54) rfl ?_
                    show Steps p.tables e below (s₁.setTop (mkF m 55 #[.val (.int cj)] [(.int cj)])) target
                    refine XS.bipush X0.here hx rfl (hb hby d_isu_55) ?_
                    show Steps p.tables e below (s₁.setTop (mkF m 57 #[.val (.int cj)] [(.int (126 : Int32)), (.int cj)])) target
                    exact kt
                  by_cases hc57 : cj = (126 : Int32)
                  · -- pc 57: yes
                    refine own_go (S' := s₁.setTop (mkF m 65 #[.val (.int cj)] [(.int (1 : Int32))])) (fun target kt => ?_) ?_
                    · show Steps p.tables e below (s₁.setTop (mkF m 57 #[.val (.int cj)] [(.int (126 : Int32)), (.int cj)])) target
                      refine XS.icmpNo X0.here hx rfl (hb hby d_isu_57) rfl (teq hc57).2 ?_
                      show Steps p.tables e below (s₁.setTop (mkF m 60 #[.val (.int cj)] [])) target
                      refine XS.iconst X0.here hx rfl (hb hby d_isu_60) ?_
                      show Steps p.tables e below (s₁.setTop (mkF m 61 #[.val (.int cj)] [(.int (1 : Int32))])) target
                      refine XS.goto X0.here hx rfl (pc0 := 61) (pc' := 65) rfl (hb hby d_isu_61) (by decide) (by decide) ?_
                      show Steps p.tables e below (s₁.setTop (mkF m 65 #[.val (.int cj)] [(.int (1 : Int32))])) target
                      exact kt
                    obtain ⟨fs, hr, hrun, hended, hW, hsame⟩ := X0.leave (v := some (.int (1 : Int32))) (fun h => by rw [Bd.returns] at h; cases h)
                    refine ⟨_, _, retN X0 hx (t := .boolean) Bd.returns (by simp) (hb hby d_isu_65) hr, hrun, hended, _, _, rfl, ?_, ⟨_, rfl⟩, hW, hsame.mono (by decide) (by decide)⟩
                    show Q_isu Z cj h0 n0 _ s₁.heap _
                    rw [e0]
                    exact ⟨(congrArg (fun z => some (Value.int z)) (by first | (simp only [own_unres, hc3, hc15, hc21, hc27, hc33, hc39, hc45, hc51, hc57, not_true_eq_false, not_false_eq_true, and_self, and_true, true_and, and_false, false_and, or_self, or_true, true_or, or_false, false_or, if_true, if_false, ↓reduceIte]; done) | (simp [own_unres, hc3, hc15, hc21, hc27, hc33, hc39, hc45, hc51, hc57]; done))), N0, rfl⟩
                  · -- pc 57: no
                    refine own_go (S' := s₁.setTop (mkF m 65 #[.val (.int cj)] [(.int (0 : Int32))])) (fun target kt => ?_) ?_
                    · show Steps p.tables e below (s₁.setTop (mkF m 57 #[.val (.int cj)] [(.int (126 : Int32)), (.int cj)])) target
                      refine XS.icmpYes X0.here hx rfl (pc0 := 57) (pc' := 64) rfl (hb hby d_isu_57) rfl (feq hc57).2 (by decide) (by decide) ?_
                      show Steps p.tables e below (s₁.setTop (mkF m 64 #[.val (.int cj)] [])) target
                      refine XS.iconst X0.here hx rfl (hb hby d_isu_64) ?_
                      show Steps p.tables e below (s₁.setTop (mkF m 65 #[.val (.int cj)] [(.int (0 : Int32))])) target
                      exact kt
                    obtain ⟨fs, hr, hrun, hended, hW, hsame⟩ := X0.leave (v := some (.int (0 : Int32))) (fun h => by rw [Bd.returns] at h; cases h)
                    refine ⟨_, _, retN X0 hx (t := .boolean) Bd.returns (by simp) (hb hby d_isu_65) hr, hrun, hended, _, _, rfl, ?_, ⟨_, rfl⟩, hW, hsame.mono (by decide) (by decide)⟩
                    show Q_isu Z cj h0 n0 _ s₁.heap _
                    rw [e0]
                    exact ⟨(congrArg (fun z => some (Value.int z)) (by first | (simp only [own_unres, hc3, hc15, hc21, hc27, hc33, hc39, hc45, hc51, hc57, not_true_eq_false, not_false_eq_true, and_self, and_true, true_and, and_false, false_and, or_self, or_true, true_or, or_false, false_or, if_true, if_false, ↓reduceIte]; done) | (simp [own_unres, hc3, hc15, hc21, hc27, hc33, hc39, hc45, hc51, hc57]; done))), N0, rfl⟩
          · -- pc 33: no
            refine own_go (S' := s₁.setTop (mkF m 65 #[.val (.int cj)] [(.int (1 : Int32))])) (fun target kt => ?_) ?_
            · show Steps p.tables e below (s₁.setTop (mkF m 33 #[.val (.int cj)] [(.int (57 : Int32)), (.int cj)])) target
              refine XS.icmpYes X0.here hx rfl (pc0 := 33) (pc' := 60) rfl (hb hby d_isu_33) rfl (flt hc33).2.2.2 (by decide) (by decide) ?_
              show Steps p.tables e below (s₁.setTop (mkF m 60 #[.val (.int cj)] [])) target
              refine XS.iconst X0.here hx rfl (hb hby d_isu_60) ?_
              show Steps p.tables e below (s₁.setTop (mkF m 61 #[.val (.int cj)] [(.int (1 : Int32))])) target
              refine XS.goto X0.here hx rfl (pc0 := 61) (pc' := 65) rfl (hb hby d_isu_61) (by decide) (by decide) ?_
              show Steps p.tables e below (s₁.setTop (mkF m 65 #[.val (.int cj)] [(.int (1 : Int32))])) target
              exact kt
            obtain ⟨fs, hr, hrun, hended, hW, hsame⟩ := X0.leave (v := some (.int (1 : Int32))) (fun h => by rw [Bd.returns] at h; cases h)
            refine ⟨_, _, retN X0 hx (t := .boolean) Bd.returns (by simp) (hb hby d_isu_65) hr, hrun, hended, _, _, rfl, ?_, ⟨_, rfl⟩, hW, hsame.mono (by decide) (by decide)⟩
            show Q_isu Z cj h0 n0 _ s₁.heap _
            rw [e0]
            exact ⟨(congrArg (fun z => some (Value.int z)) (by first | (simp only [own_unres, hc3, hc15, hc21, hc27, hc33, not_true_eq_false, not_false_eq_true, and_self, and_true, true_and, and_false, false_and, or_self, or_true, true_or, or_false, false_or, if_true, if_false, ↓reduceIte]; done) | (simp [own_unres, hc3, hc15, hc21, hc27, hc33]; done))), N0, rfl⟩
      · -- pc 21: no
        refine own_go (S' := s₁.setTop (mkF m 65 #[.val (.int cj)] [(.int (1 : Int32))])) (fun target kt => ?_) ?_
        · show Steps p.tables e below (s₁.setTop (mkF m 21 #[.val (.int cj)] [(.int (90 : Int32)), (.int cj)])) target
          refine XS.icmpYes X0.here hx rfl (pc0 := 21) (pc' := 60) rfl (hb hby d_isu_21) rfl (flt hc21).2.2.2 (by decide) (by decide) ?_
          show Steps p.tables e below (s₁.setTop (mkF m 60 #[.val (.int cj)] [])) target
          refine XS.iconst X0.here hx rfl (hb hby d_isu_60) ?_
          show Steps p.tables e below (s₁.setTop (mkF m 61 #[.val (.int cj)] [(.int (1 : Int32))])) target
          refine XS.goto X0.here hx rfl (pc0 := 61) (pc' := 65) rfl (hb hby d_isu_61) (by decide) (by decide) ?_
          show Steps p.tables e below (s₁.setTop (mkF m 65 #[.val (.int cj)] [(.int (1 : Int32))])) target
          exact kt
        obtain ⟨fs, hr, hrun, hended, hW, hsame⟩ := X0.leave (v := some (.int (1 : Int32))) (fun h => by rw [Bd.returns] at h; cases h)
        refine ⟨_, _, retN X0 hx (t := .boolean) Bd.returns (by simp) (hb hby d_isu_65) hr, hrun, hended, _, _, rfl, ?_, ⟨_, rfl⟩, hW, hsame.mono (by decide) (by decide)⟩
        show Q_isu Z cj h0 n0 _ s₁.heap _
        rw [e0]
        exact ⟨(congrArg (fun z => some (Value.int z)) (by first | (simp only [own_unres, hc3, hc15, hc21, not_true_eq_false, not_false_eq_true, and_self, and_true, true_and, and_false, false_and, or_self, or_true, true_or, or_false, false_or, if_true, if_false, ↓reduceIte]; done) | (simp [own_unres, hc3, hc15, hc21]; done))), N0, rfl⟩
  · -- pc 3: no
    refine own_go (S' := s₁.setTop (mkF m 9 #[.val (.int cj)] [(.int (122 : Int32)), (.int cj)])) (fun target kt => ?_) ?_
    · show Steps p.tables e below (s₁.setTop (mkF m 3 #[.val (.int cj)] [(.int (97 : Int32)), (.int cj)])) target
      refine XS.icmpNo X0.here hx rfl (hb hby d_isu_3) rfl (flt hc3).1 ?_
      show Steps p.tables e below (s₁.setTop (mkF m 6 #[.val (.int cj)] [])) target
      refine XS.iloadN X0.here hx rfl (hb hby d_isu_6) rfl ?_
      show Steps p.tables e below (s₁.setTop (mkF m 7 #[.val (.int cj)] [(.int cj)])) target
      refine XS.bipush X0.here hx rfl (hb hby d_isu_7) ?_
      show Steps p.tables e below (s₁.setTop (mkF m 9 #[.val (.int cj)] [(.int (122 : Int32)), (.int cj)])) target
      exact kt
    by_cases hc9 : (122 : Int32) < cj
    · -- pc 9: yes
      refine own_go (S' := s₁.setTop (mkF m 15 #[.val (.int cj)] [(.int (65 : Int32)), (.int cj)])) (fun target kt => ?_) ?_
      · show Steps p.tables e below (s₁.setTop (mkF m 9 #[.val (.int cj)] [(.int (122 : Int32)), (.int cj)])) target
        refine XS.icmpNo X0.here hx rfl (hb hby d_isu_9) rfl (tlt hc9).2.2.2 ?_
        show Steps p.tables e below (s₁.setTop (mkF m 12 #[.val (.int cj)] [])) target
        refine XS.iloadN X0.here hx rfl (hb hby d_isu_12) rfl ?_
        show Steps p.tables e below (s₁.setTop (mkF m 13 #[.val (.int cj)] [(.int cj)])) target
        refine XS.bipush X0.here hx rfl (hb hby d_isu_13) ?_
        show Steps p.tables e below (s₁.setTop (mkF m 15 #[.val (.int cj)] [(.int (65 : Int32)), (.int cj)])) target
        exact kt
      by_cases hc15 : cj < (65 : Int32)
      · -- pc 15: yes
        refine own_go (S' := s₁.setTop (mkF m 27 #[.val (.int cj)] [(.int (48 : Int32)), (.int cj)])) (fun target kt => ?_) ?_
        · show Steps p.tables e below (s₁.setTop (mkF m 15 #[.val (.int cj)] [(.int (65 : Int32)), (.int cj)])) target
          refine XS.icmpYes X0.here hx rfl (pc0 := 15) (pc' := 24) rfl (hb hby d_isu_15) rfl (tlt hc15).1 (by decide) (by decide) ?_
          show Steps p.tables e below (s₁.setTop (mkF m 24 #[.val (.int cj)] [])) target
          refine XS.iloadN X0.here hx rfl (hb hby d_isu_24) rfl ?_
          show Steps p.tables e below (s₁.setTop (mkF m 25 #[.val (.int cj)] [(.int cj)])) target
          refine XS.bipush X0.here hx rfl (hb hby d_isu_25) ?_
          show Steps p.tables e below (s₁.setTop (mkF m 27 #[.val (.int cj)] [(.int (48 : Int32)), (.int cj)])) target
          exact kt
        by_cases hc27 : cj < (48 : Int32)
        · -- pc 27: yes
          refine own_go (S' := s₁.setTop (mkF m 39 #[.val (.int cj)] [(.int (45 : Int32)), (.int cj)])) (fun target kt => ?_) ?_
          · show Steps p.tables e below (s₁.setTop (mkF m 27 #[.val (.int cj)] [(.int (48 : Int32)), (.int cj)])) target
            refine XS.icmpYes X0.here hx rfl (pc0 := 27) (pc' := 36) rfl (hb hby d_isu_27) rfl (tlt hc27).1 (by decide) (by decide) ?_
            show Steps p.tables e below (s₁.setTop (mkF m 36 #[.val (.int cj)] [])) target
            refine XS.iloadN X0.here hx rfl (hb hby d_isu_36) rfl ?_
            show Steps p.tables e below (s₁.setTop (mkF m 37 #[.val (.int cj)] [(.int cj)])) target
            refine XS.bipush X0.here hx rfl (hb hby d_isu_37) ?_
            show Steps p.tables e below (s₁.setTop (mkF m 39 #[.val (.int cj)] [(.int (45 : Int32)), (.int cj)])) target
            exact kt
          by_cases hc39 : cj = (45 : Int32)
          · -- pc 39: yes
            refine own_go (S' := s₁.setTop (mkF m 65 #[.val (.int cj)] [(.int (1 : Int32))])) (fun target kt => ?_) ?_
            · show Steps p.tables e below (s₁.setTop (mkF m 39 #[.val (.int cj)] [(.int (45 : Int32)), (.int cj)])) target
              refine XS.icmpYes X0.here hx rfl (pc0 := 39) (pc' := 60) rfl (hb hby d_isu_39) rfl (teq hc39).1 (by decide) (by decide) ?_
              show Steps p.tables e below (s₁.setTop (mkF m 60 #[.val (.int cj)] [])) target
              refine XS.iconst X0.here hx rfl (hb hby d_isu_60) ?_
              show Steps p.tables e below (s₁.setTop (mkF m 61 #[.val (.int cj)] [(.int (1 : Int32))])) target
              refine XS.goto X0.here hx rfl (pc0 := 61) (pc' := 65) rfl (hb hby d_isu_61) (by decide) (by decide) ?_
              show Steps p.tables e below (s₁.setTop (mkF m 65 #[.val (.int cj)] [(.int (1 : Int32))])) target
              exact kt
            obtain ⟨fs, hr, hrun, hended, hW, hsame⟩ := X0.leave (v := some (.int (1 : Int32))) (fun h => by rw [Bd.returns] at h; cases h)
            refine ⟨_, _, retN X0 hx (t := .boolean) Bd.returns (by simp) (hb hby d_isu_65) hr, hrun, hended, _, _, rfl, ?_, ⟨_, rfl⟩, hW, hsame.mono (by decide) (by decide)⟩
            show Q_isu Z cj h0 n0 _ s₁.heap _
            rw [e0]
            exact ⟨(congrArg (fun z => some (Value.int z)) (by first | (simp only [own_unres, hc3, hc9, hc15, hc27, hc39, not_true_eq_false, not_false_eq_true, and_self, and_true, true_and, and_false, false_and, or_self, or_true, true_or, or_false, false_or, if_true, if_false, ↓reduceIte]; done) | (simp [own_unres, hc3, hc9, hc15, hc27, hc39]; done))), N0, rfl⟩
          · -- pc 39: no
            refine own_go (S' := s₁.setTop (mkF m 45 #[.val (.int cj)] [(.int (46 : Int32)), (.int cj)])) (fun target kt => ?_) ?_
            · show Steps p.tables e below (s₁.setTop (mkF m 39 #[.val (.int cj)] [(.int (45 : Int32)), (.int cj)])) target
              refine XS.icmpNo X0.here hx rfl (hb hby d_isu_39) rfl (feq hc39).1 ?_
              show Steps p.tables e below (s₁.setTop (mkF m 42 #[.val (.int cj)] [])) target
              refine XS.iloadN X0.here hx rfl (hb hby d_isu_42) rfl ?_
              show Steps p.tables e below (s₁.setTop (mkF m 43 #[.val (.int cj)] [(.int cj)])) target
              refine XS.bipush X0.here hx rfl (hb hby d_isu_43) ?_
              show Steps p.tables e below (s₁.setTop (mkF m 45 #[.val (.int cj)] [(.int (46 : Int32)), (.int cj)])) target
              exact kt
            by_cases hc45 : cj = (46 : Int32)
            · -- pc 45: yes
              refine own_go (S' := s₁.setTop (mkF m 65 #[.val (.int cj)] [(.int (1 : Int32))])) (fun target kt => ?_) ?_
              · show Steps p.tables e below (s₁.setTop (mkF m 45 #[.val (.int cj)] [(.int (46 : Int32)), (.int cj)])) target
                refine XS.icmpYes X0.here hx rfl (pc0 := 45) (pc' := 60) rfl (hb hby d_isu_45) rfl (teq hc45).1 (by decide) (by decide) ?_
                show Steps p.tables e below (s₁.setTop (mkF m 60 #[.val (.int cj)] [])) target
                refine XS.iconst X0.here hx rfl (hb hby d_isu_60) ?_
                show Steps p.tables e below (s₁.setTop (mkF m 61 #[.val (.int cj)] [(.int (1 : Int32))])) target
                refine XS.goto X0.here hx rfl (pc0 := 61) (pc' := 65) rfl (hb hby d_isu_61) (by decide) (by decide) ?_
                show Steps p.tables e below (s₁.setTop (mkF m 65 #[.val (.int cj)] [(.int (1 : Int32))])) target
                exact kt
              obtain ⟨fs, hr, hrun, hended, hW, hsame⟩ := X0.leave (v := some (.int (1 : Int32))) (fun h => by rw [Bd.returns] at h; cases h)
              refine ⟨_, _, retN X0 hx (t := .boolean) Bd.returns (by simp) (hb hby d_isu_65) hr, hrun, hended, _, _, rfl, ?_, ⟨_, rfl⟩, hW, hsame.mono (by decide) (by decide)⟩
              show Q_isu Z cj h0 n0 _ s₁.heap _
              rw [e0]
              exact ⟨(congrArg (fun z => some (Value.int z)) (by first | (simp only [own_unres, hc3, hc9, hc15, hc27, hc39, hc45, not_true_eq_false, not_false_eq_true, and_self, and_true, true_and, and_false, false_and, or_self, or_true, true_or, or_false, false_or, if_true, if_false, ↓reduceIte]; done) | (simp [own_unres, hc3, hc9, hc15, hc27, hc39, hc45]; done))), N0, rfl⟩
            · -- pc 45: no
              refine own_go (S' := s₁.setTop (mkF m 51 #[.val (.int cj)] [(.int (95 : Int32)), (.int cj)])) (fun target kt => ?_) ?_
              · show Steps p.tables e below (s₁.setTop (mkF m 45 #[.val (.int cj)] [(.int (46 : Int32)), (.int cj)])) target
                refine XS.icmpNo X0.here hx rfl (hb hby d_isu_45) rfl (feq hc45).1 ?_
                show Steps p.tables e below (s₁.setTop (mkF m 48 #[.val (.int cj)] [])) target
                refine XS.iloadN X0.here hx rfl (hb hby d_isu_48) rfl ?_
                show Steps p.tables e below (s₁.setTop (mkF m 49 #[.val (.int cj)] [(.int cj)])) target
                refine XS.bipush X0.here hx rfl (hb hby d_isu_49) ?_
                show Steps p.tables e below (s₁.setTop (mkF m 51 #[.val (.int cj)] [(.int (95 : Int32)), (.int cj)])) target
                exact kt
              by_cases hc51 : cj = (95 : Int32)
              · -- pc 51: yes
                refine own_go (S' := s₁.setTop (mkF m 65 #[.val (.int cj)] [(.int (1 : Int32))])) (fun target kt => ?_) ?_
                · show Steps p.tables e below (s₁.setTop (mkF m 51 #[.val (.int cj)] [(.int (95 : Int32)), (.int cj)])) target
                  refine XS.icmpYes X0.here hx rfl (pc0 := 51) (pc' := 60) rfl (hb hby d_isu_51) rfl (teq hc51).1 (by decide) (by decide) ?_
                  show Steps p.tables e below (s₁.setTop (mkF m 60 #[.val (.int cj)] [])) target
                  refine XS.iconst X0.here hx rfl (hb hby d_isu_60) ?_
                  show Steps p.tables e below (s₁.setTop (mkF m 61 #[.val (.int cj)] [(.int (1 : Int32))])) target
                  refine XS.goto X0.here hx rfl (pc0 := 61) (pc' := 65) rfl (hb hby d_isu_61) (by decide) (by decide) ?_
                  show Steps p.tables e below (s₁.setTop (mkF m 65 #[.val (.int cj)] [(.int (1 : Int32))])) target
                  exact kt
                obtain ⟨fs, hr, hrun, hended, hW, hsame⟩ := X0.leave (v := some (.int (1 : Int32))) (fun h => by rw [Bd.returns] at h; cases h)
                refine ⟨_, _, retN X0 hx (t := .boolean) Bd.returns (by simp) (hb hby d_isu_65) hr, hrun, hended, _, _, rfl, ?_, ⟨_, rfl⟩, hW, hsame.mono (by decide) (by decide)⟩
                show Q_isu Z cj h0 n0 _ s₁.heap _
                rw [e0]
                exact ⟨(congrArg (fun z => some (Value.int z)) (by first | (simp only [own_unres, hc3, hc9, hc15, hc27, hc39, hc45, hc51, not_true_eq_false, not_false_eq_true, and_self, and_true, true_and, and_false, false_and, or_self, or_true, true_or, or_false, false_or, if_true, if_false, ↓reduceIte]; done) | (simp [own_unres, hc3, hc9, hc15, hc27, hc39, hc45, hc51]; done))), N0, rfl⟩
              · -- pc 51: no
                refine own_go (S' := s₁.setTop (mkF m 57 #[.val (.int cj)] [(.int (126 : Int32)), (.int cj)])) (fun target kt => ?_) ?_
                · show Steps p.tables e below (s₁.setTop (mkF m 51 #[.val (.int cj)] [(.int (95 : Int32)), (.int cj)])) target
                  refine XS.icmpNo X0.here hx rfl (hb hby d_isu_51) rfl (feq hc51).1 ?_
                  show Steps p.tables e below (s₁.setTop (mkF m 54 #[.val (.int cj)] [])) target
                  refine XS.iloadN X0.here hx rfl (hb hby d_isu_54) rfl ?_
                  show Steps p.tables e below (s₁.setTop (mkF m 55 #[.val (.int cj)] [(.int cj)])) target
                  refine XS.bipush X0.here hx rfl (hb hby d_isu_55) ?_
                  show Steps p.tables e below (s₁.setTop (mkF m 57 #[.val (.int cj)] [(.int (126 : Int32)), (.int cj)])) target
                  exact kt
                by_cases hc57 : cj = (126 : Int32)
                · -- pc 57: yes
                  refine own_go (S' := s₁.setTop (mkF m 65 #[.val (.int cj)] [(.int (1 : Int32))])) (fun target kt => ?_) ?_
                  · show Steps p.tables e below (s₁.setTop (mkF m 57 #[.val (.int cj)] [(.int (126 : Int32)), (.int cj)])) target
                    refine XS.icmpNo X0.here hx rfl (hb hby d_isu_57) rfl (teq hc57).2 ?_
                    show Steps p.tables e below (s₁.setTop (mkF m 60 #[.val (.int cj)] [])) target
                    refine XS.iconst X0.here hx rfl (hb hby d_isu_60) ?_
                    show Steps p.tables e below (s₁.setTop (mkF m 61 #[.val (.int cj)] [(.int (1 : Int32))])) target
                    refine XS.goto X0.here hx rfl (pc0 := 61) (pc' := 65) rfl (hb hby d_isu_61) (by decide) (by decide) ?_
                    show Steps p.tables e below (s₁.setTop (mkF m 65 #[.val (.int cj)] [(.int (1 : Int32))])) target
                    exact kt
                  obtain ⟨fs, hr, hrun, hended, hW, hsame⟩ := X0.leave (v := some (.int (1 : Int32))) (fun h => by rw [Bd.returns] at h; cases h)
                  refine ⟨_, _, retN X0 hx (t := .boolean) Bd.returns (by simp) (hb hby d_isu_65) hr, hrun, hended, _, _, rfl, ?_, ⟨_, rfl⟩, hW, hsame.mono (by decide) (by decide)⟩
                  show Q_isu Z cj h0 n0 _ s₁.heap _
                  rw [e0]
                  exact ⟨(congrArg (fun z => some (Value.int z)) (by first | (simp only [own_unres, hc3, hc9, hc15, hc27, hc39, hc45, hc51, hc57, not_true_eq_false, not_false_eq_true, and_self, and_true, true_and, and_false, false_and, or_self, or_true, true_or, or_false, false_or, if_true, if_false, ↓reduceIte]; done) | (simp [own_unres, hc3, hc9, hc15, hc27, hc39, hc45, hc51, hc57]; done))), N0, rfl⟩
                · -- pc 57: no
                  refine own_go (S' := s₁.setTop (mkF m 65 #[.val (.int cj)] [(.int (0 : Int32))])) (fun target kt => ?_) ?_
                  · show Steps p.tables e below (s₁.setTop (mkF m 57 #[.val (.int cj)] [(.int (126 : Int32)), (.int cj)])) target
                    refine XS.icmpYes X0.here hx rfl (pc0 := 57) (pc' := 64) rfl (hb hby d_isu_57) rfl (feq hc57).2 (by decide) (by decide) ?_
                    show Steps p.tables e below (s₁.setTop (mkF m 64 #[.val (.int cj)] [])) target
                    refine XS.iconst X0.here hx rfl (hb hby d_isu_64) ?_
                    show Steps p.tables e below (s₁.setTop (mkF m 65 #[.val (.int cj)] [(.int (0 : Int32))])) target
                    exact kt
                  obtain ⟨fs, hr, hrun, hended, hW, hsame⟩ := X0.leave (v := some (.int (0 : Int32))) (fun h => by rw [Bd.returns] at h; cases h)
                  refine ⟨_, _, retN X0 hx (t := .boolean) Bd.returns (by simp) (hb hby d_isu_65) hr, hrun, hended, _, _, rfl, ?_, ⟨_, rfl⟩, hW, hsame.mono (by decide) (by decide)⟩
                  show Q_isu Z cj h0 n0 _ s₁.heap _
                  rw [e0]
                  exact ⟨(congrArg (fun z => some (Value.int z)) (by first | (simp only [own_unres, hc3, hc9, hc15, hc27, hc39, hc45, hc51, hc57, not_true_eq_false, not_false_eq_true, and_self, and_true, true_and, and_false, false_and, or_self, or_true, true_or, or_false, false_or, if_true, if_false, ↓reduceIte]; done) | (simp [own_unres, hc3, hc9, hc15, hc27, hc39, hc45, hc51, hc57]; done))), N0, rfl⟩
        · -- pc 27: no
          refine own_go (S' := s₁.setTop (mkF m 33 #[.val (.int cj)] [(.int (57 : Int32)), (.int cj)])) (fun target kt => ?_) ?_
          · show Steps p.tables e below (s₁.setTop (mkF m 27 #[.val (.int cj)] [(.int (48 : Int32)), (.int cj)])) target
            refine XS.icmpNo X0.here hx rfl (hb hby d_isu_27) rfl (flt hc27).1 ?_
            show Steps p.tables e below (s₁.setTop (mkF m 30 #[.val (.int cj)] [])) target
            refine XS.iloadN X0.here hx rfl (hb hby d_isu_30) rfl ?_
            show Steps p.tables e below (s₁.setTop (mkF m 31 #[.val (.int cj)] [(.int cj)])) target
            refine XS.bipush X0.here hx rfl (hb hby d_isu_31) ?_
            show Steps p.tables e below (s₁.setTop (mkF m 33 #[.val (.int cj)] [(.int (57 : Int32)), (.int cj)])) target
            exact kt
          by_cases hc33 : (57 : Int32) < cj
          · -- pc 33: yes
            refine own_go (S' := s₁.setTop (mkF m 39 #[.val (.int cj)] [(.int (45 : Int32)), (.int cj)])) (fun target kt => ?_) ?_
            · show Steps p.tables e below (s₁.setTop (mkF m 33 #[.val (.int cj)] [(.int (57 : Int32)), (.int cj)])) target
              refine XS.icmpNo X0.here hx rfl (hb hby d_isu_33) rfl (tlt hc33).2.2.2 ?_
              show Steps p.tables e below (s₁.setTop (mkF m 36 #[.val (.int cj)] [])) target
              refine XS.iloadN X0.here hx rfl (hb hby d_isu_36) rfl ?_
              show Steps p.tables e below (s₁.setTop (mkF m 37 #[.val (.int cj)] [(.int cj)])) target
              refine XS.bipush X0.here hx rfl (hb hby d_isu_37) ?_
              show Steps p.tables e below (s₁.setTop (mkF m 39 #[.val (.int cj)] [(.int (45 : Int32)), (.int cj)])) target
              exact kt
            by_cases hc39 : cj = (45 : Int32)
            · -- pc 39: yes
              refine own_go (S' := s₁.setTop (mkF m 65 #[.val (.int cj)] [(.int (1 : Int32))])) (fun target kt => ?_) ?_
              · show Steps p.tables e below (s₁.setTop (mkF m 39 #[.val (.int cj)] [(.int (45 : Int32)), (.int cj)])) target
                refine XS.icmpYes X0.here hx rfl (pc0 := 39) (pc' := 60) rfl (hb hby d_isu_39) rfl (teq hc39).1 (by decide) (by decide) ?_
                show Steps p.tables e below (s₁.setTop (mkF m 60 #[.val (.int cj)] [])) target
                refine XS.iconst X0.here hx rfl (hb hby d_isu_60) ?_
                show Steps p.tables e below (s₁.setTop (mkF m 61 #[.val (.int cj)] [(.int (1 : Int32))])) target
                refine XS.goto X0.here hx rfl (pc0 := 61) (pc' := 65) rfl (hb hby d_isu_61) (by decide) (by decide) ?_
                show Steps p.tables e below (s₁.setTop (mkF m 65 #[.val (.int cj)] [(.int (1 : Int32))])) target
                exact kt
              obtain ⟨fs, hr, hrun, hended, hW, hsame⟩ := X0.leave (v := some (.int (1 : Int32))) (fun h => by rw [Bd.returns] at h; cases h)
              refine ⟨_, _, retN X0 hx (t := .boolean) Bd.returns (by simp) (hb hby d_isu_65) hr, hrun, hended, _, _, rfl, ?_, ⟨_, rfl⟩, hW, hsame.mono (by decide) (by decide)⟩
              show Q_isu Z cj h0 n0 _ s₁.heap _
              rw [e0]
              exact ⟨(congrArg (fun z => some (Value.int z)) (by first | (simp only [own_unres, hc3, hc9, hc15, hc27, hc33, hc39, not_true_eq_false, not_false_eq_true, and_self, and_true, true_and, and_false, false_and, or_self, or_true, true_or, or_false, false_or, if_true, if_false, ↓reduceIte]; done) | (simp [own_unres, hc3, hc9, hc15, hc27, hc33, hc39]; done))), N0, rfl⟩
            · -- pc 39: no
              refine own_go (S' := s₁.setTop (mkF m 45 #[.val (.int cj)] [(.int (46 : Int32)), (.int cj)])) (fun target kt => ?_) ?_
              · show Steps p.tables e below (s₁.setTop (mkF m 39 #[.val (.int cj)] [(.int (45 : Int32)), (.int cj)])) target
                refine XS.icmpNo X0.here hx rfl (hb hby d_isu_39) rfl (feq hc39).1 ?_
                show Steps p.tables e below (s₁.setTop (mkF m 42 #[.val (.int cj)] [])) target
                refine XS.iloadN X0.here hx rfl (hb hby d_isu_42) rfl ?_
                show Steps p.tables e below (s₁.setTop (mkF m 43 #[.val (.int cj)] [(.int cj)])) target
                refine XS.bipush X0.here hx rfl (hb hby d_isu_43) ?_
                show Steps p.tables e below (s₁.setTop (mkF m 45 #[.val (.int cj)] [(.int (46 : Int32)), (.int cj)])) target
                exact kt
              by_cases hc45 : cj = (46 : Int32)
              · -- pc 45: yes
                refine own_go (S' := s₁.setTop (mkF m 65 #[.val (.int cj)] [(.int (1 : Int32))])) (fun target kt => ?_) ?_
                · show Steps p.tables e below (s₁.setTop (mkF m 45 #[.val (.int cj)] [(.int (46 : Int32)), (.int cj)])) target
                  refine XS.icmpYes X0.here hx rfl (pc0 := 45) (pc' := 60) rfl (hb hby d_isu_45) rfl (teq hc45).1 (by decide) (by decide) ?_
                  show Steps p.tables e below (s₁.setTop (mkF m 60 #[.val (.int cj)] [])) target
                  refine XS.iconst X0.here hx rfl (hb hby d_isu_60) ?_
                  show Steps p.tables e below (s₁.setTop (mkF m 61 #[.val (.int cj)] [(.int (1 : Int32))])) target
                  refine XS.goto X0.here hx rfl (pc0 := 61) (pc' := 65) rfl (hb hby d_isu_61) (by decide) (by decide) ?_
                  show Steps p.tables e below (s₁.setTop (mkF m 65 #[.val (.int cj)] [(.int (1 : Int32))])) target
                  exact kt
                obtain ⟨fs, hr, hrun, hended, hW, hsame⟩ := X0.leave (v := some (.int (1 : Int32))) (fun h => by rw [Bd.returns] at h; cases h)
                refine ⟨_, _, retN X0 hx (t := .boolean) Bd.returns (by simp) (hb hby d_isu_65) hr, hrun, hended, _, _, rfl, ?_, ⟨_, rfl⟩, hW, hsame.mono (by decide) (by decide)⟩
                show Q_isu Z cj h0 n0 _ s₁.heap _
                rw [e0]
                exact ⟨(congrArg (fun z => some (Value.int z)) (by first | (simp only [own_unres, hc3, hc9, hc15, hc27, hc33, hc39, hc45, not_true_eq_false, not_false_eq_true, and_self, and_true, true_and, and_false, false_and, or_self, or_true, true_or, or_false, false_or, if_true, if_false, ↓reduceIte]; done) | (simp [own_unres, hc3, hc9, hc15, hc27, hc33, hc39, hc45]; done))), N0, rfl⟩
              · -- pc 45: no
                refine own_go (S' := s₁.setTop (mkF m 51 #[.val (.int cj)] [(.int (95 : Int32)), (.int cj)])) (fun target kt => ?_) ?_
                · show Steps p.tables e below (s₁.setTop (mkF m 45 #[.val (.int cj)] [(.int (46 : Int32)), (.int cj)])) target
                  refine XS.icmpNo X0.here hx rfl (hb hby d_isu_45) rfl (feq hc45).1 ?_
                  show Steps p.tables e below (s₁.setTop (mkF m 48 #[.val (.int cj)] [])) target
                  refine XS.iloadN X0.here hx rfl (hb hby d_isu_48) rfl ?_
                  show Steps p.tables e below (s₁.setTop (mkF m 49 #[.val (.int cj)] [(.int cj)])) target
                  refine XS.bipush X0.here hx rfl (hb hby d_isu_49) ?_
                  show Steps p.tables e below (s₁.setTop (mkF m 51 #[.val (.int cj)] [(.int (95 : Int32)), (.int cj)])) target
                  exact kt
                by_cases hc51 : cj = (95 : Int32)
                · -- pc 51: yes
                  refine own_go (S' := s₁.setTop (mkF m 65 #[.val (.int cj)] [(.int (1 : Int32))])) (fun target kt => ?_) ?_
                  · show Steps p.tables e below (s₁.setTop (mkF m 51 #[.val (.int cj)] [(.int (95 : Int32)), (.int cj)])) target
                    refine XS.icmpYes X0.here hx rfl (pc0 := 51) (pc' := 60) rfl (hb hby d_isu_51) rfl (teq hc51).1 (by decide) (by decide) ?_
                    show Steps p.tables e below (s₁.setTop (mkF m 60 #[.val (.int cj)] [])) target
                    refine XS.iconst X0.here hx rfl (hb hby d_isu_60) ?_
                    show Steps p.tables e below (s₁.setTop (mkF m 61 #[.val (.int cj)] [(.int (1 : Int32))])) target
                    refine XS.goto X0.here hx rfl (pc0 := 61) (pc' := 65) rfl (hb hby d_isu_61) (by decide) (by decide) ?_
                    show Steps p.tables e below (s₁.setTop (mkF m 65 #[.val (.int cj)] [(.int (1 : Int32))])) target
                    exact kt
                  obtain ⟨fs, hr, hrun, hended, hW, hsame⟩ := X0.leave (v := some (.int (1 : Int32))) (fun h => by rw [Bd.returns] at h; cases h)
                  refine ⟨_, _, retN X0 hx (t := .boolean) Bd.returns (by simp) (hb hby d_isu_65) hr, hrun, hended, _, _, rfl, ?_, ⟨_, rfl⟩, hW, hsame.mono (by decide) (by decide)⟩
                  show Q_isu Z cj h0 n0 _ s₁.heap _
                  rw [e0]
                  exact ⟨(congrArg (fun z => some (Value.int z)) (by first | (simp only [own_unres, hc3, hc9, hc15, hc27, hc33, hc39, hc45, hc51, not_true_eq_false, not_false_eq_true, and_self, and_true, true_and, and_false, false_and, or_self, or_true, true_or, or_false, false_or, if_true, if_false, ↓reduceIte]; done) | (simp [own_unres, hc3, hc9, hc15, hc27, hc33, hc39, hc45, hc51]; done))), N0, rfl⟩
                · -- pc 51: no
                  refine own_go (S' := s₁.setTop (mkF m 57 #[.val (.int cj)] [(.int (126 : Int32)), (.int cj)])) (fun target kt => ?_) ?_
                  · show Steps p.tables e below (s₁.setTop (mkF m 51 #[.val (.int cj)] [(.int (95 : Int32)), (.int cj)])) target
                    refine XS.icmpNo X0.here hx rfl (hb hby d_isu_51) rfl (feq hc51).1 ?_
                    show Steps p.tables e below (s₁.setTop (mkF m 54 #[.val (.int cj)] [])) target
                    refine XS.iloadN X0.here hx rfl (hb hby d_isu_54) rfl ?_
                    show Steps p.tables e below (s₁.setTop (mkF m 55 #[.val (.int cj)] [(.int cj)])) target
                    refine XS.bipush X0.here hx rfl (hb hby d_isu_55) ?_
                    show Steps p.tables e below (s₁.setTop (mkF m 57 #[.val (.int cj)] [(.int (126 : Int32)), (.int cj)])) target
                    exact kt
                  by_cases hc57 : cj = (126 : Int32)
                  · -- pc 57: yes
                    refine own_go (S' := s₁.setTop (mkF m 65 #[.val (.int cj)] [(.int (1 : Int32))])) (fun target kt => ?_) ?_
                    · show Steps p.tables e below (s₁.setTop (mkF m 57 #[.val (.int cj)] [(.int (126 : Int32)), (.int cj)])) target
                      refine XS.icmpNo X0.here hx rfl (hb hby d_isu_57) rfl (teq hc57).2 ?_
                      show Steps p.tables e below (s₁.setTop (mkF m 60 #[.val (.int cj)] [])) target
                      refine XS.iconst X0.here hx rfl (hb hby d_isu_60) ?_
                      show Steps p.tables e below (s₁.setTop (mkF m 61 #[.val (.int cj)] [(.int (1 : Int32))])) target
                      refine XS.goto X0.here hx rfl (pc0 := 61) (pc' := 65) rfl (hb hby d_isu_61) (by decide) (by decide) ?_
                      show Steps p.tables e below (s₁.setTop (mkF m 65 #[.val (.int cj)] [(.int (1 : Int32))])) target
                      exact kt
                    obtain ⟨fs, hr, hrun, hended, hW, hsame⟩ := X0.leave (v := some (.int (1 : Int32))) (fun h => by rw [Bd.returns] at h; cases h)
                    refine ⟨_, _, retN X0 hx (t := .boolean) Bd.returns (by simp) (hb hby d_isu_65) hr, hrun, hended, _, _, rfl, ?_, ⟨_, rfl⟩, hW, hsame.mono (by decide) (by decide)⟩
                    show Q_isu Z cj h0 n0 _ s₁.heap _
                    rw [e0]
                    exact ⟨(congrArg (fun z => some (Value.int z)) (by first | (simp only [own_unres, hc3, hc9, hc15, hc27, hc33, hc39, hc45, hc51, hc57, not_true_eq_false, not_false_eq_true, and_self, and_true, true_and, and_false, false_and, or_self, or_true, true_or, or_false, false_or, if_true, if_false, ↓reduceIte]; done) | (simp [own_unres, hc3, hc9, hc15, hc27, hc33, hc39, hc45, hc51, hc57]; done))), N0, rfl⟩
                  · -- pc 57: no
                    refine own_go (S' := s₁.setTop (mkF m 65 #[.val (.int cj)] [(.int (0 : Int32))])) (fun target kt => ?_) ?_
                    · show Steps p.tables e below (s₁.setTop (mkF m 57 #[.val (.int cj)] [(.int (126 : Int32)), (.int cj)])) target
                      refine XS.icmpYes X0.here hx rfl (pc0 := 57) (pc' := 64) rfl (hb hby d_isu_57) rfl (feq hc57).2 (by decide) (by decide) ?_
                      show Steps p.tables e below (s₁.setTop (mkF m 64 #[.val (.int cj)] [])) target
                      refine XS.iconst X0.here hx rfl (hb hby d_isu_64) ?_
                      show Steps p.tables e below (s₁.setTop (mkF m 65 #[.val (.int cj)] [(.int (0 : Int32))])) target
                      exact kt
                    obtain ⟨fs, hr, hrun, hended, hW, hsame⟩ := X0.leave (v := some (.int (0 : Int32))) (fun h => by rw [Bd.returns] at h; cases h)
                    refine ⟨_, _, retN X0 hx (t := .boolean) Bd.returns (by simp) (hb hby d_isu_65) hr, hrun, hended, _, _, rfl, ?_, ⟨_, rfl⟩, hW, hsame.mono (by decide) (by decide)⟩
                    show Q_isu Z cj h0 n0 _ s₁.heap _
                    rw [e0]
                    exact ⟨(congrArg (fun z => some (Value.int z)) (by first | (simp only [own_unres, hc3, hc9, hc15, hc27, hc33, hc39, hc45, hc51, hc57, not_true_eq_false, not_false_eq_true, and_self, and_true, true_and, and_false, false_and, or_self, or_true, true_or, or_false, false_or, if_true, if_false, ↓reduceIte]; done) | (simp [own_unres, hc3, hc9, hc15, hc27, hc33, hc39, hc45, hc51, hc57]; done))), N0, rfl⟩
          · -- pc 33: no
            refine own_go (S' := s₁.setTop (mkF m 65 #[.val (.int cj)] [(.int (1 : Int32))])) (fun target kt => ?_) ?_
            · show Steps p.tables e below (s₁.setTop (mkF m 33 #[.val (.int cj)] [(.int (57 : Int32)), (.int cj)])) target
              refine XS.icmpYes X0.here hx rfl (pc0 := 33) (pc' := 60) rfl (hb hby d_isu_33) rfl (flt hc33).2.2.2 (by decide) (by decide) ?_
              show Steps p.tables e below (s₁.setTop (mkF m 60 #[.val (.int cj)] [])) target
              refine XS.iconst X0.here hx rfl (hb hby d_isu_60) ?_
              show Steps p.tables e below (s₁.setTop (mkF m 61 #[.val (.int cj)] [(.int (1 : Int32))])) target
              refine XS.goto X0.here hx rfl (pc0 := 61) (pc' := 65) rfl (hb hby d_isu_61) (by decide) (by decide) ?_
              show Steps p.tables e below (s₁.setTop (mkF m 65 #[.val (.int cj)] [(.int (1 : Int32))])) target
              exact kt
            obtain ⟨fs, hr, hrun, hended, hW, hsame⟩ := X0.leave (v := some (.int (1 : Int32))) (fun h => by rw [Bd.returns] at h; cases h)
            refine ⟨_, _, retN X0 hx (t := .boolean) Bd.returns (by simp) (hb hby d_isu_65) hr, hrun, hended, _, _, rfl, ?_, ⟨_, rfl⟩, hW, hsame.mono (by decide) (by decide)⟩
            show Q_isu Z cj h0 n0 _ s₁.heap _
            rw [e0]
            exact ⟨(congrArg (fun z => some (Value.int z)) (by first | (simp only [own_unres, hc3, hc9, hc15, hc27, hc33, not_true_eq_false, not_false_eq_true, and_self, and_true, true_and, and_false, false_and, or_self, or_true, true_or, or_false, false_or, if_true, if_false, ↓reduceIte]; done) | (simp [own_unres, hc3, hc9, hc15, hc27, hc33]; done))), N0, rfl⟩
      · -- pc 15: no
        refine own_go (S' := s₁.setTop (mkF m 21 #[.val (.int cj)] [(.int (90 : Int32)), (.int cj)])) (fun target kt => ?_) ?_
        · show Steps p.tables e below (s₁.setTop (mkF m 15 #[.val (.int cj)] [(.int (65 : Int32)), (.int cj)])) target
          refine XS.icmpNo X0.here hx rfl (hb hby d_isu_15) rfl (flt hc15).1 ?_
          show Steps p.tables e below (s₁.setTop (mkF m 18 #[.val (.int cj)] [])) target
          refine XS.iloadN X0.here hx rfl (hb hby d_isu_18) rfl ?_
          show Steps p.tables e below (s₁.setTop (mkF m 19 #[.val (.int cj)] [(.int cj)])) target
          refine XS.bipush X0.here hx rfl (hb hby d_isu_19) ?_
          show Steps p.tables e below (s₁.setTop (mkF m 21 #[.val (.int cj)] [(.int (90 : Int32)), (.int cj)])) target
          exact kt
        by_cases hc21 : (90 : Int32) < cj
        · -- pc 21: yes
          refine own_go (S' := s₁.setTop (mkF m 27 #[.val (.int cj)] [(.int (48 : Int32)), (.int cj)])) (fun target kt => ?_) ?_
          · show Steps p.tables e below (s₁.setTop (mkF m 21 #[.val (.int cj)] [(.int (90 : Int32)), (.int cj)])) target
            refine XS.icmpNo X0.here hx rfl (hb hby d_isu_21) rfl (tlt hc21).2.2.2 ?_
            show Steps p.tables e below (s₁.setTop (mkF m 24 #[.val (.int cj)] [])) target
            refine XS.iloadN X0.here hx rfl (hb hby d_isu_24) rfl ?_
            show Steps p.tables e below (s₁.setTop (mkF m 25 #[.val (.int cj)] [(.int cj)])) target
            refine XS.bipush X0.here hx rfl (hb hby d_isu_25) ?_
            show Steps p.tables e below (s₁.setTop (mkF m 27 #[.val (.int cj)] [(.int (48 : Int32)), (.int cj)])) target
            exact kt
          by_cases hc27 : cj < (48 : Int32)
          · -- pc 27: yes
            refine own_go (S' := s₁.setTop (mkF m 39 #[.val (.int cj)] [(.int (45 : Int32)), (.int cj)])) (fun target kt => ?_) ?_
            · show Steps p.tables e below (s₁.setTop (mkF m 27 #[.val (.int cj)] [(.int (48 : Int32)), (.int cj)])) target
              refine XS.icmpYes X0.here hx rfl (pc0 := 27) (pc' := 36) rfl (hb hby d_isu_27) rfl (tlt hc27).1 (by decide) (by decide) ?_
              show Steps p.tables e below (s₁.setTop (mkF m 36 #[.val (.int cj)] [])) target
              refine XS.iloadN X0.here hx rfl (hb hby d_isu_36) rfl ?_
              show Steps p.tables e below (s₁.setTop (mkF m 37 #[.val (.int cj)] [(.int cj)])) target
              refine XS.bipush X0.here hx rfl (hb hby d_isu_37) ?_
              show Steps p.tables e below (s₁.setTop (mkF m 39 #[.val (.int cj)] [(.int (45 : Int32)), (.int cj)])) target
              exact kt
            by_cases hc39 : cj = (45 : Int32)
            · -- pc 39: yes
              refine own_go (S' := s₁.setTop (mkF m 65 #[.val (.int cj)] [(.int (1 : Int32))])) (fun target kt => ?_) ?_
              · show Steps p.tables e below (s₁.setTop (mkF m 39 #[.val (.int cj)] [(.int (45 : Int32)), (.int cj)])) target
                refine XS.icmpYes X0.here hx rfl (pc0 := 39) (pc' := 60) rfl (hb hby d_isu_39) rfl (teq hc39).1 (by decide) (by decide) ?_
                show Steps p.tables e below (s₁.setTop (mkF m 60 #[.val (.int cj)] [])) target
                refine XS.iconst X0.here hx rfl (hb hby d_isu_60) ?_
                show Steps p.tables e below (s₁.setTop (mkF m 61 #[.val (.int cj)] [(.int (1 : Int32))])) target
                refine XS.goto X0.here hx rfl (pc0 := 61) (pc' := 65) rfl (hb hby d_isu_61) (by decide) (by decide) ?_
                show Steps p.tables e below (s₁.setTop (mkF m 65 #[.val (.int cj)] [(.int (1 : Int32))])) target
                exact kt
              obtain ⟨fs, hr, hrun, hended, hW, hsame⟩ := X0.leave (v := some (.int (1 : Int32))) (fun h => by rw [Bd.returns] at h; cases h)
              refine ⟨_, _, retN X0 hx (t := .boolean) Bd.returns (by simp) (hb hby d_isu_65) hr, hrun, hended, _, _, rfl, ?_, ⟨_, rfl⟩, hW, hsame.mono (by decide) (by decide)⟩
              show Q_isu Z cj h0 n0 _ s₁.heap _
              rw [e0]
              exact ⟨(congrArg (fun z => some (Value.int z)) (by first | (simp only [own_unres, hc3, hc9, hc15, hc21, hc27, hc39, not_true_eq_false, not_false_eq_true, and_self, and_true, true_and, and_false, false_and, or_self, or_true, true_or, or_false, false_or, if_true, if_false, ↓reduceIte]; done) | (simp [own_unres, hc3, hc9, hc15, hc21, hc27, hc39]; done))), N0, rfl⟩
            · -- pc 39: no
              refine own_go (S' := s₁.setTop (mkF m 45 #[.val (.int cj)] [(.int (46 : Int32)), (.int cj)])) (fun target kt => ?_) ?_
              · show Steps p.tables e below (s₁.setTop (mkF m 39 #[.val (.int cj)] [(.int (45 : Int32)), (.int cj)])) target
                refine XS.icmpNo X0.here hx rfl (hb hby d_isu_39) rfl (feq hc39).1 ?_
                show Steps p.tables e below (s₁.setTop (mkF m 42 #[.val (.int cj)] [])) target
                refine XS.iloadN X0.here hx rfl (hb hby d_isu_42) rfl ?_
                show Steps p.tables e below (s₁.setTop (mkF m 43 #[.val (.int cj)] [(.int cj)])) target
                refine XS.bipush X0.here hx rfl (hb hby d_isu_43) ?_
                show Steps p.tables e below (s₁.setTop (mkF m 45 #[.val (.int cj)] [(.int (46 : Int32)), (.int cj)])) target
                exact kt
              by_cases hc45 : cj = (46 : Int32)
              · -- pc 45: yes
                refine own_go (S' := s₁.setTop (mkF m 65 #[.val (.int cj)] [(.int (1 : Int32))])) (fun target kt => ?_) ?_
                · show Steps p.tables e below (s₁.setTop (mkF m 45 #[.val (.int cj)] [(.int (46 : Int32)), (.int cj)])) target
                  refine XS.icmpYes X0.here hx rfl (pc0 := 45) (pc' := 60) rfl (hb hby d_isu_45) rfl (teq hc45).1 (by decide) (by decide) ?_
                  show Steps p.tables e below (s₁.setTop (mkF m 60 #[.val (.int cj)] [])) target
                  refine XS.iconst X0.here hx rfl (hb hby d_isu_60) ?_
                  show Steps p.tables e below (s₁.setTop (mkF m 61 #[.val (.int cj)] [(.int (1 : Int32))])) target
                  refine XS.goto X0.here hx rfl (pc0 := 61) (pc' := 65) rfl (hb hby d_isu_61) (by decide) (by decide) ?_
                  show Steps p.tables e below (s₁.setTop (mkF m 65 #[.val (.int cj)] [(.int (1 : Int32))])) target
                  exact kt
                obtain ⟨fs, hr, hrun, hended, hW, hsame⟩ := X0.leave (v := some (.int (1 : Int32))) (fun h => by rw [Bd.returns] at h; cases h)
                refine ⟨_, _, retN X0 hx (t := .boolean) Bd.returns (by simp) (hb hby d_isu_65) hr, hrun, hended, _, _, rfl, ?_, ⟨_, rfl⟩, hW, hsame.mono (by decide) (by decide)⟩
                show Q_isu Z cj h0 n0 _ s₁.heap _
                rw [e0]
                exact ⟨(congrArg (fun z => some (Value.int z)) (by first | (simp only [own_unres, hc3, hc9, hc15, hc21, hc27, hc39, hc45, not_true_eq_false, not_false_eq_true, and_self, and_true, true_and, and_false, false_and, or_self, or_true, true_or, or_false, false_or, if_true, if_false, ↓reduceIte]; done) | (simp [own_unres, hc3, hc9, hc15, hc21, hc27, hc39, hc45]; done))), N0, rfl⟩
              · -- pc 45: no
                refine own_go (S' := s₁.setTop (mkF m 51 #[.val (.int cj)] [(.int (95 : Int32)), (.int cj)])) (fun target kt => ?_) ?_
                · show Steps p.tables e below (s₁.setTop (mkF m 45 #[.val (.int cj)] [(.int (46 : Int32)), (.int cj)])) target
                  refine XS.icmpNo X0.here hx rfl (hb hby d_isu_45) rfl (feq hc45).1 ?_
                  show Steps p.tables e below (s₁.setTop (mkF m 48 #[.val (.int cj)] [])) target
                  refine XS.iloadN X0.here hx rfl (hb hby d_isu_48) rfl ?_
                  show Steps p.tables e below (s₁.setTop (mkF m 49 #[.val (.int cj)] [(.int cj)])) target
                  refine XS.bipush X0.here hx rfl (hb hby d_isu_49) ?_
                  show Steps p.tables e below (s₁.setTop (mkF m 51 #[.val (.int cj)] [(.int (95 : Int32)), (.int cj)])) target
                  exact kt
                by_cases hc51 : cj = (95 : Int32)
                · -- pc 51: yes
                  refine own_go (S' := s₁.setTop (mkF m 65 #[.val (.int cj)] [(.int (1 : Int32))])) (fun target kt => ?_) ?_
                  · show Steps p.tables e below (s₁.setTop (mkF m 51 #[.val (.int cj)] [(.int (95 : Int32)), (.int cj)])) target
                    refine XS.icmpYes X0.here hx rfl (pc0 := 51) (pc' := 60) rfl (hb hby d_isu_51) rfl (teq hc51).1 (by decide) (by decide) ?_
                    show Steps p.tables e below (s₁.setTop (mkF m 60 #[.val (.int cj)] [])) target
                    refine XS.iconst X0.here hx rfl (hb hby d_isu_60) ?_
                    show Steps p.tables e below (s₁.setTop (mkF m 61 #[.val (.int cj)] [(.int (1 : Int32))])) target
                    refine XS.goto X0.here hx rfl (pc0 := 61) (pc' := 65) rfl (hb hby d_isu_61) (by decide) (by decide) ?_
                    show Steps p.tables e below (s₁.setTop (mkF m 65 #[.val (.int cj)] [(.int (1 : Int32))])) target
                    exact kt
                  obtain ⟨fs, hr, hrun, hended, hW, hsame⟩ := X0.leave (v := some (.int (1 : Int32))) (fun h => by rw [Bd.returns] at h; cases h)
                  refine ⟨_, _, retN X0 hx (t := .boolean) Bd.returns (by simp) (hb hby d_isu_65) hr, hrun, hended, _, _, rfl, ?_, ⟨_, rfl⟩, hW, hsame.mono (by decide) (by decide)⟩
                  show Q_isu Z cj h0 n0 _ s₁.heap _
                  rw [e0]
                  exact ⟨(congrArg (fun z => some (Value.int z)) (by first | (simp only [own_unres, hc3, hc9, hc15, hc21, hc27, hc39, hc45, hc51, not_true_eq_false, not_false_eq_true, and_self, and_true, true_and, and_false, false_and, or_self, or_true, true_or, or_false, false_or, if_true, if_false, ↓reduceIte]; done) | (simp [own_unres, hc3, hc9, hc15, hc21, hc27, hc39, hc45, hc51]; done))), N0, rfl⟩
                · -- pc 51: no
                  refine own_go (S' := s₁.setTop (mkF m 57 #[.val (.int cj)] [(.int (126 : Int32)), (.int cj)])) (fun target kt => ?_) ?_
                  · show Steps p.tables e below (s₁.setTop (mkF m 51 #[.val (.int cj)] [(.int (95 : Int32)), (.int cj)])) target
                    refine XS.icmpNo X0.here hx rfl (hb hby d_isu_51) rfl (feq hc51).1 ?_
                    show Steps p.tables e below (s₁.setTop (mkF m 54 #[.val (.int cj)] [])) target
                    refine XS.iloadN X0.here hx rfl (hb hby d_isu_54) rfl ?_
                    show Steps p.tables e below (s₁.setTop (mkF m 55 #[.val (.int cj)] [(.int cj)])) target
                    refine XS.bipush X0.here hx rfl (hb hby d_isu_55) ?_
                    show Steps p.tables e below (s₁.setTop (mkF m 57 #[.val (.int cj)] [(.int (126 : Int32)), (.int cj)])) target
                    exact kt
                  by_cases hc57 : cj = (126 : Int32)
                  · -- pc 57: yes
                    refine own_go (S' := s₁.setTop (mkF m 65 #[.val (.int cj)] [(.int (1 : Int32))])) (fun target kt => ?_) ?_
                    · show Steps p.tables e below (s₁.setTop (mkF m 57 #[.val (.int cj)] [(.int (126 : Int32)), (.int cj)])) target
                      refine XS.icmpNo X0.here hx rfl (hb hby d_isu_57) rfl (teq hc57).2 ?_
                      show Steps p.tables e below (s₁.setTop (mkF m 60 #[.val (.int cj)] [])) target
                      refine XS.iconst X0.here hx rfl (hb hby d_isu_60) ?_
                      show Steps p.tables e below (s₁.setTop (mkF m 61 #[.val (.int cj)] [(.int (1 : Int32))])) target
                      refine XS.goto X0.here hx rfl (pc0 := 61) (pc' := 65) rfl (hb hby d_isu_61) (by decide) (by decide) ?_
                      show Steps p.tables e below (s₁.setTop (mkF m 65 #[.val (.int cj)] [(.int (1 : Int32))])) target
                      exact kt
                    obtain ⟨fs, hr, hrun, hended, hW, hsame⟩ := X0.leave (v := some (.int (1 : Int32))) (fun h => by rw [Bd.returns] at h; cases h)
                    refine ⟨_, _, retN X0 hx (t := .boolean) Bd.returns (by simp) (hb hby d_isu_65) hr, hrun, hended, _, _, rfl, ?_, ⟨_, rfl⟩, hW, hsame.mono (by decide) (by decide)⟩
                    show Q_isu Z cj h0 n0 _ s₁.heap _
                    rw [e0]
                    exact ⟨(congrArg (fun z => some (Value.int z)) (by first | (simp only [own_unres, hc3, hc9, hc15, hc21, hc27, hc39, hc45, hc51, hc57, not_true_eq_false, not_false_eq_true, and_self, and_true, true_and, and_false, false_and, or_self, or_true, true_or, or_false, false_or, if_true, if_false, ↓reduceIte]; done) | (simp [own_unres, hc3, hc9, hc15, hc21, hc27, hc39, hc45, hc51, hc57]; done))), N0, rfl⟩
                  · -- pc 57: no
                    refine own_go (S' := s₁.setTop (mkF m 65 #[.val (.int cj)] [(.int (0 : Int32))])) (fun target kt => ?_) ?_
                    · show Steps p.tables e below (s₁.setTop (mkF m 57 #[.val (.int cj)] [(.int (126 : Int32)), (.int cj)])) target
                      refine XS.icmpYes X0.here hx rfl (pc0 := 57) (pc' := 64) rfl (hb hby d_isu_57) rfl (feq hc57).2 (by decide) (by decide) ?_
                      show Steps p.tables e below (s₁.setTop (mkF m 64 #[.val (.int cj)] [])) target
                      refine XS.iconst X0.here hx rfl (hb hby d_isu_64) ?_
                      show Steps p.tables e below (s₁.setTop (mkF m 65 #[.val (.int cj)] [(.int (0 : Int32))])) target
                      exact kt
                    obtain ⟨fs, hr, hrun, hended, hW, hsame⟩ := X0.leave (v := some (.int (0 : Int32))) (fun h => by rw [Bd.returns] at h; cases h)
                    refine ⟨_, _, retN X0 hx (t := .boolean) Bd.returns (by simp) (hb hby d_isu_65) hr, hrun, hended, _, _, rfl, ?_, ⟨_, rfl⟩, hW, hsame.mono (by decide) (by decide)⟩
                    show Q_isu Z cj h0 n0 _ s₁.heap _
                    rw [e0]
                    exact ⟨(congrArg (fun z => some (Value.int z)) (by first | (simp only [own_unres, hc3, hc9, hc15, hc21, hc27, hc39, hc45, hc51, hc57, not_true_eq_false, not_false_eq_true, and_self, and_true, true_and, and_false, false_and, or_self, or_true, true_or, or_false, false_or, if_true, if_false, ↓reduceIte]; done) | (simp [own_unres, hc3, hc9, hc15, hc21, hc27, hc39, hc45, hc51, hc57]; done))), N0, rfl⟩
          · -- pc 27: no
            refine own_go (S' := s₁.setTop (mkF m 33 #[.val (.int cj)] [(.int (57 : Int32)), (.int cj)])) (fun target kt => ?_) ?_
            · show Steps p.tables e below (s₁.setTop (mkF m 27 #[.val (.int cj)] [(.int (48 : Int32)), (.int cj)])) target
              refine XS.icmpNo X0.here hx rfl (hb hby d_isu_27) rfl (flt hc27).1 ?_
              show Steps p.tables e below (s₁.setTop (mkF m 30 #[.val (.int cj)] [])) target
              refine XS.iloadN X0.here hx rfl (hb hby d_isu_30) rfl ?_
              show Steps p.tables e below (s₁.setTop (mkF m 31 #[.val (.int cj)] [(.int cj)])) target
              refine XS.bipush X0.here hx rfl (hb hby d_isu_31) ?_
              show Steps p.tables e below (s₁.setTop (mkF m 33 #[.val (.int cj)] [(.int (57 : Int32)), (.int cj)])) target
              exact kt
            by_cases hc33 : (57 : Int32) < cj
            · -- pc 33: yes
              refine own_go (S' := s₁.setTop (mkF m 39 #[.val (.int cj)] [(.int (45 : Int32)), (.int cj)])) (fun target kt => ?_) ?_
              · show Steps p.tables e below (s₁.setTop (mkF m 33 #[.val (.int cj)] [(.int (57 : Int32)), (.int cj)])) target
                refine XS.icmpNo X0.here hx rfl (hb hby d_isu_33) rfl (tlt hc33).2.2.2 ?_
                show Steps p.tables e below (s₁.setTop (mkF m 36 #[.val (.int cj)] [])) target
                refine XS.iloadN X0.here hx rfl (hb hby d_isu_36) rfl ?_
                show Steps p.tables e below (s₁.setTop (mkF m 37 #[.val (.int cj)] [(.int cj)])) target
                refine XS.bipush X0.here hx rfl (hb hby d_isu_37) ?_
                show Steps p.tables e below (s₁.setTop (mkF m 39 #[.val (.int cj)] [(.int (45 : Int32)), (.int cj)])) target
                exact kt
              by_cases hc39 : cj = (45 : Int32)
              · -- pc 39: yes
                refine own_go (S' := s₁.setTop (mkF m 65 #[.val (.int cj)] [(.int (1 : Int32))])) (fun target kt => ?_) ?_
                · show Steps p.tables e below (s₁.setTop (mkF m 39 #[.val (.int cj)] [(.int (45 : Int32)), (.int cj)])) target
                  refine XS.icmpYes X0.here hx rfl (pc0 := 39) (pc' := 60) rfl (hb hby d_isu_39) rfl (teq hc39).1 (by decide) (by decide) ?_
                  show Steps p.tables e below (s₁.setTop (mkF m 60 #[.val (.int cj)] [])) target
                  refine XS.iconst X0.here hx rfl (hb hby d_isu_60) ?_
                  show Steps p.tables e below (s₁.setTop (mkF m 61 #[.val (.int cj)] [(.int (1 : Int32))])) target
                  refine XS.goto X0.here hx rfl (pc0 := 61) (pc' := 65) rfl (hb hby d_isu_61) (by decide) (by decide) ?_
                  show Steps p.tables e below (s₁.setTop (mkF m 65 #[.val (.int cj)] [(.int (1 : Int32))])) target
                  exact kt
                obtain ⟨fs, hr, hrun, hended, hW, hsame⟩ := X0.leave (v := some (.int (1 : Int32))) (fun h => by rw [Bd.returns] at h; cases h)
                refine ⟨_, _, retN X0 hx (t := .boolean) Bd.returns (by simp) (hb hby d_isu_65) hr, hrun, hended, _, _, rfl, ?_, ⟨_, rfl⟩, hW, hsame.mono (by decide) (by decide)⟩
                show Q_isu Z cj h0 n0 _ s₁.heap _
                rw [e0]
                exact ⟨(congrArg (fun z => some (Value.int z)) (by first | (simp only [own_unres, hc3, hc9, hc15, hc21, hc27, hc33, hc39, not_true_eq_false, not_false_eq_true, and_self, and_true, true_and, and_false, false_and, or_self, or_true, true_or, or_false, false_or, if_true, if_false, ↓reduceIte]; done) | (simp [own_unres, hc3, hc9, hc15, hc21, hc27, hc33, hc39]; done))), N0, rfl⟩
              · -- pc 39: no
                refine own_go (S' := s₁.setTop (mkF m 45 #[.val (.int cj)] [(.int (46 : Int32)), (.int cj)])) (fun target kt => ?_) ?_
                · show Steps p.tables e below (s₁.setTop (mkF m 39 #[.val (.int cj)] [(.int (45 : Int32)), (.int cj)])) target
                  refine XS.icmpNo X0.here hx rfl (hb hby d_isu_39) rfl (feq hc39).1 ?_
                  show Steps p.tables e below (s₁.setTop (mkF m 42 #[.val (.int cj)] [])) target
                  refine XS.iloadN X0.here hx rfl (hb hby d_isu_42) rfl ?_
                  show Steps p.tables e below (s₁.setTop (mkF m 43 #[.val (.int cj)] [(.int cj)])) target
                  refine XS.bipush X0.here hx rfl (hb hby d_isu_43) ?_
                  show Steps p.tables e below (s₁.setTop (mkF m 45 #[.val (.int cj)] [(.int (46 : Int32)), (.int cj)])) target
                  exact kt
                by_cases hc45 : cj = (46 : Int32)
                · -- pc 45: yes
                  refine own_go (S' := s₁.setTop (mkF m 65 #[.val (.int cj)] [(.int (1 : Int32))])) (fun target kt => ?_) ?_
                  · show Steps p.tables e below (s₁.setTop (mkF m 45 #[.val (.int cj)] [(.int (46 : Int32)), (.int cj)])) target
                    refine XS.icmpYes X0.here hx rfl (pc0 := 45) (pc' := 60) rfl (hb hby d_isu_45) rfl (teq hc45).1 (by decide) (by decide) ?_
                    show Steps p.tables e below (s₁.setTop (mkF m 60 #[.val (.int cj)] [])) target
                    refine XS.iconst X0.here hx rfl (hb hby d_isu_60) ?_
                    show Steps p.tables e below (s₁.setTop (mkF m 61 #[.val (.int cj)] [(.int (1 : Int32))])) target
                    refine XS.goto X0.here hx rfl (pc0 := 61) (pc' := 65) rfl (hb hby d_isu_61) (by decide) (by decide) ?_
                    show Steps p.tables e below (s₁.setTop (mkF m 65 #[.val (.int cj)] [(.int (1 : Int32))])) target
                    exact kt
                  obtain ⟨fs, hr, hrun, hended, hW, hsame⟩ := X0.leave (v := some (.int (1 : Int32))) (fun h => by rw [Bd.returns] at h; cases h)
                  refine ⟨_, _, retN X0 hx (t := .boolean) Bd.returns (by simp) (hb hby d_isu_65) hr, hrun, hended, _, _, rfl, ?_, ⟨_, rfl⟩, hW, hsame.mono (by decide) (by decide)⟩
                  show Q_isu Z cj h0 n0 _ s₁.heap _
                  rw [e0]
                  exact ⟨(congrArg (fun z => some (Value.int z)) (by first | (simp only [own_unres, hc3, hc9, hc15, hc21, hc27, hc33, hc39, hc45, not_true_eq_false, not_false_eq_true, and_self, and_true, true_and, and_false, false_and, or_self, or_true, true_or, or_false, false_or, if_true, if_false, ↓reduceIte]; done) | (simp [own_unres, hc3, hc9, hc15, hc21, hc27, hc33, hc39, hc45]; done))), N0, rfl⟩
                · -- pc 45: no
                  refine own_go (S' := s₁.setTop (mkF m 51 #[.val (.int cj)] [(.int (95 : Int32)), (.int cj)])) (fun target kt => ?_) ?_
                  · show Steps p.tables e below (s₁.setTop (mkF m 45 #[.val (.int cj)] [(.int (46 : Int32)), (.int cj)])) target
                    refine XS.icmpNo X0.here hx rfl (hb hby d_isu_45) rfl (feq hc45).1 ?_
                    show Steps p.tables e below (s₁.setTop (mkF m 48 #[.val (.int cj)] [])) target
                    refine XS.iloadN X0.here hx rfl (hb hby d_isu_48) rfl ?_
                    show Steps p.tables e below (s₁.setTop (mkF m 49 #[.val (.int cj)] [(.int cj)])) target
                    refine XS.bipush X0.here hx rfl (hb hby d_isu_49) ?_
                    show Steps p.tables e below (s₁.setTop (mkF m 51 #[.val (.int cj)] [(.int (95 : Int32)), (.int cj)])) target
                    exact kt
                  by_cases hc51 : cj = (95 : Int32)
                  · -- pc 51: yes
                    refine own_go (S' := s₁.setTop (mkF m 65 #[.val (.int cj)] [(.int (1 : Int32))])) (fun target kt => ?_) ?_
                    · show Steps p.tables e below (s₁.setTop (mkF m 51 #[.val (.int cj)] [(.int (95 : Int32)), (.int cj)])) target
                      refine XS.icmpYes X0.here hx rfl (pc0 := 51) (pc' := 60) rfl (hb hby d_isu_51) rfl (teq hc51).1 (by decide) (by decide) ?_
                      show Steps p.tables e below (s₁.setTop (mkF m 60 #[.val (.int cj)] [])) target
                      refine XS.iconst X0.here hx rfl (hb hby d_isu_60) ?_
                      show Steps p.tables e below (s₁.setTop (mkF m 61 #[.val (.int cj)] [(.int (1 : Int32))])) target
                      refine XS.goto X0.here hx rfl (pc0 := 61) (pc' := 65) rfl (hb hby d_isu_61) (by decide) (by decide) ?_
                      show Steps p.tables e below (s₁.setTop (mkF m 65 #[.val (.int cj)] [(.int (1 : Int32))])) target
                      exact kt
                    obtain ⟨fs, hr, hrun, hended, hW, hsame⟩ := X0.leave (v := some (.int (1 : Int32))) (fun h => by rw [Bd.returns] at h; cases h)
                    refine ⟨_, _, retN X0 hx (t := .boolean) Bd.returns (by simp) (hb hby d_isu_65) hr, hrun, hended, _, _, rfl, ?_, ⟨_, rfl⟩, hW, hsame.mono (by decide) (by decide)⟩
                    show Q_isu Z cj h0 n0 _ s₁.heap _
                    rw [e0]
                    exact ⟨(congrArg (fun z => some (Value.int z)) (by first | (simp only [own_unres, hc3, hc9, hc15, hc21, hc27, hc33, hc39, hc45, hc51, not_true_eq_false, not_false_eq_true, and_self, and_true, true_and, and_false, false_and, or_self, or_true, true_or, or_false, false_or, if_true, if_false, ↓reduceIte]; done) | (simp [own_unres, hc3, hc9, hc15, hc21, hc27, hc33, hc39, hc45, hc51]; done))), N0, rfl⟩
                  · -- pc 51: no
                    refine own_go (S' := s₁.setTop (mkF m 57 #[.val (.int cj)] [(.int (126 : Int32)), (.int cj)])) (fun target kt => ?_) ?_
                    · show Steps p.tables e below (s₁.setTop (mkF m 51 #[.val (.int cj)] [(.int (95 : Int32)), (.int cj)])) target
                      refine XS.icmpNo X0.here hx rfl (hb hby d_isu_51) rfl (feq hc51).1 ?_
                      show Steps p.tables e below (s₁.setTop (mkF m 54 #[.val (.int cj)] [])) target
                      refine XS.iloadN X0.here hx rfl (hb hby d_isu_54) rfl ?_
                      show Steps p.tables e below (s₁.setTop (mkF m 55 #[.val (.int cj)] [(.int cj)])) target
                      refine XS.bipush X0.here hx rfl (hb hby d_isu_55) ?_
                      show Steps p.tables e below (s₁.setTop (mkF m 57 #[.val (.int cj)] [(.int (126 : Int32)), (.int cj)])) target
                      exact kt
                    by_cases hc57 : cj = (126 : Int32)
                    · -- pc 57: yes
                      refine own_go (S' := s₁.setTop (mkF m 65 #[.val (.int cj)] [(.int (1 : Int32))])) (fun target kt => ?_) ?_
                      · show Steps p.tables e below (s₁.setTop (mkF m 57 #[.val (.int cj)] [(.int (126 : Int32)), (.int cj)])) target
                        refine XS.icmpNo X0.here hx rfl (hb hby d_isu_57) rfl (teq hc57).2 ?_
                        show Steps p.tables e below (s₁.setTop (mkF m 60 #[.val (.int cj)] [])) target
                        refine XS.iconst X0.here hx rfl (hb hby d_isu_60) ?_
                        show Steps p.tables e below (s₁.setTop (mkF m 61 #[.val (.int cj)] [(.int (1 : Int32))])) target
                        refine XS.goto X0.here hx rfl (pc0 := 61) (pc' := 65) rfl (hb hby d_isu_61) (by decide) (by decide) ?_
                        show Steps p.tables e below (s₁.setTop (mkF m 65 #[.val (.int cj)] [(.int (1 : Int32))])) target
                        exact kt
                      obtain ⟨fs, hr, hrun, hended, hW, hsame⟩ := X0.leave (v := some (.int (1 : Int32))) (fun h => by rw [Bd.returns] at h; cases h)
                      refine ⟨_, _, retN X0 hx (t := .boolean) Bd.returns (by simp) (hb hby d_isu_65) hr, hrun, hended, _, _, rfl, ?_, ⟨_, rfl⟩, hW, hsame.mono (by decide) (by decide)⟩
                      show Q_isu Z cj h0 n0 _ s₁.heap _
                      rw [e0]
                      exact ⟨(congrArg (fun z => some (Value.int z)) (by first | (simp only [own_unres, hc3, hc9, hc15, hc21, hc27, hc33, hc39, hc45, hc51, hc57, not_true_eq_false, not_false_eq_true, and_self, and_true, true_and, and_false, false_and, or_self, or_true, true_or, or_false, false_or, if_true, if_false, ↓reduceIte]; done) | (simp [own_unres, hc3, hc9, hc15, hc21, hc27, hc33, hc39, hc45, hc51, hc57]; done))), N0, rfl⟩
                    · -- pc 57: no
                      refine own_go (S' := s₁.setTop (mkF m 65 #[.val (.int cj)] [(.int (0 : Int32))])) (fun target kt => ?_) ?_
                      · show Steps p.tables e below (s₁.setTop (mkF m 57 #[.val (.int cj)] [(.int (126 : Int32)), (.int cj)])) target
                        refine XS.icmpYes X0.here hx rfl (pc0 := 57) (pc' := 64) rfl (hb hby d_isu_57) rfl (feq hc57).2 (by decide) (by decide) ?_
                        show Steps p.tables e below (s₁.setTop (mkF m 64 #[.val (.int cj)] [])) target
                        refine XS.iconst X0.here hx rfl (hb hby d_isu_64) ?_
                        show Steps p.tables e below (s₁.setTop (mkF m 65 #[.val (.int cj)] [(.int (0 : Int32))])) target
                        exact kt
                      obtain ⟨fs, hr, hrun, hended, hW, hsame⟩ := X0.leave (v := some (.int (0 : Int32))) (fun h => by rw [Bd.returns] at h; cases h)
                      refine ⟨_, _, retN X0 hx (t := .boolean) Bd.returns (by simp) (hb hby d_isu_65) hr, hrun, hended, _, _, rfl, ?_, ⟨_, rfl⟩, hW, hsame.mono (by decide) (by decide)⟩
                      show Q_isu Z cj h0 n0 _ s₁.heap _
                      rw [e0]
                      exact ⟨(congrArg (fun z => some (Value.int z)) (by first | (simp only [own_unres, hc3, hc9, hc15, hc21, hc27, hc33, hc39, hc45, hc51, hc57, not_true_eq_false, not_false_eq_true, and_self, and_true, true_and, and_false, false_and, or_self, or_true, true_or, or_false, false_or, if_true, if_false, ↓reduceIte]; done) | (simp [own_unres, hc3, hc9, hc15, hc21, hc27, hc33, hc39, hc45, hc51, hc57]; done))), N0, rfl⟩
            · -- pc 33: no
              refine own_go (S' := s₁.setTop (mkF m 65 #[.val (.int cj)] [(.int (1 : Int32))])) (fun target kt => ?_) ?_
              · show Steps p.tables e below (s₁.setTop (mkF m 33 #[.val (.int cj)] [(.int (57 : Int32)), (.int cj)])) target
                refine XS.icmpYes X0.here hx rfl (pc0 := 33) (pc' := 60) rfl (hb hby d_isu_33) rfl (flt hc33).2.2.2 (by decide) (by decide) ?_
                show Steps p.tables e below (s₁.setTop (mkF m 60 #[.val (.int cj)] [])) target
                refine XS.iconst X0.here hx rfl (hb hby d_isu_60) ?_
                show Steps p.tables e below (s₁.setTop (mkF m 61 #[.val (.int cj)] [(.int (1 : Int32))])) target
                refine XS.goto X0.here hx rfl (pc0 := 61) (pc' := 65) rfl (hb hby d_isu_61) (by decide) (by decide) ?_
                show Steps p.tables e below (s₁.setTop (mkF m 65 #[.val (.int cj)] [(.int (1 : Int32))])) target
                exact kt
              obtain ⟨fs, hr, hrun, hended, hW, hsame⟩ := X0.leave (v := some (.int (1 : Int32))) (fun h => by rw [Bd.returns] at h; cases h)
              refine ⟨_, _, retN X0 hx (t := .boolean) Bd.returns (by simp) (hb hby d_isu_65) hr, hrun, hended, _, _, rfl, ?_, ⟨_, rfl⟩, hW, hsame.mono (by decide) (by decide)⟩
              show Q_isu Z cj h0 n0 _ s₁.heap _
              rw [e0]
              exact ⟨(congrArg (fun z => some (Value.int z)) (by first | (simp only [own_unres, hc3, hc9, hc15, hc21, hc27, hc33, not_true_eq_false, not_false_eq_true, and_self, and_true, true_and, and_false, false_and, or_self, or_true, true_or, or_false, false_or, if_true, if_false, ↓reduceIte]; done) | (simp [own_unres, hc3, hc9, hc15, hc21, hc27, hc33]; done))), N0, rfl⟩
        · -- pc 21: no
          refine own_go (S' := s₁.setTop (mkF m 65 #[.val (.int cj)] [(.int (1 : Int32))])) (fun target kt => ?_) ?_
          · show Steps p.tables e below (s₁.setTop (mkF m 21 #[.val (.int cj)] [(.int (90 : Int32)), (.int cj)])) target
            refine XS.icmpYes X0.here hx rfl (pc0 := 21) (pc' := 60) rfl (hb hby d_isu_21) rfl (flt hc21).2.2.2 (by decide) (by decide) ?_
            show Steps p.tables e below (s₁.setTop (mkF m 60 #[.val (.int cj)] [])) target
            refine XS.iconst X0.here hx rfl (hb hby d_isu_60) ?_
            show Steps p.tables e below (s₁.setTop (mkF m 61 #[.val (.int cj)] [(.int (1 : Int32))])) target
            refine XS.goto X0.here hx rfl (pc0 := 61) (pc' := 65) rfl (hb hby d_isu_61) (by decide) (by decide) ?_
            show Steps p.tables e below (s₁.setTop (mkF m 65 #[.val (.int cj)] [(.int (1 : Int32))])) target
            exact kt
          obtain ⟨fs, hr, hrun, hended, hW, hsame⟩ := X0.leave (v := some (.int (1 : Int32))) (fun h => by rw [Bd.returns] at h; cases h)
          refine ⟨_, _, retN X0 hx (t := .boolean) Bd.returns (by simp) (hb hby d_isu_65) hr, hrun, hended, _, _, rfl, ?_, ⟨_, rfl⟩, hW, hsame.mono (by decide) (by decide)⟩
          show Q_isu Z cj h0 n0 _ s₁.heap _
          rw [e0]
          exact ⟨(congrArg (fun z => some (Value.int z)) (by first | (simp only [own_unres, hc3, hc9, hc15, hc21, not_true_eq_false, not_false_eq_true, and_self, and_true, true_and, and_false, false_and, or_self, or_true, true_or, or_false, false_or, if_true, if_false, ↓reduceIte]; done) | (simp [own_unres, hc3, hc9, hc15, hc21]; done))), N0, rfl⟩
    · -- pc 9: no
      refine own_go (S' := s₁.setTop (mkF m 65 #[.val (.int cj)] [(.int (1 : Int32))])) (fun target kt => ?_) ?_
      · show Steps p.tables e below (s₁.setTop (mkF m 9 #[.val (.int cj)] [(.int (122 : Int32)), (.int cj)])) target
        refine XS.icmpYes X0.here hx rfl (pc0 := 9) (pc' := 60) rfl (hb hby d_isu_9) rfl (flt hc9).2.2.2 (by decide) (by decide) ?_
        show Steps p.tables e below (s₁.setTop (mkF m 60 #[.val (.int cj)] [])) target
        refine XS.iconst X0.here hx rfl (hb hby d_isu_60) ?_
        show Steps p.tables e below (s₁.setTop (mkF m 61 #[.val (.int cj)] [(.int (1 : Int32))])) target
        refine XS.goto X0.here hx rfl (pc0 := 61) (pc' := 65) rfl (hb hby d_isu_61) (by decide) (by decide) ?_
        show Steps p.tables e below (s₁.setTop (mkF m 65 #[.val (.int cj)] [(.int (1 : Int32))])) target
        exact kt
      obtain ⟨fs, hr, hrun, hended, hW, hsame⟩ := X0.leave (v := some (.int (1 : Int32))) (fun h => by rw [Bd.returns] at h; cases h)
      refine ⟨_, _, retN X0 hx (t := .boolean) Bd.returns (by simp) (hb hby d_isu_65) hr, hrun, hended, _, _, rfl, ?_, ⟨_, rfl⟩, hW, hsame.mono (by decide) (by decide)⟩
      show Q_isu Z cj h0 n0 _ s₁.heap _
      rw [e0]
      exact ⟨(congrArg (fun z => some (Value.int z)) (by first | (simp only [own_unres, hc3, hc9, not_true_eq_false, not_false_eq_true, and_self, and_true, true_and, and_false, false_and, or_self, or_true, true_or, or_false, false_or, if_true, if_false, ↓reduceIte]; done) | (simp [own_unres, hc3, hc9]; done))), N0, rfl⟩
-- com/example/brisk_current/briskcurrent/hypermedia/UriEncodingIsUnreservedPinLaw.expected:(I)Z
theorem d_exp_0 : decode method_2_code 0 = .ok (.iconst 0, 1) := by decide +kernel
theorem d_exp_1 : decode method_2_code 1 = .ok (.istore_n 1, 1) := by decide +kernel
theorem d_exp_2 : decode method_2_code 2 = .ok (.iload_n 0, 1) := by decide +kernel
theorem d_exp_3 : decode method_2_code 3 = .ok (.ifCond .lt 30, 3) := by decide +kernel
theorem d_exp_6 : decode method_2_code 6 = .ok (.iload_n 0, 1) := by decide +kernel
theorem d_exp_7 : decode method_2_code 7 = .ok (.bipush 64, 2) := by decide +kernel
theorem d_exp_9 : decode method_2_code 9 = .ok (.if_icmp .ge 24, 3) := by decide +kernel
theorem d_exp_12 : decode method_2_code 12 = .ok (.ldc2_w 7, 3) := by decide +kernel
theorem d_exp_15 : decode method_2_code 15 = .ok (.iload_n 0, 1) := by decide +kernel
theorem d_exp_16 : decode method_2_code 16 = .ok (.lushr, 1) := by decide +kernel
theorem d_exp_17 : decode method_2_code 17 = .ok (.lconst 1, 1) := by decide +kernel
theorem d_exp_18 : decode method_2_code 18 = .ok (.land, 1) := by decide +kernel
theorem d_exp_19 : decode method_2_code 19 = .ok (.lconst 0, 1) := by decide +kernel
theorem d_exp_20 : decode method_2_code 20 = .ok (.lcmp, 1) := by decide +kernel
theorem d_exp_21 : decode method_2_code 21 = .ok (.ifCond .eq 7, 3) := by decide +kernel
theorem d_exp_24 : decode method_2_code 24 = .ok (.iconst 1, 1) := by decide +kernel
theorem d_exp_25 : decode method_2_code 25 = .ok (.goto 4, 3) := by decide +kernel
theorem d_exp_28 : decode method_2_code 28 = .ok (.iconst 0, 1) := by decide +kernel
theorem d_exp_29 : decode method_2_code 29 = .ok (.istore_n 1, 1) := by decide +kernel
theorem d_exp_30 : decode method_2_code 30 = .ok (.goto 37, 3) := by decide +kernel
theorem d_exp_33 : decode method_2_code 33 = .ok (.iload_n 0, 1) := by decide +kernel
theorem d_exp_34 : decode method_2_code 34 = .ok (.bipush 64, 2) := by decide +kernel
theorem d_exp_36 : decode method_2_code 36 = .ok (.if_icmp .lt 31, 3) := by decide +kernel
theorem d_exp_39 : decode method_2_code 39 = .ok (.iload_n 0, 1) := by decide +kernel
theorem d_exp_40 : decode method_2_code 40 = .ok (.sipush 128, 3) := by decide +kernel
theorem d_exp_43 : decode method_2_code 43 = .ok (.if_icmp .ge 24, 3) := by decide +kernel
theorem d_exp_46 : decode method_2_code 46 = .ok (.ldc2_w 9, 3) := by decide +kernel
theorem d_exp_49 : decode method_2_code 49 = .ok (.iload_n 0, 1) := by decide +kernel
theorem d_exp_50 : decode method_2_code 50 = .ok (.bipush 64, 2) := by decide +kernel
theorem d_exp_52 : decode method_2_code 52 = .ok (.isub, 1) := by decide +kernel
theorem d_exp_53 : decode method_2_code 53 = .ok (.lushr, 1) := by decide +kernel
theorem d_exp_54 : decode method_2_code 54 = .ok (.lconst 1, 1) := by decide +kernel
theorem d_exp_55 : decode method_2_code 55 = .ok (.land, 1) := by decide +kernel
theorem d_exp_56 : decode method_2_code 56 = .ok (.lconst 0, 1) := by decide +kernel
theorem d_exp_57 : decode method_2_code 57 = .ok (.lcmp, 1) := by decide +kernel
theorem d_exp_58 : decode method_2_code 58 = .ok (.ifCond .eq 7, 3) := by decide +kernel
theorem d_exp_61 : decode method_2_code 61 = .ok (.iconst 1, 1) := by decide +kernel
theorem d_exp_62 : decode method_2_code 62 = .ok (.goto 4, 3) := by decide +kernel
theorem d_exp_65 : decode method_2_code 65 = .ok (.iconst 0, 1) := by decide +kernel
theorem d_exp_66 : decode method_2_code 66 = .ok (.istore_n 1, 1) := by decide +kernel
theorem d_exp_67 : decode method_2_code 67 = .ok (.iload_n 1, 1) := by decide +kernel
theorem d_exp_68 : decode method_2_code 68 = .ok (.ireturn, 1) := by decide +kernel
theorem pn_exp : plainName "com/example/brisk_current/briskcurrent/hypermedia/UriEncodingIsUnreservedPinLaw" = true := by first | (simp [plainName, overriddenIn]; done) | decide +kernel
theorem ef_exp (m : MethodId) (cj : Int32) : entryFrame m #[(.int cj)] 2 = mkF m 0 #[.val (.int cj), .unset] [] := by first | (simp [entryFrame, mkF, argsToLocals, Value.category]; done) | rfl
def Q_exp (Z : State) (cj : Int32) (h0 : Heap) (n0 : Nat) (v : Option Value) (h : Heap) (L : List Loc) : Prop := v = some (.int (own_exp cj)) ∧ Fr n0 L ∧ h = h0
set_option maxRecDepth 65536 in
set_option maxHeartbeats 40000000 in
theorem rm_exp (l : Launch) (Z : State) (a0 : Array Value) (hw : ∀ d ∈ tables_1, d.before a0 Z = true) (ws : List Jvm.Cond) (cj : Int32) (h0 : Heap) (n0 : Nat) (Z0 : n0 ≤ h0.size) :
    MetFree l (⟨"com/example/brisk_current/briskcurrent/hypermedia/UriEncodingIsUnreservedPinLaw", "expected", "(I)Z"⟩ : MethodName) (head1 (Jvm.Cond.code (⟨"com/example/brisk_current/briskcurrent/hypermedia/UriEncodingIsUnreservedPinLaw", "expected", "(I)Z"⟩ : MethodName) method_2_code 2 (some .boolean) :: ws) ({ frames := 0, cells := 0, slots := 0, locals := 0 } : Room)) (fun a U => a = #[(.int cj)] ∧ Z.Warmed39 U.vm ∧ U.heap = h0) (fun _ _ _ _ _ => True) (fun _ U o U' => ∃ v L, o = .returned v ∧ Q_exp Z cj h0 n0 v U'.heap L ∧ FrameEnd U o U' L ({ frames := 0, cells := 0, slots := 0, locals := 0 } : Room).cells ({ frames := 0, cells := 0, slots := 0, locals := 0 } : Room).slots) := by
  refine MetFree.of_bodySF (plainFor_of_name pn_exp) hisR ?_
  intro p e s m args below meth c s₁ Bd hml0 hP hK
  obtain ⟨rfl, hZ, hh⟩ := hP
  have hx := Bd.exec
  have hby := Bd.bytes
  have hml : c.maxLocals = 2 := hml0
  have hown : s.vm.findClass "com/example/brisk_current/briskcurrent/hypermedia/UriEncodingIsUnreservedPinLaw" = some m.cls := findClass_of_methodNamed Bd.named
  have hnm := (name_of_methodNamed Bd.named Bd.method).1
  have X0 : Stand p l e ({ frames := 0, cells := 0, slots := 0, locals := 0 } : Room) s m #[(.int cj)] below meth c s₁ [] 0 0 := Stand.of_body Bd
  have e0 : s₁.heap = h0 := by rw [← hh, Bd.state]; rfl
  have N0 := Fr.nil n0
  refine own_in ?_
  refine own_go (S' := s₁.setTop (mkF m 0 #[.val (.int cj), .unset] [])) (fun tgt_ stp_ => castTop (ef_exp m cj) stp_) ?_
  refine own_go (S' := s₁.setTop (mkF m 3 #[.val (.int cj), .val (.int (0 : Int32))] [(.int cj)])) (fun target kt => ?_) ?_
  · show Steps p.tables e below (s₁.setTop (mkF m 0 #[.val (.int cj), .unset] [])) target
    refine XS.iconst X0.here hx rfl (hb hby d_exp_0) ?_
    show Steps p.tables e below (s₁.setTop (mkF m 1 #[.val (.int cj), .unset] [(.int (0 : Int32))])) target
    refine XS.istoreN X0.here hx rfl (hb hby d_exp_1) rfl (l' := #[.val (.int cj), .val (.int (0 : Int32))]) rfl ?_
    show Steps p.tables e below (s₁.setTop (mkF m 2 #[.val (.int cj), .val (.int (0 : Int32))] [])) target
    refine XS.iloadN X0.here hx rfl (hb hby d_exp_2) rfl ?_
    show Steps p.tables e below (s₁.setTop (mkF m 3 #[.val (.int cj), .val (.int (0 : Int32))] [(.int cj)])) target
    exact kt
  by_cases hc3 : cj < (0 : Int32)
  · -- pc 3: yes
    refine own_go (S' := s₁.setTop (mkF m 36 #[.val (.int cj), .val (.int (0 : Int32))] [(.int (64 : Int32)), (.int cj)])) (fun target kt => ?_) ?_
    · show Steps p.tables e below (s₁.setTop (mkF m 3 #[.val (.int cj), .val (.int (0 : Int32))] [(.int cj)])) target
      refine XS.ifYes X0.here hx rfl (pc0 := 3) (pc' := 33) rfl (hb hby d_exp_3) rfl ((if0 _ _).trans (tlt hc3).1) (by decide) (by decide) ?_
      show Steps p.tables e below (s₁.setTop (mkF m 33 #[.val (.int cj), .val (.int (0 : Int32))] [])) target
      refine XS.iloadN X0.here hx rfl (hb hby d_exp_33) rfl ?_
      show Steps p.tables e below (s₁.setTop (mkF m 34 #[.val (.int cj), .val (.int (0 : Int32))] [(.int cj)])) target
      refine XS.bipush X0.here hx rfl (hb hby d_exp_34) ?_
      show Steps p.tables e below (s₁.setTop (mkF m 36 #[.val (.int cj), .val (.int (0 : Int32))] [(.int (64 : Int32)), (.int cj)])) target
      exact kt
    by_cases hc36 : cj < (64 : Int32)
    · -- pc 36: yes
      refine own_go (S' := s₁.setTop (mkF m 68 #[.val (.int cj), .val (.int (0 : Int32))] [(.int (0 : Int32))])) (fun target kt => ?_) ?_
      · show Steps p.tables e below (s₁.setTop (mkF m 36 #[.val (.int cj), .val (.int (0 : Int32))] [(.int (64 : Int32)), (.int cj)])) target
        refine XS.icmpYes X0.here hx rfl (pc0 := 36) (pc' := 67) rfl (hb hby d_exp_36) rfl (tlt hc36).1 (by decide) (by decide) ?_
        show Steps p.tables e below (s₁.setTop (mkF m 67 #[.val (.int cj), .val (.int (0 : Int32))] [])) target
        refine XS.iloadN X0.here hx rfl (hb hby d_exp_67) rfl ?_
        show Steps p.tables e below (s₁.setTop (mkF m 68 #[.val (.int cj), .val (.int (0 : Int32))] [(.int (0 : Int32))])) target
        exact kt
      obtain ⟨fs, hr, hrun, hended, hW, hsame⟩ := X0.leave (v := some (.int (0 : Int32))) (fun h => by rw [Bd.returns] at h; cases h)
      refine ⟨_, _, retN X0 hx (t := .boolean) Bd.returns (by simp) (hb hby d_exp_68) hr, hrun, hended, _, _, rfl, ?_, ⟨_, rfl⟩, hW, hsame.mono (by decide) (by decide)⟩
      show Q_exp Z cj h0 n0 _ s₁.heap _
      rw [e0]
      exact ⟨(congrArg (fun z => some (Value.int z)) (by first | (simp only [own_exp, hc3, hc36, not_true_eq_false, not_false_eq_true, and_self, and_true, true_and, and_false, false_and, or_self, or_true, true_or, or_false, false_or, if_true, if_false, ↓reduceIte]; done) | (simp [own_exp, hc3, hc36]; done))), N0, rfl⟩
    · -- pc 36: no
      refine own_go (S' := s₁.setTop (mkF m 43 #[.val (.int cj), .val (.int (0 : Int32))] [(.int (128 : Int32)), (.int cj)])) (fun target kt => ?_) ?_
      · show Steps p.tables e below (s₁.setTop (mkF m 36 #[.val (.int cj), .val (.int (0 : Int32))] [(.int (64 : Int32)), (.int cj)])) target
        refine XS.icmpNo X0.here hx rfl (hb hby d_exp_36) rfl (flt hc36).1 ?_
        show Steps p.tables e below (s₁.setTop (mkF m 39 #[.val (.int cj), .val (.int (0 : Int32))] [])) target
        refine XS.iloadN X0.here hx rfl (hb hby d_exp_39) rfl ?_
        show Steps p.tables e below (s₁.setTop (mkF m 40 #[.val (.int cj), .val (.int (0 : Int32))] [(.int cj)])) target
        refine XS.sipush X0.here hx rfl (hb hby d_exp_40) ?_
        show Steps p.tables e below (s₁.setTop (mkF m 43 #[.val (.int cj), .val (.int (0 : Int32))] [(.int (128 : Int32)), (.int cj)])) target
        exact kt
      by_cases hc43 : cj < (128 : Int32)
      · -- pc 43: yes
        refine own_go (S' := s₁.setTop (mkF m 58 #[.val (.int cj), .val (.int (0 : Int32))] [(.int (lcmpW ((((5188146764422578174 : Int64).toUInt64 >>> ((cj - (64 : Int32)) &&& 0x3f).toInt64.toUInt64).toInt64) &&& (1 : Int64)) (0 : Int64)))])) (fun target kt => ?_) ?_
        · show Steps p.tables e below (s₁.setTop (mkF m 43 #[.val (.int cj), .val (.int (0 : Int32))] [(.int (128 : Int32)), (.int cj)])) target
          refine XS.icmpNo X0.here hx rfl (hb hby d_exp_43) rfl (tlt hc43).2.1 ?_
          show Steps p.tables e below (s₁.setTop (mkF m 46 #[.val (.int cj), .val (.int (0 : Int32))] [])) target
          refine X0.ldc2Long hx hown (mvT hZ (hw _ (List.mem_of_getElem? (i := 9) rfl))) (g := (mkF m 46 #[.val (.int cj), .val (.int (0 : Int32))] [])) rfl (hb hby d_exp_46) _ ?_
          show Steps p.tables e below (s₁.setTop (mkF m 49 #[.val (.int cj), .val (.int (0 : Int32))] [(.long (5188146764422578174 : Int64))])) target
          refine XS.iloadN X0.here hx rfl (hb hby d_exp_49) rfl ?_
          show Steps p.tables e below (s₁.setTop (mkF m 50 #[.val (.int cj), .val (.int (0 : Int32))] [(.int cj), (.long (5188146764422578174 : Int64))])) target
          refine XS.bipush X0.here hx rfl (hb hby d_exp_50) ?_
          show Steps p.tables e below (s₁.setTop (mkF m 52 #[.val (.int cj), .val (.int (0 : Int32))] [(.int (64 : Int32)), (.int cj), (.long (5188146764422578174 : Int64))])) target
          refine XS.isub X0.here hx rfl (hb hby d_exp_52) rfl ?_
          show Steps p.tables e below (s₁.setTop (mkF m 53 #[.val (.int cj), .val (.int (0 : Int32))] [(.int (cj - (64 : Int32))), (.long (5188146764422578174 : Int64))])) target
          refine XS.lushr X0.here hx rfl (hb hby d_exp_53) rfl ?_
          show Steps p.tables e below (s₁.setTop (mkF m 54 #[.val (.int cj), .val (.int (0 : Int32))] [(.long (((5188146764422578174 : Int64).toUInt64 >>> ((cj - (64 : Int32)) &&& 0x3f).toInt64.toUInt64).toInt64))])) target
          refine XS.lconst X0.here hx rfl (hb hby d_exp_54) ?_
          show Steps p.tables e below (s₁.setTop (mkF m 55 #[.val (.int cj), .val (.int (0 : Int32))] [(.long (1 : Int64)), (.long (((5188146764422578174 : Int64).toUInt64 >>> ((cj - (64 : Int32)) &&& 0x3f).toInt64.toUInt64).toInt64))])) target
          refine XS.land X0.here hx rfl (hb hby d_exp_55) rfl ?_
          show Steps p.tables e below (s₁.setTop (mkF m 56 #[.val (.int cj), .val (.int (0 : Int32))] [(.long ((((5188146764422578174 : Int64).toUInt64 >>> ((cj - (64 : Int32)) &&& 0x3f).toInt64.toUInt64).toInt64) &&& (1 : Int64)))])) target
          refine XS.lconst X0.here hx rfl (hb hby d_exp_56) ?_
          show Steps p.tables e below (s₁.setTop (mkF m 57 #[.val (.int cj), .val (.int (0 : Int32))] [(.long (0 : Int64)), (.long ((((5188146764422578174 : Int64).toUInt64 >>> ((cj - (64 : Int32)) &&& 0x3f).toInt64.toUInt64).toInt64) &&& (1 : Int64)))])) target
          refine XS.lcmp X0.here hx rfl (hb hby d_exp_57) rfl ?_
          show Steps p.tables e below (s₁.setTop (mkF m 58 #[.val (.int cj), .val (.int (0 : Int32))] [(.int (lcmpW ((((5188146764422578174 : Int64).toUInt64 >>> ((cj - (64 : Int32)) &&& 0x3f).toInt64.toUInt64).toInt64) &&& (1 : Int64)) (0 : Int64)))])) target
          exact kt
        by_cases hc58 : ((((5188146764422578174 : Int64).toUInt64 >>> ((cj - (64 : Int32)) &&& 0x3f).toInt64.toUInt64).toInt64) &&& (1 : Int64)) = (0 : Int64)
        · -- pc 58: yes
          refine own_go (S' := s₁.setTop (mkF m 68 #[.val (.int cj), .val (.int (0 : Int32))] [(.int (0 : Int32))])) (fun target kt => ?_) ?_
          · show Steps p.tables e below (s₁.setTop (mkF m 58 #[.val (.int cj), .val (.int (0 : Int32))] [(.int (lcmpW ((((5188146764422578174 : Int64).toUInt64 >>> ((cj - (64 : Int32)) &&& 0x3f).toInt64.toUInt64).toInt64) &&& (1 : Int64)) (0 : Int64)))])) target
            refine XS.ifYes X0.here hx rfl (pc0 := 58) (pc' := 65) rfl (hb hby d_exp_58) rfl ((if0 _ _).trans (teq (own_l1 hc58)).1) (by decide) (by decide) ?_
            show Steps p.tables e below (s₁.setTop (mkF m 65 #[.val (.int cj), .val (.int (0 : Int32))] [])) target
            refine XS.iconst X0.here hx rfl (hb hby d_exp_65) ?_
            show Steps p.tables e below (s₁.setTop (mkF m 66 #[.val (.int cj), .val (.int (0 : Int32))] [(.int (0 : Int32))])) target
            refine XS.istoreN X0.here hx rfl (hb hby d_exp_66) rfl (l' := #[.val (.int cj), .val (.int (0 : Int32))]) rfl ?_
            show Steps p.tables e below (s₁.setTop (mkF m 67 #[.val (.int cj), .val (.int (0 : Int32))] [])) target
            refine XS.iloadN X0.here hx rfl (hb hby d_exp_67) rfl ?_
            show Steps p.tables e below (s₁.setTop (mkF m 68 #[.val (.int cj), .val (.int (0 : Int32))] [(.int (0 : Int32))])) target
            exact kt
          obtain ⟨fs, hr, hrun, hended, hW, hsame⟩ := X0.leave (v := some (.int (0 : Int32))) (fun h => by rw [Bd.returns] at h; cases h)
          refine ⟨_, _, retN X0 hx (t := .boolean) Bd.returns (by simp) (hb hby d_exp_68) hr, hrun, hended, _, _, rfl, ?_, ⟨_, rfl⟩, hW, hsame.mono (by decide) (by decide)⟩
          show Q_exp Z cj h0 n0 _ s₁.heap _
          rw [e0]
          exact ⟨(congrArg (fun z => some (Value.int z)) (by first | (simp only [own_exp, hc3, hc36, hc43, hc58, not_true_eq_false, not_false_eq_true, and_self, and_true, true_and, and_false, false_and, or_self, or_true, true_or, or_false, false_or, if_true, if_false, ↓reduceIte]; done) | (simp [own_exp, hc3, hc36, hc43, hc58]; done))), N0, rfl⟩
        · -- pc 58: no
          refine own_go (S' := s₁.setTop (mkF m 68 #[.val (.int cj), .val (.int (1 : Int32))] [(.int (1 : Int32))])) (fun target kt => ?_) ?_
          · show Steps p.tables e below (s₁.setTop (mkF m 58 #[.val (.int cj), .val (.int (0 : Int32))] [(.int (lcmpW ((((5188146764422578174 : Int64).toUInt64 >>> ((cj - (64 : Int32)) &&& 0x3f).toInt64.toUInt64).toInt64) &&& (1 : Int64)) (0 : Int64)))])) target
            refine XS.ifNo X0.here hx rfl (hb hby d_exp_58) rfl ((if0 _ _).trans (feq (own_l2 hc58)).1) ?_
            show Steps p.tables e below (s₁.setTop (mkF m 61 #[.val (.int cj), .val (.int (0 : Int32))] [])) target
            refine XS.iconst X0.here hx rfl (hb hby d_exp_61) ?_
            show Steps p.tables e below (s₁.setTop (mkF m 62 #[.val (.int cj), .val (.int (0 : Int32))] [(.int (1 : Int32))])) target
            refine XS.goto X0.here hx rfl (pc0 := 62) (pc' := 66) rfl (hb hby d_exp_62) (by decide) (by decide) ?_
            show Steps p.tables e below (s₁.setTop (mkF m 66 #[.val (.int cj), .val (.int (0 : Int32))] [(.int (1 : Int32))])) target
            refine XS.istoreN X0.here hx rfl (hb hby d_exp_66) rfl (l' := #[.val (.int cj), .val (.int (1 : Int32))]) rfl ?_
            show Steps p.tables e below (s₁.setTop (mkF m 67 #[.val (.int cj), .val (.int (1 : Int32))] [])) target
            refine XS.iloadN X0.here hx rfl (hb hby d_exp_67) rfl ?_
            show Steps p.tables e below (s₁.setTop (mkF m 68 #[.val (.int cj), .val (.int (1 : Int32))] [(.int (1 : Int32))])) target
            exact kt
          obtain ⟨fs, hr, hrun, hended, hW, hsame⟩ := X0.leave (v := some (.int (1 : Int32))) (fun h => by rw [Bd.returns] at h; cases h)
          refine ⟨_, _, retN X0 hx (t := .boolean) Bd.returns (by simp) (hb hby d_exp_68) hr, hrun, hended, _, _, rfl, ?_, ⟨_, rfl⟩, hW, hsame.mono (by decide) (by decide)⟩
          show Q_exp Z cj h0 n0 _ s₁.heap _
          rw [e0]
          exact ⟨(congrArg (fun z => some (Value.int z)) (by first | (simp only [own_exp, hc3, hc36, hc43, hc58, not_true_eq_false, not_false_eq_true, and_self, and_true, true_and, and_false, false_and, or_self, or_true, true_or, or_false, false_or, if_true, if_false, ↓reduceIte]; done) | (simp [own_exp, hc3, hc36, hc43, hc58]; done))), N0, rfl⟩
      · -- pc 43: no
        refine own_go (S' := s₁.setTop (mkF m 68 #[.val (.int cj), .val (.int (0 : Int32))] [(.int (0 : Int32))])) (fun target kt => ?_) ?_
        · show Steps p.tables e below (s₁.setTop (mkF m 43 #[.val (.int cj), .val (.int (0 : Int32))] [(.int (128 : Int32)), (.int cj)])) target
          refine XS.icmpYes X0.here hx rfl (pc0 := 43) (pc' := 67) rfl (hb hby d_exp_43) rfl (flt hc43).2.1 (by decide) (by decide) ?_
          show Steps p.tables e below (s₁.setTop (mkF m 67 #[.val (.int cj), .val (.int (0 : Int32))] [])) target
          refine XS.iloadN X0.here hx rfl (hb hby d_exp_67) rfl ?_
          show Steps p.tables e below (s₁.setTop (mkF m 68 #[.val (.int cj), .val (.int (0 : Int32))] [(.int (0 : Int32))])) target
          exact kt
        obtain ⟨fs, hr, hrun, hended, hW, hsame⟩ := X0.leave (v := some (.int (0 : Int32))) (fun h => by rw [Bd.returns] at h; cases h)
        refine ⟨_, _, retN X0 hx (t := .boolean) Bd.returns (by simp) (hb hby d_exp_68) hr, hrun, hended, _, _, rfl, ?_, ⟨_, rfl⟩, hW, hsame.mono (by decide) (by decide)⟩
        show Q_exp Z cj h0 n0 _ s₁.heap _
        rw [e0]
        exact ⟨(congrArg (fun z => some (Value.int z)) (by first | (simp only [own_exp, hc3, hc36, hc43, not_true_eq_false, not_false_eq_true, and_self, and_true, true_and, and_false, false_and, or_self, or_true, true_or, or_false, false_or, if_true, if_false, ↓reduceIte]; done) | (simp [own_exp, hc3, hc36, hc43]; done))), N0, rfl⟩
  · -- pc 3: no
    refine own_go (S' := s₁.setTop (mkF m 9 #[.val (.int cj), .val (.int (0 : Int32))] [(.int (64 : Int32)), (.int cj)])) (fun target kt => ?_) ?_
    · show Steps p.tables e below (s₁.setTop (mkF m 3 #[.val (.int cj), .val (.int (0 : Int32))] [(.int cj)])) target
      refine XS.ifNo X0.here hx rfl (hb hby d_exp_3) rfl ((if0 _ _).trans (flt hc3).1) ?_
      show Steps p.tables e below (s₁.setTop (mkF m 6 #[.val (.int cj), .val (.int (0 : Int32))] [])) target
      refine XS.iloadN X0.here hx rfl (hb hby d_exp_6) rfl ?_
      show Steps p.tables e below (s₁.setTop (mkF m 7 #[.val (.int cj), .val (.int (0 : Int32))] [(.int cj)])) target
      refine XS.bipush X0.here hx rfl (hb hby d_exp_7) ?_
      show Steps p.tables e below (s₁.setTop (mkF m 9 #[.val (.int cj), .val (.int (0 : Int32))] [(.int (64 : Int32)), (.int cj)])) target
      exact kt
    by_cases hc9 : cj < (64 : Int32)
    · -- pc 9: yes
      refine own_go (S' := s₁.setTop (mkF m 21 #[.val (.int cj), .val (.int (0 : Int32))] [(.int (lcmpW ((((288054454291267584 : Int64).toUInt64 >>> (cj &&& 0x3f).toInt64.toUInt64).toInt64) &&& (1 : Int64)) (0 : Int64)))])) (fun target kt => ?_) ?_
      · show Steps p.tables e below (s₁.setTop (mkF m 9 #[.val (.int cj), .val (.int (0 : Int32))] [(.int (64 : Int32)), (.int cj)])) target
        refine XS.icmpNo X0.here hx rfl (hb hby d_exp_9) rfl (tlt hc9).2.1 ?_
        show Steps p.tables e below (s₁.setTop (mkF m 12 #[.val (.int cj), .val (.int (0 : Int32))] [])) target
        refine X0.ldc2Long hx hown (mvT hZ (hw _ (List.mem_of_getElem? (i := 8) rfl))) (g := (mkF m 12 #[.val (.int cj), .val (.int (0 : Int32))] [])) rfl (hb hby d_exp_12) _ ?_
        show Steps p.tables e below (s₁.setTop (mkF m 15 #[.val (.int cj), .val (.int (0 : Int32))] [(.long (288054454291267584 : Int64))])) target
        refine XS.iloadN X0.here hx rfl (hb hby d_exp_15) rfl ?_
        show Steps p.tables e below (s₁.setTop (mkF m 16 #[.val (.int cj), .val (.int (0 : Int32))] [(.int cj), (.long (288054454291267584 : Int64))])) target
        refine XS.lushr X0.here hx rfl (hb hby d_exp_16) rfl ?_
        show Steps p.tables e below (s₁.setTop (mkF m 17 #[.val (.int cj), .val (.int (0 : Int32))] [(.long (((288054454291267584 : Int64).toUInt64 >>> (cj &&& 0x3f).toInt64.toUInt64).toInt64))])) target
        refine XS.lconst X0.here hx rfl (hb hby d_exp_17) ?_
        show Steps p.tables e below (s₁.setTop (mkF m 18 #[.val (.int cj), .val (.int (0 : Int32))] [(.long (1 : Int64)), (.long (((288054454291267584 : Int64).toUInt64 >>> (cj &&& 0x3f).toInt64.toUInt64).toInt64))])) target
        refine XS.land X0.here hx rfl (hb hby d_exp_18) rfl ?_
        show Steps p.tables e below (s₁.setTop (mkF m 19 #[.val (.int cj), .val (.int (0 : Int32))] [(.long ((((288054454291267584 : Int64).toUInt64 >>> (cj &&& 0x3f).toInt64.toUInt64).toInt64) &&& (1 : Int64)))])) target
        refine XS.lconst X0.here hx rfl (hb hby d_exp_19) ?_
        show Steps p.tables e below (s₁.setTop (mkF m 20 #[.val (.int cj), .val (.int (0 : Int32))] [(.long (0 : Int64)), (.long ((((288054454291267584 : Int64).toUInt64 >>> (cj &&& 0x3f).toInt64.toUInt64).toInt64) &&& (1 : Int64)))])) target
        refine XS.lcmp X0.here hx rfl (hb hby d_exp_20) rfl ?_
        show Steps p.tables e below (s₁.setTop (mkF m 21 #[.val (.int cj), .val (.int (0 : Int32))] [(.int (lcmpW ((((288054454291267584 : Int64).toUInt64 >>> (cj &&& 0x3f).toInt64.toUInt64).toInt64) &&& (1 : Int64)) (0 : Int64)))])) target
        exact kt
      by_cases hc21 : ((((288054454291267584 : Int64).toUInt64 >>> (cj &&& 0x3f).toInt64.toUInt64).toInt64) &&& (1 : Int64)) = (0 : Int64)
      · -- pc 21: yes
        refine own_go (S' := s₁.setTop (mkF m 68 #[.val (.int cj), .val (.int (0 : Int32))] [(.int (0 : Int32))])) (fun target kt => ?_) ?_
        · show Steps p.tables e below (s₁.setTop (mkF m 21 #[.val (.int cj), .val (.int (0 : Int32))] [(.int (lcmpW ((((288054454291267584 : Int64).toUInt64 >>> (cj &&& 0x3f).toInt64.toUInt64).toInt64) &&& (1 : Int64)) (0 : Int64)))])) target
          refine XS.ifYes X0.here hx rfl (pc0 := 21) (pc' := 28) rfl (hb hby d_exp_21) rfl ((if0 _ _).trans (teq (own_l1 hc21)).1) (by decide) (by decide) ?_
          show Steps p.tables e below (s₁.setTop (mkF m 28 #[.val (.int cj), .val (.int (0 : Int32))] [])) target
          refine XS.iconst X0.here hx rfl (hb hby d_exp_28) ?_
          show Steps p.tables e below (s₁.setTop (mkF m 29 #[.val (.int cj), .val (.int (0 : Int32))] [(.int (0 : Int32))])) target
          refine XS.istoreN X0.here hx rfl (hb hby d_exp_29) rfl (l' := #[.val (.int cj), .val (.int (0 : Int32))]) rfl ?_
          show Steps p.tables e below (s₁.setTop (mkF m 30 #[.val (.int cj), .val (.int (0 : Int32))] [])) target
          refine XS.goto X0.here hx rfl (pc0 := 30) (pc' := 67) rfl (hb hby d_exp_30) (by decide) (by decide) ?_
          show Steps p.tables e below (s₁.setTop (mkF m 67 #[.val (.int cj), .val (.int (0 : Int32))] [])) target
          refine XS.iloadN X0.here hx rfl (hb hby d_exp_67) rfl ?_
          show Steps p.tables e below (s₁.setTop (mkF m 68 #[.val (.int cj), .val (.int (0 : Int32))] [(.int (0 : Int32))])) target
          exact kt
        obtain ⟨fs, hr, hrun, hended, hW, hsame⟩ := X0.leave (v := some (.int (0 : Int32))) (fun h => by rw [Bd.returns] at h; cases h)
        refine ⟨_, _, retN X0 hx (t := .boolean) Bd.returns (by simp) (hb hby d_exp_68) hr, hrun, hended, _, _, rfl, ?_, ⟨_, rfl⟩, hW, hsame.mono (by decide) (by decide)⟩
        show Q_exp Z cj h0 n0 _ s₁.heap _
        rw [e0]
        exact ⟨(congrArg (fun z => some (Value.int z)) (by first | (simp only [own_exp, hc3, hc9, hc21, not_true_eq_false, not_false_eq_true, and_self, and_true, true_and, and_false, false_and, or_self, or_true, true_or, or_false, false_or, if_true, if_false, ↓reduceIte]; done) | (simp [own_exp, hc3, hc9, hc21]; done))), N0, rfl⟩
      · -- pc 21: no
        refine own_go (S' := s₁.setTop (mkF m 68 #[.val (.int cj), .val (.int (1 : Int32))] [(.int (1 : Int32))])) (fun target kt => ?_) ?_
        · show Steps p.tables e below (s₁.setTop (mkF m 21 #[.val (.int cj), .val (.int (0 : Int32))] [(.int (lcmpW ((((288054454291267584 : Int64).toUInt64 >>> (cj &&& 0x3f).toInt64.toUInt64).toInt64) &&& (1 : Int64)) (0 : Int64)))])) target
          refine XS.ifNo X0.here hx rfl (hb hby d_exp_21) rfl ((if0 _ _).trans (feq (own_l2 hc21)).1) ?_
          show Steps p.tables e below (s₁.setTop (mkF m 24 #[.val (.int cj), .val (.int (0 : Int32))] [])) target
          refine XS.iconst X0.here hx rfl (hb hby d_exp_24) ?_
          show Steps p.tables e below (s₁.setTop (mkF m 25 #[.val (.int cj), .val (.int (0 : Int32))] [(.int (1 : Int32))])) target
          refine XS.goto X0.here hx rfl (pc0 := 25) (pc' := 29) rfl (hb hby d_exp_25) (by decide) (by decide) ?_
          show Steps p.tables e below (s₁.setTop (mkF m 29 #[.val (.int cj), .val (.int (0 : Int32))] [(.int (1 : Int32))])) target
          refine XS.istoreN X0.here hx rfl (hb hby d_exp_29) rfl (l' := #[.val (.int cj), .val (.int (1 : Int32))]) rfl ?_
          show Steps p.tables e below (s₁.setTop (mkF m 30 #[.val (.int cj), .val (.int (1 : Int32))] [])) target
          refine XS.goto X0.here hx rfl (pc0 := 30) (pc' := 67) rfl (hb hby d_exp_30) (by decide) (by decide) ?_
          show Steps p.tables e below (s₁.setTop (mkF m 67 #[.val (.int cj), .val (.int (1 : Int32))] [])) target
          refine XS.iloadN X0.here hx rfl (hb hby d_exp_67) rfl ?_
          show Steps p.tables e below (s₁.setTop (mkF m 68 #[.val (.int cj), .val (.int (1 : Int32))] [(.int (1 : Int32))])) target
          exact kt
        obtain ⟨fs, hr, hrun, hended, hW, hsame⟩ := X0.leave (v := some (.int (1 : Int32))) (fun h => by rw [Bd.returns] at h; cases h)
        refine ⟨_, _, retN X0 hx (t := .boolean) Bd.returns (by simp) (hb hby d_exp_68) hr, hrun, hended, _, _, rfl, ?_, ⟨_, rfl⟩, hW, hsame.mono (by decide) (by decide)⟩
        show Q_exp Z cj h0 n0 _ s₁.heap _
        rw [e0]
        exact ⟨(congrArg (fun z => some (Value.int z)) (by first | (simp only [own_exp, hc3, hc9, hc21, not_true_eq_false, not_false_eq_true, and_self, and_true, true_and, and_false, false_and, or_self, or_true, true_or, or_false, false_or, if_true, if_false, ↓reduceIte]; done) | (simp [own_exp, hc3, hc9, hc21]; done))), N0, rfl⟩
    · -- pc 9: no
      refine own_go (S' := s₁.setTop (mkF m 43 #[.val (.int cj), .val (.int (0 : Int32))] [(.int (128 : Int32)), (.int cj)])) (fun target kt => ?_) ?_
      · show Steps p.tables e below (s₁.setTop (mkF m 9 #[.val (.int cj), .val (.int (0 : Int32))] [(.int (64 : Int32)), (.int cj)])) target
        refine XS.icmpYes X0.here hx rfl (pc0 := 9) (pc' := 33) rfl (hb hby d_exp_9) rfl (flt hc9).2.1 (by decide) (by decide) ?_
        show Steps p.tables e below (s₁.setTop (mkF m 33 #[.val (.int cj), .val (.int (0 : Int32))] [])) target
        refine XS.iloadN X0.here hx rfl (hb hby d_exp_33) rfl ?_
        show Steps p.tables e below (s₁.setTop (mkF m 34 #[.val (.int cj), .val (.int (0 : Int32))] [(.int cj)])) target
        refine XS.bipush X0.here hx rfl (hb hby d_exp_34) ?_
        show Steps p.tables e below (s₁.setTop (mkF m 36 #[.val (.int cj), .val (.int (0 : Int32))] [(.int (64 : Int32)), (.int cj)])) target
        refine XS.icmpNo X0.here hx rfl (hb hby d_exp_36) rfl (flt hc9).1 ?_
        show Steps p.tables e below (s₁.setTop (mkF m 39 #[.val (.int cj), .val (.int (0 : Int32))] [])) target
        refine XS.iloadN X0.here hx rfl (hb hby d_exp_39) rfl ?_
        show Steps p.tables e below (s₁.setTop (mkF m 40 #[.val (.int cj), .val (.int (0 : Int32))] [(.int cj)])) target
        refine XS.sipush X0.here hx rfl (hb hby d_exp_40) ?_
        show Steps p.tables e below (s₁.setTop (mkF m 43 #[.val (.int cj), .val (.int (0 : Int32))] [(.int (128 : Int32)), (.int cj)])) target
        exact kt
      by_cases hc43 : cj < (128 : Int32)
      · -- pc 43: yes
        refine own_go (S' := s₁.setTop (mkF m 58 #[.val (.int cj), .val (.int (0 : Int32))] [(.int (lcmpW ((((5188146764422578174 : Int64).toUInt64 >>> ((cj - (64 : Int32)) &&& 0x3f).toInt64.toUInt64).toInt64) &&& (1 : Int64)) (0 : Int64)))])) (fun target kt => ?_) ?_
        · show Steps p.tables e below (s₁.setTop (mkF m 43 #[.val (.int cj), .val (.int (0 : Int32))] [(.int (128 : Int32)), (.int cj)])) target
          refine XS.icmpNo X0.here hx rfl (hb hby d_exp_43) rfl (tlt hc43).2.1 ?_
          show Steps p.tables e below (s₁.setTop (mkF m 46 #[.val (.int cj), .val (.int (0 : Int32))] [])) target
          refine X0.ldc2Long hx hown (mvT hZ (hw _ (List.mem_of_getElem? (i := 9) rfl))) (g := (mkF m 46 #[.val (.int cj), .val (.int (0 : Int32))] [])) rfl (hb hby d_exp_46) _ ?_
          show Steps p.tables e below (s₁.setTop (mkF m 49 #[.val (.int cj), .val (.int (0 : Int32))] [(.long (5188146764422578174 : Int64))])) target
          refine XS.iloadN X0.here hx rfl (hb hby d_exp_49) rfl ?_
          show Steps p.tables e below (s₁.setTop (mkF m 50 #[.val (.int cj), .val (.int (0 : Int32))] [(.int cj), (.long (5188146764422578174 : Int64))])) target
          refine XS.bipush X0.here hx rfl (hb hby d_exp_50) ?_
          show Steps p.tables e below (s₁.setTop (mkF m 52 #[.val (.int cj), .val (.int (0 : Int32))] [(.int (64 : Int32)), (.int cj), (.long (5188146764422578174 : Int64))])) target
          refine XS.isub X0.here hx rfl (hb hby d_exp_52) rfl ?_
          show Steps p.tables e below (s₁.setTop (mkF m 53 #[.val (.int cj), .val (.int (0 : Int32))] [(.int (cj - (64 : Int32))), (.long (5188146764422578174 : Int64))])) target
          refine XS.lushr X0.here hx rfl (hb hby d_exp_53) rfl ?_
          show Steps p.tables e below (s₁.setTop (mkF m 54 #[.val (.int cj), .val (.int (0 : Int32))] [(.long (((5188146764422578174 : Int64).toUInt64 >>> ((cj - (64 : Int32)) &&& 0x3f).toInt64.toUInt64).toInt64))])) target
          refine XS.lconst X0.here hx rfl (hb hby d_exp_54) ?_
          show Steps p.tables e below (s₁.setTop (mkF m 55 #[.val (.int cj), .val (.int (0 : Int32))] [(.long (1 : Int64)), (.long (((5188146764422578174 : Int64).toUInt64 >>> ((cj - (64 : Int32)) &&& 0x3f).toInt64.toUInt64).toInt64))])) target
          refine XS.land X0.here hx rfl (hb hby d_exp_55) rfl ?_
          show Steps p.tables e below (s₁.setTop (mkF m 56 #[.val (.int cj), .val (.int (0 : Int32))] [(.long ((((5188146764422578174 : Int64).toUInt64 >>> ((cj - (64 : Int32)) &&& 0x3f).toInt64.toUInt64).toInt64) &&& (1 : Int64)))])) target
          refine XS.lconst X0.here hx rfl (hb hby d_exp_56) ?_
          show Steps p.tables e below (s₁.setTop (mkF m 57 #[.val (.int cj), .val (.int (0 : Int32))] [(.long (0 : Int64)), (.long ((((5188146764422578174 : Int64).toUInt64 >>> ((cj - (64 : Int32)) &&& 0x3f).toInt64.toUInt64).toInt64) &&& (1 : Int64)))])) target
          refine XS.lcmp X0.here hx rfl (hb hby d_exp_57) rfl ?_
          show Steps p.tables e below (s₁.setTop (mkF m 58 #[.val (.int cj), .val (.int (0 : Int32))] [(.int (lcmpW ((((5188146764422578174 : Int64).toUInt64 >>> ((cj - (64 : Int32)) &&& 0x3f).toInt64.toUInt64).toInt64) &&& (1 : Int64)) (0 : Int64)))])) target
          exact kt
        by_cases hc58 : ((((5188146764422578174 : Int64).toUInt64 >>> ((cj - (64 : Int32)) &&& 0x3f).toInt64.toUInt64).toInt64) &&& (1 : Int64)) = (0 : Int64)
        · -- pc 58: yes
          refine own_go (S' := s₁.setTop (mkF m 68 #[.val (.int cj), .val (.int (0 : Int32))] [(.int (0 : Int32))])) (fun target kt => ?_) ?_
          · show Steps p.tables e below (s₁.setTop (mkF m 58 #[.val (.int cj), .val (.int (0 : Int32))] [(.int (lcmpW ((((5188146764422578174 : Int64).toUInt64 >>> ((cj - (64 : Int32)) &&& 0x3f).toInt64.toUInt64).toInt64) &&& (1 : Int64)) (0 : Int64)))])) target
            refine XS.ifYes X0.here hx rfl (pc0 := 58) (pc' := 65) rfl (hb hby d_exp_58) rfl ((if0 _ _).trans (teq (own_l1 hc58)).1) (by decide) (by decide) ?_
            show Steps p.tables e below (s₁.setTop (mkF m 65 #[.val (.int cj), .val (.int (0 : Int32))] [])) target
            refine XS.iconst X0.here hx rfl (hb hby d_exp_65) ?_
            show Steps p.tables e below (s₁.setTop (mkF m 66 #[.val (.int cj), .val (.int (0 : Int32))] [(.int (0 : Int32))])) target
            refine XS.istoreN X0.here hx rfl (hb hby d_exp_66) rfl (l' := #[.val (.int cj), .val (.int (0 : Int32))]) rfl ?_
            show Steps p.tables e below (s₁.setTop (mkF m 67 #[.val (.int cj), .val (.int (0 : Int32))] [])) target
            refine XS.iloadN X0.here hx rfl (hb hby d_exp_67) rfl ?_
            show Steps p.tables e below (s₁.setTop (mkF m 68 #[.val (.int cj), .val (.int (0 : Int32))] [(.int (0 : Int32))])) target
            exact kt
          obtain ⟨fs, hr, hrun, hended, hW, hsame⟩ := X0.leave (v := some (.int (0 : Int32))) (fun h => by rw [Bd.returns] at h; cases h)
          refine ⟨_, _, retN X0 hx (t := .boolean) Bd.returns (by simp) (hb hby d_exp_68) hr, hrun, hended, _, _, rfl, ?_, ⟨_, rfl⟩, hW, hsame.mono (by decide) (by decide)⟩
          show Q_exp Z cj h0 n0 _ s₁.heap _
          rw [e0]
          exact ⟨(congrArg (fun z => some (Value.int z)) (by first | (simp only [own_exp, hc3, hc9, hc43, hc58, not_true_eq_false, not_false_eq_true, and_self, and_true, true_and, and_false, false_and, or_self, or_true, true_or, or_false, false_or, if_true, if_false, ↓reduceIte]; done) | (simp [own_exp, hc3, hc9, hc43, hc58]; done))), N0, rfl⟩
        · -- pc 58: no
          refine own_go (S' := s₁.setTop (mkF m 68 #[.val (.int cj), .val (.int (1 : Int32))] [(.int (1 : Int32))])) (fun target kt => ?_) ?_
          · show Steps p.tables e below (s₁.setTop (mkF m 58 #[.val (.int cj), .val (.int (0 : Int32))] [(.int (lcmpW ((((5188146764422578174 : Int64).toUInt64 >>> ((cj - (64 : Int32)) &&& 0x3f).toInt64.toUInt64).toInt64) &&& (1 : Int64)) (0 : Int64)))])) target
            refine XS.ifNo X0.here hx rfl (hb hby d_exp_58) rfl ((if0 _ _).trans (feq (own_l2 hc58)).1) ?_
            show Steps p.tables e below (s₁.setTop (mkF m 61 #[.val (.int cj), .val (.int (0 : Int32))] [])) target
            refine XS.iconst X0.here hx rfl (hb hby d_exp_61) ?_
            show Steps p.tables e below (s₁.setTop (mkF m 62 #[.val (.int cj), .val (.int (0 : Int32))] [(.int (1 : Int32))])) target
            refine XS.goto X0.here hx rfl (pc0 := 62) (pc' := 66) rfl (hb hby d_exp_62) (by decide) (by decide) ?_
            show Steps p.tables e below (s₁.setTop (mkF m 66 #[.val (.int cj), .val (.int (0 : Int32))] [(.int (1 : Int32))])) target
            refine XS.istoreN X0.here hx rfl (hb hby d_exp_66) rfl (l' := #[.val (.int cj), .val (.int (1 : Int32))]) rfl ?_
            show Steps p.tables e below (s₁.setTop (mkF m 67 #[.val (.int cj), .val (.int (1 : Int32))] [])) target
            refine XS.iloadN X0.here hx rfl (hb hby d_exp_67) rfl ?_
            show Steps p.tables e below (s₁.setTop (mkF m 68 #[.val (.int cj), .val (.int (1 : Int32))] [(.int (1 : Int32))])) target
            exact kt
          obtain ⟨fs, hr, hrun, hended, hW, hsame⟩ := X0.leave (v := some (.int (1 : Int32))) (fun h => by rw [Bd.returns] at h; cases h)
          refine ⟨_, _, retN X0 hx (t := .boolean) Bd.returns (by simp) (hb hby d_exp_68) hr, hrun, hended, _, _, rfl, ?_, ⟨_, rfl⟩, hW, hsame.mono (by decide) (by decide)⟩
          show Q_exp Z cj h0 n0 _ s₁.heap _
          rw [e0]
          exact ⟨(congrArg (fun z => some (Value.int z)) (by first | (simp only [own_exp, hc3, hc9, hc43, hc58, not_true_eq_false, not_false_eq_true, and_self, and_true, true_and, and_false, false_and, or_self, or_true, true_or, or_false, false_or, if_true, if_false, ↓reduceIte]; done) | (simp [own_exp, hc3, hc9, hc43, hc58]; done))), N0, rfl⟩
      · -- pc 43: no
        refine own_go (S' := s₁.setTop (mkF m 68 #[.val (.int cj), .val (.int (0 : Int32))] [(.int (0 : Int32))])) (fun target kt => ?_) ?_
        · show Steps p.tables e below (s₁.setTop (mkF m 43 #[.val (.int cj), .val (.int (0 : Int32))] [(.int (128 : Int32)), (.int cj)])) target
          refine XS.icmpYes X0.here hx rfl (pc0 := 43) (pc' := 67) rfl (hb hby d_exp_43) rfl (flt hc43).2.1 (by decide) (by decide) ?_
          show Steps p.tables e below (s₁.setTop (mkF m 67 #[.val (.int cj), .val (.int (0 : Int32))] [])) target
          refine XS.iloadN X0.here hx rfl (hb hby d_exp_67) rfl ?_
          show Steps p.tables e below (s₁.setTop (mkF m 68 #[.val (.int cj), .val (.int (0 : Int32))] [(.int (0 : Int32))])) target
          exact kt
        obtain ⟨fs, hr, hrun, hended, hW, hsame⟩ := X0.leave (v := some (.int (0 : Int32))) (fun h => by rw [Bd.returns] at h; cases h)
        refine ⟨_, _, retN X0 hx (t := .boolean) Bd.returns (by simp) (hb hby d_exp_68) hr, hrun, hended, _, _, rfl, ?_, ⟨_, rfl⟩, hW, hsame.mono (by decide) (by decide)⟩
        show Q_exp Z cj h0 n0 _ s₁.heap _
        rw [e0]
        exact ⟨(congrArg (fun z => some (Value.int z)) (by first | (simp only [own_exp, hc3, hc9, hc43, not_true_eq_false, not_false_eq_true, and_self, and_true, true_and, and_false, false_and, or_self, or_true, true_or, or_false, false_or, if_true, if_false, ↓reduceIte]; done) | (simp [own_exp, hc3, hc9, hc43]; done))), N0, rfl⟩
-- com/example/brisk_current/briskcurrent/hypermedia/UriEncodingIsUnreservedPinLaw.law:(II)Z
theorem pn_law : plainName "com/example/brisk_current/briskcurrent/hypermedia/UriEncodingIsUnreservedPinLaw" = true := by first | (simp [plainName, overriddenIn]; done) | decide +kernel
theorem ef_law (m : MethodId) (x0 : Int32) (y0 : Int32) : entryFrame m #[(.int x0), (.int y0)] maxLocals = mkF m 0 #[.val (.int x0), .val (.int y0), .unset] [] := by first | (simp [entryFrame, mkF, argsToLocals, Value.category, maxLocals]; done) | rfl
def Q_law (Z : State) (x0 : Int32) (y0 : Int32) (h0 : Heap) (n0 : Nat) (v : Option Value) (h : Heap) (L : List Loc) : Prop := v = some (.int (1 : Int32)) ∧ Fr n0 L
set_option maxRecDepth 65536 in
set_option maxHeartbeats 40000000 in
theorem rm_law (l : Launch) (Z : State) (a0 : Array Value) (hw : ∀ d ∈ tables_1, d.before a0 Z = true) (ws : List Jvm.Cond) (x0 : Int32) (y0 : Int32) (h0 : Heap) (n0 : Nat) (Z0 : n0 ≤ h0.size) :
    MetFree l x (head1 (Jvm.Cond.code x code maxLocals ret :: ws) room_1) (fun a U => a = #[(.int x0), (.int y0)] ∧ Z.Warmed39 U.vm ∧ U.heap = h0) (fun _ _ _ _ _ => True) (fun _ U o U' => ∃ v L, o = .returned v ∧ Q_law Z x0 y0 h0 n0 v U'.heap L ∧ FrameEnd U o U' L room_1.cells room_1.slots) := by
  refine MetFree.of_bodySF (plainFor_of_name pn_law) hisR ?_
  intro p e s m args below meth c s₁ Bd hml0 hP hK
  obtain ⟨rfl, hZ, hh⟩ := hP
  have hx := Bd.exec
  have hby := Bd.bytes
  have hml : c.maxLocals = 3 := hml0
  have hown : s.vm.findClass "com/example/brisk_current/briskcurrent/hypermedia/UriEncodingIsUnreservedPinLaw" = some m.cls := findClass_of_methodNamed Bd.named
  have hnm := (name_of_methodNamed Bd.named Bd.method).1
  have X0 : Stand p l e room_1 s m #[(.int x0), (.int y0)] below meth c s₁ [] 0 0 := Stand.of_body Bd
  have e0 : s₁.heap = h0 := by rw [← hh, Bd.state]; rfl
  have N0 := Fr.nil n0
  refine own_in ?_
  refine own_go (S' := s₁.setTop (mkF m 0 #[.val (.int x0), .val (.int y0), .unset] [])) (fun tgt_ stp_ => castTop (ef_law m x0 y0) stp_) ?_
  refine own_go (S' := s₁.setTop (mkF m 3 #[.val (.int x0), .val (.int y0), .unset] [(.int (y0 &&& (1 : Int32)))])) (fun target kt => ?_) ?_
  · show Steps p.tables e below (s₁.setTop (mkF m 0 #[.val (.int x0), .val (.int y0), .unset] [])) target
    refine XS.iloadN X0.here hx rfl (hb hby at_0) rfl ?_
    show Steps p.tables e below (s₁.setTop (mkF m 1 #[.val (.int x0), .val (.int y0), .unset] [(.int y0)])) target
    refine XS.iconst X0.here hx rfl (hb hby at_1) ?_
    show Steps p.tables e below (s₁.setTop (mkF m 2 #[.val (.int x0), .val (.int y0), .unset] [(.int (1 : Int32)), (.int y0)])) target
    refine XS.iand X0.here hx rfl (hb hby at_2) rfl ?_
    show Steps p.tables e below (s₁.setTop (mkF m 3 #[.val (.int x0), .val (.int y0), .unset] [(.int (y0 &&& (1 : Int32)))])) target
    exact kt
  by_cases hc3 : (y0 &&& (1 : Int32)) = (0 : Int32)
  · -- pc 3: yes
    obtain ⟨_, _, ⟨T_1, L_1, k_1, n_1⟩, -, X_1, ⟨Lc_1, hQ_1, l_1, y_1, z_1⟩, st_1⟩ := Jvm.LawKit.callS X0 hx (y := (⟨"com/example/brisk_current/briskcurrent/hypermedia/UriEncoding", "isUnreserved", "(I)Z"⟩ : MethodName)) hown (mvT hZ (hw _ (List.mem_of_getElem? (i := 0) rfl))) (mvT hZ (hw _ (List.mem_of_getElem? (i := 1) rfl))) (mvT hZ (hw _ (List.mem_of_getElem? (i := 2) rfl))) (mvT hZ (hw _ (List.mem_of_getElem? (i := 3) rfl))) (by decide) (backOf (W := 0) (rm_isu l Z a0 hw [] (x0 &&& (255 : Int32))  h0 n0 Z0 ) hZ (hw _ (List.mem_of_getElem? (i := 3) rfl)) (hw _ (List.mem_of_getElem? (i := 2) rfl)) (by decide) (by decide)) (g := (mkF m 17 #[.val (.int x0), .val (.int y0), .val (.int (x0 &&& (255 : Int32)))] [(.int (x0 &&& (255 : Int32)))])) rfl (by rw [hml]; rfl) (argsL := [(.int (x0 &&& (255 : Int32)))]) (rest := []) (lenOf pd_I_Z rfl) rfl (by show 2 * 0 + _ ≤ _; exact Nat.le_of_eq rfl) (hb hby at_17) (fun _ _ => ⟨rfl, e0, (by decide : 0 + 0 ≤ _), (by decide : 0 + 0 ≤ _)⟩)
    dsimp only [Pt.U, Pt.locs, Pt.cells, Pt.slots] at X_1 l_1 y_1 z_1 st_1 hQ_1
    subst l_1 y_1 z_1
    obtain ⟨rfl, N_1q, p_1_0⟩ := hQ_1
    have N_1 := Fr.app N0 N_1q
    obtain ⟨_, _, ⟨T_2, L_2, k_2, n_2⟩, -, X_2, ⟨Lc_2, hQ_2, l_2, y_2, z_2⟩, st_2⟩ := Jvm.LawKit.callS X_1 hx (y := (⟨"com/example/brisk_current/briskcurrent/hypermedia/UriEncodingIsUnreservedPinLaw", "expected", "(I)Z"⟩ : MethodName)) hown (mvT hZ (hw _ (List.mem_of_getElem? (i := 4) rfl))) (mvT hZ (hw _ (List.mem_of_getElem? (i := 5) rfl))) (mvT hZ (hw _ (List.mem_of_getElem? (i := 6) rfl))) (mvT hZ (hw _ (List.mem_of_getElem? (i := 7) rfl))) (by decide) (backOf (W := 1) (rm_exp l Z a0 hw [] (x0 &&& (255 : Int32))  h0 n0 Z0 ) hZ (hw _ (List.mem_of_getElem? (i := 7) rfl)) (hw _ (List.mem_of_getElem? (i := 6) rfl)) (by decide) (by decide)) (g := (mkF m 21 #[.val (.int x0), .val (.int y0), .val (.int (x0 &&& (255 : Int32)))] [(.int (x0 &&& (255 : Int32))), (.int (own_unres (x0 &&& (255 : Int32))))])) rfl (by rw [hml]; rfl) (argsL := [(.int (x0 &&& (255 : Int32)))]) (rest := [(.int (own_unres (x0 &&& (255 : Int32))))]) (lenOf pd_I_Z rfl) rfl (by show 2 * 0 + _ ≤ _; exact Nat.le_of_eq rfl) (hb hby at_21) (fun _ _ => ⟨rfl, p_1_0, (by decide : 0 + 0 ≤ _), (by decide : 0 + 0 ≤ _)⟩)
    dsimp only [Pt.U, Pt.locs, Pt.cells, Pt.slots] at X_2 l_2 y_2 z_2 st_2 hQ_2
    subst l_2 y_2 z_2
    obtain ⟨rfl, N_2q, p_2_0⟩ := hQ_2
    have N_2 := Fr.app N_1 N_2q
    refine own_go (S' := T_2.setTop (mkF m 32 #[.val (.int x0), .val (.int y0), .val (.int (x0 &&& (255 : Int32)))] [(.int (1 : Int32))])) (fun target kt => ?_) ?_
    · show Steps p.tables e below (s₁.setTop (mkF m 3 #[.val (.int x0), .val (.int y0), .unset] [(.int (y0 &&& (1 : Int32)))])) target
      refine XS.ifYes X0.here hx rfl (pc0 := 3) (pc' := 10) rfl (hb hby at_3) rfl ((if0 _ _).trans (teq hc3).1) (by decide) (by decide) ?_
      show Steps p.tables e below (s₁.setTop (mkF m 10 #[.val (.int x0), .val (.int y0), .unset] [])) target
      refine XS.iloadN X0.here hx rfl (hb hby at_10) rfl ?_
      show Steps p.tables e below (s₁.setTop (mkF m 11 #[.val (.int x0), .val (.int y0), .unset] [(.int x0)])) target
      refine XS.sipush X0.here hx rfl (hb hby at_11) ?_
      show Steps p.tables e below (s₁.setTop (mkF m 14 #[.val (.int x0), .val (.int y0), .unset] [(.int (255 : Int32)), (.int x0)])) target
      refine XS.iand X0.here hx rfl (hb hby at_14) rfl ?_
      show Steps p.tables e below (s₁.setTop (mkF m 15 #[.val (.int x0), .val (.int y0), .unset] [(.int (x0 &&& (255 : Int32)))])) target
      refine XS.istoreN X0.here hx rfl (hb hby at_15) rfl (l' := #[.val (.int x0), .val (.int y0), .val (.int (x0 &&& (255 : Int32)))]) rfl ?_
      show Steps p.tables e below (s₁.setTop (mkF m 16 #[.val (.int x0), .val (.int y0), .val (.int (x0 &&& (255 : Int32)))] [])) target
      refine XS.iloadN X0.here hx rfl (hb hby at_16) rfl ?_
      show Steps p.tables e below (s₁.setTop (mkF m 17 #[.val (.int x0), .val (.int y0), .val (.int (x0 &&& (255 : Int32)))] [(.int (x0 &&& (255 : Int32)))])) target
      refine st_1 _ ?_
      show Steps p.tables e below (T_1.setTop (mkF m 20 #[.val (.int x0), .val (.int y0), .val (.int (x0 &&& (255 : Int32)))] [(.int (own_unres (x0 &&& (255 : Int32))))])) target
      refine XS.iloadN X_1.here hx rfl (hb hby at_20) rfl ?_
      show Steps p.tables e below (T_1.setTop (mkF m 21 #[.val (.int x0), .val (.int y0), .val (.int (x0 &&& (255 : Int32)))] [(.int (x0 &&& (255 : Int32))), (.int (own_unres (x0 &&& (255 : Int32))))])) target
      refine st_2 _ ?_
      show Steps p.tables e below (T_2.setTop (mkF m 24 #[.val (.int x0), .val (.int y0), .val (.int (x0 &&& (255 : Int32)))] [(.int (own_exp (x0 &&& (255 : Int32)))), (.int (own_unres (x0 &&& (255 : Int32))))])) target
      refine XS.icmpNo X_2.here hx rfl (hb hby at_24) rfl (teq (own_ue _ : (own_unres (x0 &&& (255 : Int32))) = (own_exp (x0 &&& (255 : Int32))))).2 ?_
      show Steps p.tables e below (T_2.setTop (mkF m 27 #[.val (.int x0), .val (.int y0), .val (.int (x0 &&& (255 : Int32)))] [])) target
      refine XS.iconst X_2.here hx rfl (hb hby at_27) ?_
      show Steps p.tables e below (T_2.setTop (mkF m 28 #[.val (.int x0), .val (.int y0), .val (.int (x0 &&& (255 : Int32)))] [(.int (1 : Int32))])) target
      refine XS.goto X_2.here hx rfl (pc0 := 28) (pc' := 32) rfl (hb hby at_28) (by decide) (by decide) ?_
      show Steps p.tables e below (T_2.setTop (mkF m 32 #[.val (.int x0), .val (.int y0), .val (.int (x0 &&& (255 : Int32)))] [(.int (1 : Int32))])) target
      exact kt
    obtain ⟨fs, hr, hrun, hended, hW, hsame⟩ := X_2.leave (v := some (.int (1 : Int32))) (fun h => by rw [Bd.returns] at h; cases h)
    refine ⟨_, _, retN X_2 hx (t := .boolean) Bd.returns (by simp) (hb hby at_32) hr, hrun, hended, _, _, rfl, ?_, ⟨_, rfl⟩, hW, hsame.mono (by decide) (by decide)⟩
    show Q_law Z x0 y0 h0 n0 _ T_2.heap _
    rw [p_2_0]
    exact ⟨rfl, N_2⟩
  · -- pc 3: no
    obtain ⟨_, _, ⟨T_3, L_3, k_3, n_3⟩, -, X_3, ⟨Lc_3, hQ_3, l_3, y_3, z_3⟩, st_3⟩ := Jvm.LawKit.callS X0 hx (y := (⟨"com/example/brisk_current/briskcurrent/hypermedia/UriEncoding", "isUnreserved", "(I)Z"⟩ : MethodName)) hown (mvT hZ (hw _ (List.mem_of_getElem? (i := 0) rfl))) (mvT hZ (hw _ (List.mem_of_getElem? (i := 1) rfl))) (mvT hZ (hw _ (List.mem_of_getElem? (i := 2) rfl))) (mvT hZ (hw _ (List.mem_of_getElem? (i := 3) rfl))) (by decide) (backOf (W := 0) (rm_isu l Z a0 hw [] x0  h0 n0 Z0 ) hZ (hw _ (List.mem_of_getElem? (i := 3) rfl)) (hw _ (List.mem_of_getElem? (i := 2) rfl)) (by decide) (by decide)) (g := (mkF m 17 #[.val (.int x0), .val (.int y0), .val (.int x0)] [(.int x0)])) rfl (by rw [hml]; rfl) (argsL := [(.int x0)]) (rest := []) (lenOf pd_I_Z rfl) rfl (by show 2 * 0 + _ ≤ _; exact Nat.le_of_eq rfl) (hb hby at_17) (fun _ _ => ⟨rfl, e0, (by decide : 0 + 0 ≤ _), (by decide : 0 + 0 ≤ _)⟩)
    dsimp only [Pt.U, Pt.locs, Pt.cells, Pt.slots] at X_3 l_3 y_3 z_3 st_3 hQ_3
    subst l_3 y_3 z_3
    obtain ⟨rfl, N_3q, p_3_0⟩ := hQ_3
    have N_3 := Fr.app N0 N_3q
    obtain ⟨_, _, ⟨T_4, L_4, k_4, n_4⟩, -, X_4, ⟨Lc_4, hQ_4, l_4, y_4, z_4⟩, st_4⟩ := Jvm.LawKit.callS X_3 hx (y := (⟨"com/example/brisk_current/briskcurrent/hypermedia/UriEncodingIsUnreservedPinLaw", "expected", "(I)Z"⟩ : MethodName)) hown (mvT hZ (hw _ (List.mem_of_getElem? (i := 4) rfl))) (mvT hZ (hw _ (List.mem_of_getElem? (i := 5) rfl))) (mvT hZ (hw _ (List.mem_of_getElem? (i := 6) rfl))) (mvT hZ (hw _ (List.mem_of_getElem? (i := 7) rfl))) (by decide) (backOf (W := 1) (rm_exp l Z a0 hw [] x0  h0 n0 Z0 ) hZ (hw _ (List.mem_of_getElem? (i := 7) rfl)) (hw _ (List.mem_of_getElem? (i := 6) rfl)) (by decide) (by decide)) (g := (mkF m 21 #[.val (.int x0), .val (.int y0), .val (.int x0)] [(.int x0), (.int (own_unres x0))])) rfl (by rw [hml]; rfl) (argsL := [(.int x0)]) (rest := [(.int (own_unres x0))]) (lenOf pd_I_Z rfl) rfl (by show 2 * 0 + _ ≤ _; exact Nat.le_of_eq rfl) (hb hby at_21) (fun _ _ => ⟨rfl, p_3_0, (by decide : 0 + 0 ≤ _), (by decide : 0 + 0 ≤ _)⟩)
    dsimp only [Pt.U, Pt.locs, Pt.cells, Pt.slots] at X_4 l_4 y_4 z_4 st_4 hQ_4
    subst l_4 y_4 z_4
    obtain ⟨rfl, N_4q, p_4_0⟩ := hQ_4
    have N_4 := Fr.app N_3 N_4q
    refine own_go (S' := T_4.setTop (mkF m 32 #[.val (.int x0), .val (.int y0), .val (.int x0)] [(.int (1 : Int32))])) (fun target kt => ?_) ?_
    · show Steps p.tables e below (s₁.setTop (mkF m 3 #[.val (.int x0), .val (.int y0), .unset] [(.int (y0 &&& (1 : Int32)))])) target
      refine XS.ifNo X0.here hx rfl (hb hby at_3) rfl ((if0 _ _).trans (feq hc3).1) ?_
      show Steps p.tables e below (s₁.setTop (mkF m 6 #[.val (.int x0), .val (.int y0), .unset] [])) target
      refine XS.iloadN X0.here hx rfl (hb hby at_6) rfl ?_
      show Steps p.tables e below (s₁.setTop (mkF m 7 #[.val (.int x0), .val (.int y0), .unset] [(.int x0)])) target
      refine XS.goto X0.here hx rfl (pc0 := 7) (pc' := 15) rfl (hb hby at_7) (by decide) (by decide) ?_
      show Steps p.tables e below (s₁.setTop (mkF m 15 #[.val (.int x0), .val (.int y0), .unset] [(.int x0)])) target
      refine XS.istoreN X0.here hx rfl (hb hby at_15) rfl (l' := #[.val (.int x0), .val (.int y0), .val (.int x0)]) rfl ?_
      show Steps p.tables e below (s₁.setTop (mkF m 16 #[.val (.int x0), .val (.int y0), .val (.int x0)] [])) target
      refine XS.iloadN X0.here hx rfl (hb hby at_16) rfl ?_
      show Steps p.tables e below (s₁.setTop (mkF m 17 #[.val (.int x0), .val (.int y0), .val (.int x0)] [(.int x0)])) target
      refine st_3 _ ?_
      show Steps p.tables e below (T_3.setTop (mkF m 20 #[.val (.int x0), .val (.int y0), .val (.int x0)] [(.int (own_unres x0))])) target
      refine XS.iloadN X_3.here hx rfl (hb hby at_20) rfl ?_
      show Steps p.tables e below (T_3.setTop (mkF m 21 #[.val (.int x0), .val (.int y0), .val (.int x0)] [(.int x0), (.int (own_unres x0))])) target
      refine st_4 _ ?_
      show Steps p.tables e below (T_4.setTop (mkF m 24 #[.val (.int x0), .val (.int y0), .val (.int x0)] [(.int (own_exp x0)), (.int (own_unres x0))])) target
      refine XS.icmpNo X_4.here hx rfl (hb hby at_24) rfl (teq (own_ue _ : (own_unres x0) = (own_exp x0))).2 ?_
      show Steps p.tables e below (T_4.setTop (mkF m 27 #[.val (.int x0), .val (.int y0), .val (.int x0)] [])) target
      refine XS.iconst X_4.here hx rfl (hb hby at_27) ?_
      show Steps p.tables e below (T_4.setTop (mkF m 28 #[.val (.int x0), .val (.int y0), .val (.int x0)] [(.int (1 : Int32))])) target
      refine XS.goto X_4.here hx rfl (pc0 := 28) (pc' := 32) rfl (hb hby at_28) (by decide) (by decide) ?_
      show Steps p.tables e below (T_4.setTop (mkF m 32 #[.val (.int x0), .val (.int y0), .val (.int x0)] [(.int (1 : Int32))])) target
      exact kt
    obtain ⟨fs, hr, hrun, hended, hW, hsame⟩ := X_4.leave (v := some (.int (1 : Int32))) (fun h => by rw [Bd.returns] at h; cases h)
    refine ⟨_, _, retN X_4 hx (t := .boolean) Bd.returns (by simp) (hb hby at_32) hr, hrun, hended, _, _, rfl, ?_, ⟨_, rfl⟩, hW, hsame.mono (by decide) (by decide)⟩
    show Q_law Z x0 y0 h0 n0 _ T_4.heap _
    rw [p_4_0]
    exact ⟨rfl, N_4⟩
set_option maxRecDepth 65536 in
set_option maxHeartbeats 40000000 in
theorem comes_1 {Post : Tables → Env → Array Value → State → Outcome → State → Prop} (hpost : ∀ tb e args s v u, (limb_1_1.after args s (.returned v) u = true ∧ limb_1_2.after args s (.returned v) u = true ∧ True) → FrameEnd s (.returned v) u (Jvm.fieldLocs frame_1_writes args s ++ Jvm.arrayLocs frame_1_arrays args s ++ Jvm.staticLocs frame_1_statics s) 0 0 → Post tb e args s (.returned v) u) :
    ArmFor flags0 classFile x code maxLocals ret World_1 tables_1 room_1 Calls_1 rest_1 Pre_1 Post := by
  intro l hfl _ _ p e ha hc hk s m args below hf hA hF happ hP
  obtain ⟨hcalls, hrest, hpre⟩ := hP
  obtain ⟨-, -, -, hnamed, -, -, -, hat⟩ := (Spec.applies_iff hf).mp happ
  obtain ⟨hg, hn⟩ := and_e (Cond.before_iff.mp (show (Jvm.Cond.and given_1 narrow_1).before args s = true from hpre))
  obtain ⟨gc0, gd0⟩ := and_e hg
  obtain ⟨gc1, gd1⟩ := and_e gd0
  obtain ⟨w0, w1, rfl⟩ : ∃ w0 w1 : Value, args = #[w0, w1] := by
    have hs : args.size = 2 := by simpa [Cond.value, given_1] using gc0
    obtain ⟨L⟩ := args
    match L, hs with
    | [w0, w1], _ => exact ⟨w0, w1, rfl⟩
  have hw := fun d (hd : d ∈ tables_1) => atoms_spec (ws := Jvm.Cond.code x code maxLocals ret :: tables_1) hat d (List.mem_cons_of_mem _ hd)
  obtain ⟨i0, ei0⟩ := is_v gc1
  obtain rfl : w0 = (.int i0) := Option.some.inj ei0
  obtain ⟨i1, ei1⟩ := is_v gd1
  obtain rfl : w1 = (.int i1) := Option.some.inj ei1
  obtain ⟨n, o, h1, h2, h3, _, L, rfl, ⟨rfl, N⟩, hq⟩ := rm_law l s _ hw tables_1 i0 i1 s.heap s.heap.size (Nat.le_refl _) p e ha hc hk s m _ below hf ((Spec.applies_iff_loose hf).mp happ).1 ⟨rfl, State.Warmed39.refl s, rfl⟩ trivial
  refine ⟨n, _, h1, h2, h3, hpost _ _ _ _ _ _ ⟨Cond.after_iff.mpr rfl, Cond.after_iff.mpr (eq_i res_at (Term.int_eval (1)) rfl), trivial⟩ ⟨hq.1, hq.2.1, (hq.2.2.sift fun y hy => Or.inr (N y hy)).mono (by decide) (by decide)⟩⟩
theorem main_1_1 : Claimed_1_1 := comes_1 fun _ _ _ _ _ _ h hF => ⟨h.1, hF⟩
theorem main_1_2 : Claimed_1_2 := comes_1 fun _ _ _ _ _ _ h hF => ⟨h.2.1, hF⟩
end Jvm.Pilot.@@N@@
namespace Jvm.Pilot.@@N@@
open Jvm Jvm.ClassFile Sem Op Lib Jvm.Free Jvm.Stand Jvm.Pilot.@@N@@.Jvm.D
/-! MADE BY PROGRAM (witnessworld.py) out of the Statement's table words and the real class files: 9 classes; the members and pool entries that the words name. The judged class is class 1, her method 2. -/
namespace start1
open Jvm.ClassFile
def u (s : String) : CpInfo := .utf8 (stringToUtf16 s)
/-- a pool by its gaps: so many unusable entries, then the entry; so many at the end -/
def gap : Nat → List CpInfo → List CpInfo
  | 0, r => r
  | n + 1, r => .unusable :: gap n r
def poolList (es : List (Nat × CpInfo)) (last : Nat) : List CpInfo := es.foldr (fun e r => gap e.1 (e.2 :: r)) (gap last [])
def pool (es : List (Nat × CpInfo)) (last : Nat) : Array CpInfo := ⟨poolList es last⟩
def fileOf (pool : Array CpInfo) (this : Nat) (attrs : Array Attribute := #[]) (ms : Array MethodInfo := #[]) (fl : Nat := 33) (sup : Nat := 0) (ifs : Array Nat := #[]) (fds : Array FieldInfo := #[]) : ClassFile where
  minorVersion := 0
  majorVersion := 65
  constantPool := pool
  accessFlags := fl
  thisClass := this
  superClass := sup
  interfaces := ifs
  fields := fds
  methods := ms
  attributes := attrs
def plain (name : String) (sup : Option ClassId) : Class where
  name := name
  kind := .ordinary
  loader := none
  accessFlags := 33
  super := sup
  interfaces := #[]
  cf := none
  fields := #[]
  methods := #[]
  instanceTypes := #[]
  staticTypes := #[]
  resolved := #[]
  callSites := []
  init := .initialized
  statics := none
  mirror := none

def pool0 : Array CpInfo := pool [(5, u "<init>"), (0, u "()V"), (1, .class_ 10), (1, u "java/lang/Object")] 113

def k0m0 : Method := { name := "<init>", desc := "()V", sig := { parameters := [], returnType := none }, accessFlags := 1, code := none }
/-- java/lang/Object -/
def k0 : Class := { plain "java/lang/Object" none with
  accessFlags := 33
  interfaces := #[]
  cf := some (fileOf pool0 8 #[] #[{ accessFlags := 1, nameIndex := 5, descriptorIndex := 6, attributes := #[] }] 33 0 #[] #[])
  fields := #[]
  methods := #[k0m0]
  instanceTypes := #[]
  staticTypes := #[]
  resolved := Array.replicate 124 none
  statics := none }

def pool1 : Array CpInfo := pool [(2, .class_ 4), (1, u "java/lang/Object"), (0, u "<init>"), (0, u "()V"), (0, .long 288054454291267584), (1, .long 5188146764422578174), (1, .methodref 12 13), (0, .class_ 14), (0, .nameAndType 15 16), (0, u "com/example/brisk_current/briskcurrent/hypermedia/UriEncoding"), (0, u "isUnreserved"), (0, u "(I)Z"), (0, .methodref 18 19), (0, .class_ 20), (0, .nameAndType 21 16), (0, u "com/example/brisk_current/briskcurrent/hypermedia/UriEncodingIsUnreservedPinLaw"), (0, u "expected"), (3, u "law"), (0, u "(II)Z")] 2

def k1m0 : Method := { name := "<init>", desc := "()V", sig := { parameters := [], returnType := none }, accessFlags := 2, code := none }
def k1c1 : Code := { maxStack := 4, maxLocals := 2, code := method_2_code, exceptionTable := #[], attributes := #[] }
def k1m1 : Method := { name := "expected", desc := "(I)Z", sig := { parameters := [.int], returnType := some .boolean }, accessFlags := 10, code := some k1c1 }
def k1c2 : Code := { maxStack := 2, maxLocals := 3, code := code, exceptionTable := #[], attributes := #[] }
def k1m2 : Method := { name := "law", desc := "(II)Z", sig := { parameters := [.int, .int], returnType := some .boolean }, accessFlags := 9, code := some k1c2 }
/-- com/example/brisk_current/briskcurrent/hypermedia/UriEncodingIsUnreservedPinLaw -/
def k1 : Class := { plain "com/example/brisk_current/briskcurrent/hypermedia/UriEncodingIsUnreservedPinLaw" (some 0) with
  accessFlags := 49
  interfaces := #[]
  cf := some (fileOf pool1 18 #[] #[{ accessFlags := 2, nameIndex := 5, descriptorIndex := 6, attributes := #[] }, { accessFlags := 10, nameIndex := 21, descriptorIndex := 16, attributes := #[] }, { accessFlags := 9, nameIndex := 25, descriptorIndex := 26, attributes := #[] }] 49 2 #[] #[])
  fields := #[]
  methods := #[k1m0, k1m1, k1m2]
  instanceTypes := #[]
  staticTypes := #[]
  resolved := Array.replicate 29 none
  statics := none }

def pool2 : Array CpInfo := pool [(2, .class_ 4), (1, u "java/lang/Object"), (0, u "<init>"), (0, u "()V"), (0, .class_ 8), (0, u "com/example/brisk_current/briskcurrent/hypermedia/UriEncoding"), (10, u "isUnreserved"), (0, u "(I)Z"), (84, u "HEX"), (0, u "Ljava/util/HexFormat;"), (14, u "RESERVED"), (0, u "Ljava/lang/String;")] 29

def k2m0 : Method := { name := "<init>", desc := "()V", sig := { parameters := [], returnType := none }, accessFlags := 2, code := none }
def k2c1 : Code := { maxStack := 2, maxLocals := 1, code := prog_18_method_2_code, exceptionTable := #[], attributes := #[] }
def k2m1 : Method := { name := "isUnreserved", desc := "(I)Z", sig := { parameters := [.int], returnType := some .boolean }, accessFlags := 8, code := some k2c1 }
/-- com/example/brisk_current/briskcurrent/hypermedia/UriEncoding -/
def k2 : Class := { plain "com/example/brisk_current/briskcurrent/hypermedia/UriEncoding" (some 0) with
  accessFlags := 32
  interfaces := #[]
  cf := some (fileOf pool2 7 #[] #[{ accessFlags := 2, nameIndex := 5, descriptorIndex := 6, attributes := #[] }, { accessFlags := 8, nameIndex := 19, descriptorIndex := 20, attributes := #[] }] 32 2 #[] #[{ accessFlags := 26, nameIndex := 121, descriptorIndex := 122, attributes := #[] }, { accessFlags := 26, nameIndex := 105, descriptorIndex := 106, attributes := #[] }])
  fields := #[{ name := "RESERVED", type := (.object "java/lang/String"), accessFlags := 26, slot := 0, constantValue := 0 }, { name := "HEX", type := (.object "java/util/HexFormat"), accessFlags := 26, slot := 1, constantValue := 0 }]
  methods := #[k2m0, k2m1]
  instanceTypes := #[]
  staticTypes := #[(.object "java/lang/String"), (.object "java/util/HexFormat")]
  resolved := Array.replicate 152 none
  statics := none }

def pool3 : Array CpInfo := pool [(1, u "java/lang/Cloneable"), (0, .class_ 1), (0, u "java/lang/Object"), (0, .class_ 3)] 3

/-- java/lang/Cloneable -/
def k3 : Class := { plain "java/lang/Cloneable" (some 0) with
  accessFlags := 1537
  interfaces := #[]
  cf := some (fileOf pool3 2 #[] #[] 1537 4 #[] #[])
  fields := #[]
  methods := #[]
  instanceTypes := #[]
  staticTypes := #[]
  resolved := Array.replicate 8 none
  statics := none }

def pool4 : Array CpInfo := pool [(1, u "java/io/Serializable"), (0, .class_ 1), (0, u "java/lang/Object"), (0, .class_ 3)] 3

/-- java/io/Serializable -/
def k4 : Class := { plain "java/io/Serializable" (some 0) with
  accessFlags := 1537
  interfaces := #[]
  cf := some (fileOf pool4 2 #[] #[] 1537 4 #[] #[])
  fields := #[]
  methods := #[]
  instanceTypes := #[]
  staticTypes := #[]
  resolved := Array.replicate 8 none
  statics := none }

/-- the primitive byte -/
def k5 : Class := { plain "byte" none with kind := .primitive 'B', accessFlags := 0x411 }
/-- [B -/
def k6 : Class := { plain "[B" (some 0) with kind := .array 5 .byte, interfaces := #[3, 4], accessFlags := 1041 }

/-- the primitive int -/
def k7 : Class := { plain "int" none with kind := .primitive 'I', accessFlags := 0x411 }
/-- [I -/
def k8 : Class := { plain "[I" (some 0) with kind := .array 7 .int, interfaces := #[3, 4], accessFlags := 1041 }

def heap : Heap := #[]
def classes : Array Class := #[k0, k1, k2, k3, k4, k5, k6, k7, k8]
def interned : List (Array UInt16 × Addr) := []
def slotsUsed : Nat := 0
def theMethod : MethodId := ⟨1, 2⟩
def args0 : Array Value := #[.int 5, .int 1]
def aboutOver (below : List Frame) : State where
  vm := { classes := classes, interned := interned.toArray }
  heap := heap
  slotsUsed := slotsUsed
  threads := #[{ frames := .invoking theMethod args0 :: below }]
def below0 : List Frame := [.native { method := ⟨0, 0⟩, args := #[] }]
def about1 : State := aboutOver below0
def p0 : Program := .bare "" "" ""
def e0 : Env := launch0.env 0 0 0
theorem w_frames : about1.frames = Frame.invoking theMethod args0 :: below0 := rfl
set_option maxRecDepth 65536 in
theorem w_args : argsFit about1.vm theMethod args0 = true := by decide +kernel
set_option maxRecDepth 65536 in
theorem w_heap : heapFits about1 = true := by decide +kernel
set_option maxRecDepth 65536 in
theorem w_runnable : about1.curStatus? = some .runnable := by decide +kernel
set_option maxRecDepth 65536 in
theorem w_alone : about1.alone = true := by decide +kernel
set_option maxRecDepth 65536 in
theorem w_named : about1.methodNamed? x = some theMethod := by decide +kernel
set_option maxRecDepth 65536 in
theorem w_hears : about1.hears theMethod below0 = true := by decide +kernel
set_option maxRecDepth 65536 in
theorem w_ripe : about1.ripe theMethod args0 below0 = true := by decide +kernel
theorem w_running : about1.status = .running := rfl
set_option maxRecDepth 65536 in
theorem w_room : about1.hasRoom e0.platform room_1 = true :=
  launch0.hasRoom_least _ room_1 (by decide +kernel) (by decide +kernel) (by decide +kernel) (by decide +kernel) (by decide +kernel) (by decide +kernel)
theorem allAtoms_all (ts : List Jvm.Cond) (a : Array Jvm.Value) (st : Jvm.State) : (allAtoms ts).before a st = ts.all (fun c => c.before a st) := by
  induction ts with
  | nil => rfl
  | cons c t ih =>
    show (Jvm.Cond.and c (allAtoms t)).before a st = _
    rw [Jvm.Cond.before_and, ih, List.all_cons]
def words1 : List Jvm.Cond := Jvm.Cond.code x code maxLocals ret :: tables_1
/-- a 'code' word, met by the world's own term for the bytes: nothing is compared byte by byte -/
theorem code_word {y : MethodName} {bytes : ByteArray} {mx : Nat} {rt : Option FieldType} {a : Array Value} {s : State} {m : MethodId} {meth : Method} {c : Code} (h1 : s.methodNamed? y = some m) (h2 : s.vm.method? m = some meth) (h3 : meth.code = some c) (h4 : c.code = bytes)
    (h5 : (c.maxLocals == mx && c.exceptionTable.isEmpty && decide (c.maxStack ≤ mostOperands) && decide (meth.sig.returnType = rt) && !meth.locks && decide (parseMethodDescriptor y.desc = some meth.sig)) = true) : (Jvm.Cond.code y bytes mx rt).before a s = true := by
  simp only [Bool.and_eq_true, beq_iff_eq, Bool.not_eq_true', decide_eq_true_eq] at h5
  obtain ⟨⟨⟨⟨⟨g1, g2⟩, g3⟩, g4⟩, g5⟩, g6⟩ := h5
  simp [Cond.before, Cond.holds, Cond.value, h1, h2, h3, h4, g1, g2, g3, g4, g5, g6]
def isCode : Jvm.Cond → Bool
  | .code _ _ _ _ => true
  | _ => false
theorem all_split {L : List Jvm.Cond} {P : Jvm.Cond → Bool} (h1 : L.all (fun c => isCode c || P c) = true) (h2 : ∀ c ∈ L.filter isCode, P c = true) : L.all P = true := by
  refine List.all_eq_true.mpr fun c hc => ?_
  have h := List.all_eq_true.mp h1 c hc
  rcases Bool.eq_false_or_eq_true (isCode c) with hi | hi
  · exact h2 c (List.mem_filter.mpr ⟨hc, hi⟩)
  · simpa [hi] using h
set_option maxRecDepth 65536 in
theorem w_c0 : (Jvm.Cond.code x code maxLocals ret).before args0 about1 = true := code_word (m := ⟨1, 2⟩) (meth := k1m2) (c := k1c2) (by decide +kernel) rfl rfl rfl (by decide +kernel)
set_option maxRecDepth 65536 in
theorem w_c1 : (Jvm.Cond.code ({ cls := "com/example/brisk_current/briskcurrent/hypermedia/UriEncoding", name := "isUnreserved", desc := "(I)Z" } : Jvm.MethodName) prog_18_method_2_code (1 : Nat) (Option.some Jvm.ClassFile.FieldType.boolean)).before args0 about1 = true := code_word (m := ⟨2, 1⟩) (meth := k2m1) (c := k2c1) (by decide +kernel) rfl rfl rfl (by decide +kernel)
set_option maxRecDepth 65536 in
theorem w_c2 : (Jvm.Cond.code ({ cls := "com/example/brisk_current/briskcurrent/hypermedia/UriEncodingIsUnreservedPinLaw", name := "expected", desc := "(I)Z" } : Jvm.MethodName) method_2_code (2 : Nat) (Option.some Jvm.ClassFile.FieldType.boolean)).before args0 about1 = true := code_word (m := ⟨1, 1⟩) (meth := k1m1) (c := k1c1) (by decide +kernel) rfl rfl rfl (by decide +kernel)
def codes1 : List Jvm.Cond := [Jvm.Cond.code x code maxLocals ret, Jvm.Cond.code ({ cls := "com/example/brisk_current/briskcurrent/hypermedia/UriEncoding", name := "isUnreserved", desc := "(I)Z" } : Jvm.MethodName) prog_18_method_2_code (1 : Nat) (Option.some Jvm.ClassFile.FieldType.boolean), Jvm.Cond.code ({ cls := "com/example/brisk_current/briskcurrent/hypermedia/UriEncodingIsUnreservedPinLaw", name := "expected", desc := "(I)Z" } : Jvm.MethodName) method_2_code (2 : Nat) (Option.some Jvm.ClassFile.FieldType.boolean)]
set_option maxRecDepth 65536 in
theorem codes_eq : words1.filter isCode = codes1 := rfl
theorem w_codes : ∀ c ∈ words1.filter isCode, c.before args0 about1 = true := by
  rw [codes_eq]
  intro c hc
  simp only [codes1, List.mem_cons, List.not_mem_nil, or_false] at hc
  rcases hc with rfl | rfl | rfl
  · exact w_c0
  · exact w_c1
  · exact w_c2
set_option maxRecDepth 65536 in
theorem w_t1 : words1.all (fun c => isCode c || c.before args0 about1) = true := by decide +kernel
theorem w_tables : (allAtoms (Jvm.Cond.code x code maxLocals ret :: tables_1)).before args0 about1 = true := by
  rw [allAtoms_all]
  show words1.all (fun c => c.before args0 about1) = true
  refine all_split ?_ w_codes
  rw [w_t1]
set_option maxRecDepth 65536 in
theorem w_case : (Jvm.Cond.and given_1 narrow_1).before args0 about1 = true := by decide +kernel
theorem w_applies : (headSpec (Jvm.Cond.code x code maxLocals ret :: tables_1) room_1).applies x e0.platform about1 = true :=
  (Spec.applies_iff w_frames).mpr ⟨w_running, w_runnable, w_alone, w_named, w_hears, w_ripe, w_room, w_tables⟩
theorem atStart : AtStart classFile x code maxLocals ret World_1 tables_1 room_1 Calls_1 rest_1 Pre_1 launch0 p0 e0 about1 theMethod args0 below0 :=
  ⟨lists_1, trivial, launch0.admits_env _ _ _, launch0.least_env, fairChoices_fair.cas, fairChoices_fair.clock, w_frames, w_args, w_heap, w_applies, trivial, trivial, w_case⟩
end start1
theorem witness_1 : WitnessClaimed_1 := ⟨start1.p0, start1.e0, start1.about1, start1.theMethod, start1.args0, start1.below0, start1.atStart⟩
end Jvm.Pilot.@@N@@
