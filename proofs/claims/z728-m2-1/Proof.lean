import JvmDerived
import JvmDerived.Pilot.@@N@@Statement
import JvmDerived.Pilot.@@N@@Code
set_option linter.unusedVariables false
set_option linter.unusedSimpArgs false
namespace Jvm.RoadKit
open Sem ClassFile Op Lib Jvm.Stand Jvm.Free Jvm.LawKit
section New
variable {p : Program} {l : Launch} {e : Env} {R : Room} {s : State} {m : MethodId} {args : Array Value} {below : List Frame} {meth : Method} {c : Code} {T : State} {locs : List Loc} {cells slots : Nat}
theorem retI (X : Stand p l e R s m args below meth c T locs cells slots) (hx : p.tables.exec = Jvm.exec) {pc : Nat} {Ls : Array Slot} {z : Int32} {rest : List Value} (hret : meth.sig.returnType = some .int) (hd : decode c.code pc = .ok (.ireturn, 1)) {fs : List Frame}
    (hl : ∀ (f : JFrame) (acts : List Action), f.method = m → f.locked = none → f.entered = [] → (doReturn e (T.setTop f) acts (some (.int z))).1 = T.setFrames fs) : Steps p.tables e below (T.setTop (mkF m pc Ls (.int z :: rest))) (T.setFrames fs) := by
  have hm' : T.vm.method? m = some meth := X.method'
  have hn : narrow .int (.int z) = .int z := rfl
  show Steps p.tables e below (T.setTop { method := m, pc := pc, locals := Ls, stack := _ :: rest, locked := none }) _
  jvm_step X.here [X.here.top, hx, hd, hm', hret, hn]
  first | (intro acts; rw [hl _ acts rfl rfl rfl]) | rw [hl _ _ rfl rfl rfl]
  exact Steps.refl _
end New
end Jvm.RoadKit
namespace Jvm.Pilot.@@N@@
open Jvm Jvm.ClassFile Sem Op Lib Jvm.Free Jvm.Stand Jvm.LawKit Jvm.RoadKit Bundle Jvm.Pilot.@@N@@.Jvm.D
def own_G (tb : Tables) (e : Env) (below : List Frame) (P : State → Outcome → Prop) (S : State) : Prop := ∃ t o, Steps tb e below S t ∧ P t o
theorem own_in {tb : Tables} {e : Env} {below : List Frame} {P : State → Outcome → Prop} {S : State} (h : own_G tb e below P S) : ∃ t o, Steps tb e below S t ∧ P t o := h
theorem own_go {tb : Tables} {e : Env} {below : List Frame} {P : State → Outcome → Prop} {S S' : State} (f : ∀ t, Steps tb e below S' t → Steps tb e below S t) (h : own_G tb e below P S') : own_G tb e below P S := by
  obtain ⟨t, o, st, hp⟩ := h
  exact ⟨t, o, f t st, hp⟩
theorem own_join {α : Type} {tb : Tables} {e : Env} {below : List Frame} {P : State → Outcome → Prop} {S : State} (C : α → Prop) (F : α → State) (J : ∀ a, C a → own_G tb e below P (F a)) (M : (∀ a, C a → own_G tb e below P (F a)) → own_G tb e below P S) : own_G tb e below P S := M J
theorem own_loop {α : Type} {tb : Tables} {e : Env} {below : List Frame} {P : State → Outcome → Prop} {S : State} (mu : α → Nat) (C : α → Prop) (F : α → State) (J : ∀ a, C a → (∀ b, C b → mu b < mu a → own_G tb e below P (F b)) → own_G tb e below P (F a)) (M : (∀ a, C a → own_G tb e below P (F a)) → own_G tb e below P S) : own_G tb e below P S := by
  apply M
  have q : ∀ n a, mu a < n → C a → own_G tb e below P (F a) := by
    intro n
    induction n with
    | zero => intro a h; exact absurd h (Nat.not_lt_zero _)
    | succ n ih => intro a h ha; exact J a ha fun b hb hlt => ih b (by omega) hb
  exact fun a ha => q _ a (Nat.lt_succ_self _) ha
theorem own_l1 {a b : Int64} (h : a = b) : lcmpW a b = 0 := by subst h; simp [lcmpW]
theorem own_l2 {a b : Int64} (h : ¬ a = b) : ¬ lcmpW a b = 0 := by
  unfold lcmpW; split
  · decide
  · first | (rw [if_neg h]; decide) | decide
theorem own_l3 {a b : Int64} (h : a < b) : lcmpW a b < 0 := by
  have h1 : ¬ a > b := Int64.not_lt.mpr (Int64.le_of_lt h)
  have h2 : ¬ a = b := fun q => by subst q; exact Int64.lt_irrefl h
  unfold lcmpW; rw [if_neg h1, if_neg h2]; decide
theorem own_l4 {a b : Int64} (h : ¬ a < b) : ¬ lcmpW a b < 0 := by
  unfold lcmpW; split
  · decide
  · split
    · decide
    · rename_i h1 h2
      rw [gt_iff_lt, Int64.lt_iff_toInt_lt] at h1; rw [Int64.lt_iff_toInt_lt] at h; rw [← Int64.toInt_inj] at h2; omega
theorem own_l5 {a b : Int64} (h : b < a) : 0 < lcmpW a b := by unfold lcmpW; rw [if_pos h]; decide
theorem own_l6 {a b : Int64} (h : ¬ b < a) : ¬ 0 < lcmpW a b := by
  unfold lcmpW; rw [if_neg h]; split <;> decide
def own_s (x : Int64) : Int64 := x ^^^ ((x.toUInt64 >>> ((33 : Int32) &&& 0x3f).toInt64.toUInt64).toInt64)
def own_mix (q : Int64) : Int64 := own_s (own_s (own_s q * (-49064778989728563 : Int64)) * (-4265267296055464877 : Int64))
def own_unmix (q : Int64) : Int64 := own_s (own_s (own_s q * (-7154897129451604005 : Int64)) * (5725274745694666757 : Int64))
theorem own_bv (b : BitVec 64) : (b ^^^ (b >>> 33)) ^^^ ((b ^^^ (b >>> 33)) >>> 33) = b := by
  apply BitVec.eq_of_getLsbD_eq
  intro i hi
  simp only [BitVec.getLsbD_xor, BitVec.getLsbD_ushiftRight]
  rw [BitVec.getLsbD_of_ge b (33 + (33 + i)) (by omega)]
  cases b.getLsbD i <;> cases b.getLsbD (33 + i) <;> rfl
theorem own_sb (x : Int64) : (own_s x).toBitVec = x.toBitVec ^^^ (x.toBitVec >>> 33) := by
  show x.toBitVec ^^^ (x.toUInt64 >>> ((33 : Int32) &&& 0x3f).toInt64.toUInt64).toBitVec = _
  rw [UInt64.toBitVec_shiftRight]
  rfl
theorem own_ss (x : Int64) : own_s (own_s x) = x := by
  apply Int64.toBitVec_inj.mp
  rw [own_sb, own_sb]; exact own_bv _
theorem own_um (k : Int64) : own_unmix (own_mix k) = k := by
  unfold own_unmix own_mix
  rw [own_ss, Int64.mul_assoc, show (-4265267296055464877 : Int64) * (-7154897129451604005 : Int64) = (1 : Int64) from by decide, Int64.mul_one, own_ss, Int64.mul_assoc, show (-49064778989728563 : Int64) * (5725274745694666757 : Int64) = (1 : Int64) from by decide, Int64.mul_one, own_ss]
theorem pd_J_J : parseMethodDescriptor "(J)J" = some ⟨[.long], some .long⟩ := by decide +kernel
-- com/example/bucketer/bucketer/hash/Murmur3x64.finalMix:(J)J
theorem d_fm_0 : decode prog_4_method_6_code 0 = .ok (.lload_n 0, 1) := by decide +kernel
theorem d_fm_1 : decode prog_4_method_6_code 1 = .ok (.lstore_n 2, 1) := by decide +kernel
theorem d_fm_2 : decode prog_4_method_6_code 2 = .ok (.lload_n 2, 1) := by decide +kernel
theorem d_fm_3 : decode prog_4_method_6_code 3 = .ok (.lload_n 2, 1) := by decide +kernel
theorem d_fm_4 : decode prog_4_method_6_code 4 = .ok (.bipush 33, 2) := by decide +kernel
theorem d_fm_6 : decode prog_4_method_6_code 6 = .ok (.lushr, 1) := by decide +kernel
theorem d_fm_7 : decode prog_4_method_6_code 7 = .ok (.lxor, 1) := by decide +kernel
theorem d_fm_8 : decode prog_4_method_6_code 8 = .ok (.lstore_n 2, 1) := by decide +kernel
theorem d_fm_9 : decode prog_4_method_6_code 9 = .ok (.lload_n 2, 1) := by decide +kernel
theorem d_fm_10 : decode prog_4_method_6_code 10 = .ok (.ldc2_w 67, 3) := by decide +kernel
theorem d_fm_13 : decode prog_4_method_6_code 13 = .ok (.lmul, 1) := by decide +kernel
theorem d_fm_14 : decode prog_4_method_6_code 14 = .ok (.lstore_n 2, 1) := by decide +kernel
theorem d_fm_15 : decode prog_4_method_6_code 15 = .ok (.lload_n 2, 1) := by decide +kernel
theorem d_fm_16 : decode prog_4_method_6_code 16 = .ok (.lload_n 2, 1) := by decide +kernel
theorem d_fm_17 : decode prog_4_method_6_code 17 = .ok (.bipush 33, 2) := by decide +kernel
theorem d_fm_19 : decode prog_4_method_6_code 19 = .ok (.lushr, 1) := by decide +kernel
theorem d_fm_20 : decode prog_4_method_6_code 20 = .ok (.lxor, 1) := by decide +kernel
theorem d_fm_21 : decode prog_4_method_6_code 21 = .ok (.lstore_n 2, 1) := by decide +kernel
theorem d_fm_22 : decode prog_4_method_6_code 22 = .ok (.lload_n 2, 1) := by decide +kernel
theorem d_fm_23 : decode prog_4_method_6_code 23 = .ok (.ldc2_w 69, 3) := by decide +kernel
theorem d_fm_26 : decode prog_4_method_6_code 26 = .ok (.lmul, 1) := by decide +kernel
theorem d_fm_27 : decode prog_4_method_6_code 27 = .ok (.lstore_n 2, 1) := by decide +kernel
theorem d_fm_28 : decode prog_4_method_6_code 28 = .ok (.lload_n 2, 1) := by decide +kernel
theorem d_fm_29 : decode prog_4_method_6_code 29 = .ok (.lload_n 2, 1) := by decide +kernel
theorem d_fm_30 : decode prog_4_method_6_code 30 = .ok (.bipush 33, 2) := by decide +kernel
theorem d_fm_32 : decode prog_4_method_6_code 32 = .ok (.lushr, 1) := by decide +kernel
theorem d_fm_33 : decode prog_4_method_6_code 33 = .ok (.lxor, 1) := by decide +kernel
theorem d_fm_34 : decode prog_4_method_6_code 34 = .ok (.lstore_n 2, 1) := by decide +kernel
theorem d_fm_35 : decode prog_4_method_6_code 35 = .ok (.lload_n 2, 1) := by decide +kernel
theorem d_fm_36 : decode prog_4_method_6_code 36 = .ok (.lreturn, 1) := by decide +kernel
theorem pn_fm : plainName "com/example/bucketer/bucketer/hash/Murmur3x64" = true := by first | (simp [plainName, overriddenIn]; done) | decide +kernel
theorem ef_fm (m : MethodId) (q : Int64) : entryFrame m #[(.long q)] 4 = mkF m 0 #[.val (.long q), .second, .unset, .unset] [] := by first | (simp [entryFrame, mkF, argsToLocals, Value.category]; done) | rfl
def Q_fm (Z : State) (q : Int64) (h0 : Heap) (n0 : Nat) (v : Option Value) (h : Heap) (L : List Loc) : Prop := v = some (.long (own_mix q)) ∧ Fr n0 L ∧ h = h0
set_option maxRecDepth 65536 in
set_option maxHeartbeats 40000000 in
theorem rm_fm (l : Launch) (Z : State) (a0 : Array Value) (hw : ∀ d ∈ tables_1, d.before a0 Z = true) (ws : List Jvm.Cond) (q : Int64) (h0 : Heap) (n0 : Nat) (Z0 : n0 ≤ h0.size) :
    MetFree l (⟨"com/example/bucketer/bucketer/hash/Murmur3x64", "finalMix", "(J)J"⟩ : MethodName) (head1 (Jvm.Cond.code (⟨"com/example/bucketer/bucketer/hash/Murmur3x64", "finalMix", "(J)J"⟩ : MethodName) prog_4_method_6_code 4 (some .long) :: ws) ({ frames := 0, cells := 0, slots := 0, locals := 0 } : Room)) (fun a U => a = #[(.long q)] ∧ Z.Warmed39 U.vm ∧ U.heap = h0) (fun _ _ _ _ _ => True) (fun _ U o U' => ∃ v L, o = .returned v ∧ Q_fm Z q h0 n0 v U'.heap L ∧ FrameEnd U o U' L ({ frames := 0, cells := 0, slots := 0, locals := 0 } : Room).cells ({ frames := 0, cells := 0, slots := 0, locals := 0 } : Room).slots) := by
  refine MetFree.of_bodySF (plainFor_of_name pn_fm) hisR ?_
  intro p e s m args below meth c s₁ Bd hml0 hP hK
  obtain ⟨rfl, hZ, hh⟩ := hP
  have hx := Bd.exec
  have hby := Bd.bytes
  have hml : c.maxLocals = 4 := hml0
  have hown : s.vm.findClass "com/example/bucketer/bucketer/hash/Murmur3x64" = some m.cls := findClass_of_methodNamed Bd.named
  have hnm := (name_of_methodNamed Bd.named Bd.method).1
  have X0 : Stand p l e ({ frames := 0, cells := 0, slots := 0, locals := 0 } : Room) s m #[(.long q)] below meth c s₁ [] 0 0 := Stand.of_body Bd
  have e0 : s₁.heap = h0 := by rw [← hh, Bd.state]; rfl
  have N0 := Fr.nil n0
  refine own_in ?_
  refine own_go (S' := s₁.setTop (mkF m 0 #[.val (.long q), .second, .unset, .unset] [])) (fun tgt_ stp_ => castTop (ef_fm m q) stp_) ?_
  refine own_go (S' := s₁.setTop (mkF m 36 #[.val (.long q), .second, .val (.long (own_s (own_s (own_s q * (-49064778989728563 : Int64)) * (-4265267296055464877 : Int64)))), .second] [(.long (own_s (own_s (own_s q * (-49064778989728563 : Int64)) * (-4265267296055464877 : Int64))))])) (fun target kt => ?_) ?_
  · show Steps p.tables e below (s₁.setTop (mkF m 0 #[.val (.long q), .second, .unset, .unset] [])) target
    refine XS.lloadN X0.here hx rfl (hb hby d_fm_0) rfl ?_
    show Steps p.tables e below (s₁.setTop (mkF m 1 #[.val (.long q), .second, .unset, .unset] [(.long q)])) target
    refine XS.lstoreN X0.here hx rfl (hb hby d_fm_1) rfl (l' := #[.val (.long q), .second, .val (.long q), .second]) rfl ?_
    show Steps p.tables e below (s₁.setTop (mkF m 2 #[.val (.long q), .second, .val (.long q), .second] [])) target
    refine XS.lloadN X0.here hx rfl (hb hby d_fm_2) rfl ?_
    show Steps p.tables e below (s₁.setTop (mkF m 3 #[.val (.long q), .second, .val (.long q), .second] [(.long q)])) target
    refine XS.lloadN X0.here hx rfl (hb hby d_fm_3) rfl ?_
    show Steps p.tables e below (s₁.setTop (mkF m 4 #[.val (.long q), .second, .val (.long q), .second] [(.long q), (.long q)])) target
    refine XS.bipush X0.here hx rfl (hb hby d_fm_4) ?_
    show Steps p.tables e below (s₁.setTop (mkF m 6 #[.val (.long q), .second, .val (.long q), .second] [(.int (33 : Int32)), (.long q), (.long q)])) target
    refine XS.lushr X0.here hx rfl (hb hby d_fm_6) rfl ?_
    show Steps p.tables e below (s₁.setTop (mkF m 7 #[.val (.long q), .second, .val (.long q), .second] [(.long ((q.toUInt64 >>> ((33 : Int32) &&& 0x3f).toInt64.toUInt64).toInt64)), (.long q)])) target
    refine XS.lxor X0.here hx rfl (hb hby d_fm_7) rfl ?_
    show Steps p.tables e below (s₁.setTop (mkF m 8 #[.val (.long q), .second, .val (.long q), .second] [(.long (q ^^^ ((q.toUInt64 >>> ((33 : Int32) &&& 0x3f).toInt64.toUInt64).toInt64)))])) target
    refine XS.lstoreN X0.here hx rfl (hb hby d_fm_8) rfl (l' := #[.val (.long q), .second, .val (.long (q ^^^ ((q.toUInt64 >>> ((33 : Int32) &&& 0x3f).toInt64.toUInt64).toInt64))), .second]) rfl ?_
    show Steps p.tables e below (s₁.setTop (mkF m 9 #[.val (.long q), .second, .val (.long (q ^^^ ((q.toUInt64 >>> ((33 : Int32) &&& 0x3f).toInt64.toUInt64).toInt64))), .second] [])) target
    show Steps p.tables e below (s₁.setTop (mkF m 9 #[.val (.long q), .second, .val (.long (own_s q)), .second] [])) target
    refine XS.lloadN X0.here hx rfl (hb hby d_fm_9) rfl ?_
    show Steps p.tables e below (s₁.setTop (mkF m 10 #[.val (.long q), .second, .val (.long (own_s q)), .second] [(.long (own_s q))])) target
    refine X0.ldc2Long hx hown (mvT hZ (hw _ (List.mem_of_getElem? (i := 4) rfl))) (g := (mkF m 10 #[.val (.long q), .second, .val (.long (own_s q)), .second] [(.long (own_s q))])) rfl (hb hby d_fm_10) _ ?_
    show Steps p.tables e below (s₁.setTop (mkF m 13 #[.val (.long q), .second, .val (.long (own_s q)), .second] [(.long (-49064778989728563 : Int64)), (.long (own_s q))])) target
    refine XS.lmul X0.here hx rfl (hb hby d_fm_13) rfl ?_
    show Steps p.tables e below (s₁.setTop (mkF m 14 #[.val (.long q), .second, .val (.long (own_s q)), .second] [(.long ((own_s q) * (-49064778989728563 : Int64)))])) target
    refine XS.lstoreN X0.here hx rfl (hb hby d_fm_14) rfl (l' := #[.val (.long q), .second, .val (.long ((own_s q) * (-49064778989728563 : Int64))), .second]) rfl ?_
    show Steps p.tables e below (s₁.setTop (mkF m 15 #[.val (.long q), .second, .val (.long ((own_s q) * (-49064778989728563 : Int64))), .second] [])) target
    show Steps p.tables e below (s₁.setTop (mkF m 15 #[.val (.long q), .second, .val (.long (own_s q * (-49064778989728563 : Int64))), .second] [])) target
    refine XS.lloadN X0.here hx rfl (hb hby d_fm_15) rfl ?_
    show Steps p.tables e below (s₁.setTop (mkF m 16 #[.val (.long q), .second, .val (.long (own_s q * (-49064778989728563 : Int64))), .second] [(.long (own_s q * (-49064778989728563 : Int64)))])) target
    refine XS.lloadN X0.here hx rfl (hb hby d_fm_16) rfl ?_
    show Steps p.tables e below (s₁.setTop (mkF m 17 #[.val (.long q), .second, .val (.long (own_s q * (-49064778989728563 : Int64))), .second] [(.long (own_s q * (-49064778989728563 : Int64))), (.long (own_s q * (-49064778989728563 : Int64)))])) target
    refine XS.bipush X0.here hx rfl (hb hby d_fm_17) ?_
    show Steps p.tables e below (s₁.setTop (mkF m 19 #[.val (.long q), .second, .val (.long (own_s q * (-49064778989728563 : Int64))), .second] [(.int (33 : Int32)), (.long (own_s q * (-49064778989728563 : Int64))), (.long (own_s q * (-49064778989728563 : Int64)))])) target
    refine XS.lushr X0.here hx rfl (hb hby d_fm_19) rfl ?_
    show Steps p.tables e below (s₁.setTop (mkF m 20 #[.val (.long q), .second, .val (.long (own_s q * (-49064778989728563 : Int64))), .second] [(.long (((own_s q * (-49064778989728563 : Int64)).toUInt64 >>> ((33 : Int32) &&& 0x3f).toInt64.toUInt64).toInt64)), (.long (own_s q * (-49064778989728563 : Int64)))])) target
    refine XS.lxor X0.here hx rfl (hb hby d_fm_20) rfl ?_
    show Steps p.tables e below (s₁.setTop (mkF m 21 #[.val (.long q), .second, .val (.long (own_s q * (-49064778989728563 : Int64))), .second] [(.long ((own_s q * (-49064778989728563 : Int64)) ^^^ (((own_s q * (-49064778989728563 : Int64)).toUInt64 >>> ((33 : Int32) &&& 0x3f).toInt64.toUInt64).toInt64)))])) target
    refine XS.lstoreN X0.here hx rfl (hb hby d_fm_21) rfl (l' := #[.val (.long q), .second, .val (.long ((own_s q * (-49064778989728563 : Int64)) ^^^ (((own_s q * (-49064778989728563 : Int64)).toUInt64 >>> ((33 : Int32) &&& 0x3f).toInt64.toUInt64).toInt64))), .second]) rfl ?_
    show Steps p.tables e below (s₁.setTop (mkF m 22 #[.val (.long q), .second, .val (.long ((own_s q * (-49064778989728563 : Int64)) ^^^ (((own_s q * (-49064778989728563 : Int64)).toUInt64 >>> ((33 : Int32) &&& 0x3f).toInt64.toUInt64).toInt64))), .second] [])) target
    show Steps p.tables e below (s₁.setTop (mkF m 22 #[.val (.long q), .second, .val (.long (own_s (own_s q * (-49064778989728563 : Int64)))), .second] [])) target
    refine XS.lloadN X0.here hx rfl (hb hby d_fm_22) rfl ?_
    show Steps p.tables e below (s₁.setTop (mkF m 23 #[.val (.long q), .second, .val (.long (own_s (own_s q * (-49064778989728563 : Int64)))), .second] [(.long (own_s (own_s q * (-49064778989728563 : Int64))))])) target
    refine X0.ldc2Long hx hown (mvT hZ (hw _ (List.mem_of_getElem? (i := 5) rfl))) (g := (mkF m 23 #[.val (.long q), .second, .val (.long (own_s (own_s q * (-49064778989728563 : Int64)))), .second] [(.long (own_s (own_s q * (-49064778989728563 : Int64))))])) rfl (hb hby d_fm_23) _ ?_
    show Steps p.tables e below (s₁.setTop (mkF m 26 #[.val (.long q), .second, .val (.long (own_s (own_s q * (-49064778989728563 : Int64)))), .second] [(.long (-4265267296055464877 : Int64)), (.long (own_s (own_s q * (-49064778989728563 : Int64))))])) target
    refine XS.lmul X0.here hx rfl (hb hby d_fm_26) rfl ?_
    show Steps p.tables e below (s₁.setTop (mkF m 27 #[.val (.long q), .second, .val (.long (own_s (own_s q * (-49064778989728563 : Int64)))), .second] [(.long ((own_s (own_s q * (-49064778989728563 : Int64))) * (-4265267296055464877 : Int64)))])) target
    refine XS.lstoreN X0.here hx rfl (hb hby d_fm_27) rfl (l' := #[.val (.long q), .second, .val (.long ((own_s (own_s q * (-49064778989728563 : Int64))) * (-4265267296055464877 : Int64))), .second]) rfl ?_
    show Steps p.tables e below (s₁.setTop (mkF m 28 #[.val (.long q), .second, .val (.long ((own_s (own_s q * (-49064778989728563 : Int64))) * (-4265267296055464877 : Int64))), .second] [])) target
    show Steps p.tables e below (s₁.setTop (mkF m 28 #[.val (.long q), .second, .val (.long (own_s (own_s q * (-49064778989728563 : Int64)) * (-4265267296055464877 : Int64))), .second] [])) target
    refine XS.lloadN X0.here hx rfl (hb hby d_fm_28) rfl ?_
    show Steps p.tables e below (s₁.setTop (mkF m 29 #[.val (.long q), .second, .val (.long (own_s (own_s q * (-49064778989728563 : Int64)) * (-4265267296055464877 : Int64))), .second] [(.long (own_s (own_s q * (-49064778989728563 : Int64)) * (-4265267296055464877 : Int64)))])) target
    refine XS.lloadN X0.here hx rfl (hb hby d_fm_29) rfl ?_
    show Steps p.tables e below (s₁.setTop (mkF m 30 #[.val (.long q), .second, .val (.long (own_s (own_s q * (-49064778989728563 : Int64)) * (-4265267296055464877 : Int64))), .second] [(.long (own_s (own_s q * (-49064778989728563 : Int64)) * (-4265267296055464877 : Int64))), (.long (own_s (own_s q * (-49064778989728563 : Int64)) * (-4265267296055464877 : Int64)))])) target
    refine XS.bipush X0.here hx rfl (hb hby d_fm_30) ?_
    show Steps p.tables e below (s₁.setTop (mkF m 32 #[.val (.long q), .second, .val (.long (own_s (own_s q * (-49064778989728563 : Int64)) * (-4265267296055464877 : Int64))), .second] [(.int (33 : Int32)), (.long (own_s (own_s q * (-49064778989728563 : Int64)) * (-4265267296055464877 : Int64))), (.long (own_s (own_s q * (-49064778989728563 : Int64)) * (-4265267296055464877 : Int64)))])) target
    refine XS.lushr X0.here hx rfl (hb hby d_fm_32) rfl ?_
    show Steps p.tables e below (s₁.setTop (mkF m 33 #[.val (.long q), .second, .val (.long (own_s (own_s q * (-49064778989728563 : Int64)) * (-4265267296055464877 : Int64))), .second] [(.long (((own_s (own_s q * (-49064778989728563 : Int64)) * (-4265267296055464877 : Int64)).toUInt64 >>> ((33 : Int32) &&& 0x3f).toInt64.toUInt64).toInt64)), (.long (own_s (own_s q * (-49064778989728563 : Int64)) * (-4265267296055464877 : Int64)))])) target
    refine XS.lxor X0.here hx rfl (hb hby d_fm_33) rfl ?_
    show Steps p.tables e below (s₁.setTop (mkF m 34 #[.val (.long q), .second, .val (.long (own_s (own_s q * (-49064778989728563 : Int64)) * (-4265267296055464877 : Int64))), .second] [(.long ((own_s (own_s q * (-49064778989728563 : Int64)) * (-4265267296055464877 : Int64)) ^^^ (((own_s (own_s q * (-49064778989728563 : Int64)) * (-4265267296055464877 : Int64)).toUInt64 >>> ((33 : Int32) &&& 0x3f).toInt64.toUInt64).toInt64)))])) target
    refine XS.lstoreN X0.here hx rfl (hb hby d_fm_34) rfl (l' := #[.val (.long q), .second, .val (.long ((own_s (own_s q * (-49064778989728563 : Int64)) * (-4265267296055464877 : Int64)) ^^^ (((own_s (own_s q * (-49064778989728563 : Int64)) * (-4265267296055464877 : Int64)).toUInt64 >>> ((33 : Int32) &&& 0x3f).toInt64.toUInt64).toInt64))), .second]) rfl ?_
    show Steps p.tables e below (s₁.setTop (mkF m 35 #[.val (.long q), .second, .val (.long ((own_s (own_s q * (-49064778989728563 : Int64)) * (-4265267296055464877 : Int64)) ^^^ (((own_s (own_s q * (-49064778989728563 : Int64)) * (-4265267296055464877 : Int64)).toUInt64 >>> ((33 : Int32) &&& 0x3f).toInt64.toUInt64).toInt64))), .second] [])) target
    show Steps p.tables e below (s₁.setTop (mkF m 35 #[.val (.long q), .second, .val (.long (own_s (own_s (own_s q * (-49064778989728563 : Int64)) * (-4265267296055464877 : Int64)))), .second] [])) target
    refine XS.lloadN X0.here hx rfl (hb hby d_fm_35) rfl ?_
    show Steps p.tables e below (s₁.setTop (mkF m 36 #[.val (.long q), .second, .val (.long (own_s (own_s (own_s q * (-49064778989728563 : Int64)) * (-4265267296055464877 : Int64)))), .second] [(.long (own_s (own_s (own_s q * (-49064778989728563 : Int64)) * (-4265267296055464877 : Int64))))])) target
    exact kt
  obtain ⟨fs, hr, hrun, hended, hW, hsame⟩ := X0.leave (v := some (.long (own_s (own_s (own_s q * (-49064778989728563 : Int64)) * (-4265267296055464877 : Int64))))) (fun h => by rw [Bd.returns] at h; cases h)
  refine ⟨_, _, Jvm.Stand.lreturnOut X0 hx Bd.returns (hb hby d_fm_36) hr, hrun, hended, _, _, rfl, ?_, ⟨_, rfl⟩, hW, hsame.mono (by decide) (by decide)⟩
  show Q_fm Z q h0 n0 _ s₁.heap _
  rw [e0]
  exact ⟨(congrArg (fun z => some (Value.long z)) (rfl)), N0, rfl⟩
-- com/example/bucketer/bucketer/hash/Murmur3x64FinalMixPinLaw.unmix:(J)J
theorem d_um_0 : decode method_2_code 0 = .ok (.lload_n 0, 1) := by decide +kernel
theorem d_um_1 : decode method_2_code 1 = .ok (.lstore_n 2, 1) := by decide +kernel
theorem d_um_2 : decode method_2_code 2 = .ok (.lload_n 2, 1) := by decide +kernel
theorem d_um_3 : decode method_2_code 3 = .ok (.lload_n 2, 1) := by decide +kernel
theorem d_um_4 : decode method_2_code 4 = .ok (.bipush 33, 2) := by decide +kernel
theorem d_um_6 : decode method_2_code 6 = .ok (.lushr, 1) := by decide +kernel
theorem d_um_7 : decode method_2_code 7 = .ok (.lxor, 1) := by decide +kernel
theorem d_um_8 : decode method_2_code 8 = .ok (.lstore_n 2, 1) := by decide +kernel
theorem d_um_9 : decode method_2_code 9 = .ok (.lload_n 2, 1) := by decide +kernel
theorem d_um_10 : decode method_2_code 10 = .ok (.ldc2_w 7, 3) := by decide +kernel
theorem d_um_13 : decode method_2_code 13 = .ok (.lmul, 1) := by decide +kernel
theorem d_um_14 : decode method_2_code 14 = .ok (.lstore_n 2, 1) := by decide +kernel
theorem d_um_15 : decode method_2_code 15 = .ok (.lload_n 2, 1) := by decide +kernel
theorem d_um_16 : decode method_2_code 16 = .ok (.lload_n 2, 1) := by decide +kernel
theorem d_um_17 : decode method_2_code 17 = .ok (.bipush 33, 2) := by decide +kernel
theorem d_um_19 : decode method_2_code 19 = .ok (.lushr, 1) := by decide +kernel
theorem d_um_20 : decode method_2_code 20 = .ok (.lxor, 1) := by decide +kernel
theorem d_um_21 : decode method_2_code 21 = .ok (.lstore_n 2, 1) := by decide +kernel
theorem d_um_22 : decode method_2_code 22 = .ok (.lload_n 2, 1) := by decide +kernel
theorem d_um_23 : decode method_2_code 23 = .ok (.ldc2_w 9, 3) := by decide +kernel
theorem d_um_26 : decode method_2_code 26 = .ok (.lmul, 1) := by decide +kernel
theorem d_um_27 : decode method_2_code 27 = .ok (.lstore_n 2, 1) := by decide +kernel
theorem d_um_28 : decode method_2_code 28 = .ok (.lload_n 2, 1) := by decide +kernel
theorem d_um_29 : decode method_2_code 29 = .ok (.lload_n 2, 1) := by decide +kernel
theorem d_um_30 : decode method_2_code 30 = .ok (.bipush 33, 2) := by decide +kernel
theorem d_um_32 : decode method_2_code 32 = .ok (.lushr, 1) := by decide +kernel
theorem d_um_33 : decode method_2_code 33 = .ok (.lxor, 1) := by decide +kernel
theorem d_um_34 : decode method_2_code 34 = .ok (.lstore_n 2, 1) := by decide +kernel
theorem d_um_35 : decode method_2_code 35 = .ok (.lload_n 2, 1) := by decide +kernel
theorem d_um_36 : decode method_2_code 36 = .ok (.lreturn, 1) := by decide +kernel
theorem pn_um : plainName "com/example/bucketer/bucketer/hash/Murmur3x64FinalMixPinLaw" = true := by first | (simp [plainName, overriddenIn]; done) | decide +kernel
theorem ef_um (m : MethodId) (q : Int64) : entryFrame m #[(.long q)] 4 = mkF m 0 #[.val (.long q), .second, .unset, .unset] [] := by first | (simp [entryFrame, mkF, argsToLocals, Value.category]; done) | rfl
def Q_um (Z : State) (q : Int64) (h0 : Heap) (n0 : Nat) (v : Option Value) (h : Heap) (L : List Loc) : Prop := v = some (.long (own_unmix q)) ∧ Fr n0 L ∧ h = h0
set_option maxRecDepth 65536 in
set_option maxHeartbeats 40000000 in
theorem rm_um (l : Launch) (Z : State) (a0 : Array Value) (hw : ∀ d ∈ tables_1, d.before a0 Z = true) (ws : List Jvm.Cond) (q : Int64) (h0 : Heap) (n0 : Nat) (Z0 : n0 ≤ h0.size) :
    MetFree l (⟨"com/example/bucketer/bucketer/hash/Murmur3x64FinalMixPinLaw", "unmix", "(J)J"⟩ : MethodName) (head1 (Jvm.Cond.code (⟨"com/example/bucketer/bucketer/hash/Murmur3x64FinalMixPinLaw", "unmix", "(J)J"⟩ : MethodName) method_2_code 4 (some .long) :: ws) ({ frames := 0, cells := 0, slots := 0, locals := 0 } : Room)) (fun a U => a = #[(.long q)] ∧ Z.Warmed39 U.vm ∧ U.heap = h0) (fun _ _ _ _ _ => True) (fun _ U o U' => ∃ v L, o = .returned v ∧ Q_um Z q h0 n0 v U'.heap L ∧ FrameEnd U o U' L ({ frames := 0, cells := 0, slots := 0, locals := 0 } : Room).cells ({ frames := 0, cells := 0, slots := 0, locals := 0 } : Room).slots) := by
  refine MetFree.of_bodySF (plainFor_of_name pn_um) hisR ?_
  intro p e s m args below meth c s₁ Bd hml0 hP hK
  obtain ⟨rfl, hZ, hh⟩ := hP
  have hx := Bd.exec
  have hby := Bd.bytes
  have hml : c.maxLocals = 4 := hml0
  have hown : s.vm.findClass "com/example/bucketer/bucketer/hash/Murmur3x64FinalMixPinLaw" = some m.cls := findClass_of_methodNamed Bd.named
  have hnm := (name_of_methodNamed Bd.named Bd.method).1
  have X0 : Stand p l e ({ frames := 0, cells := 0, slots := 0, locals := 0 } : Room) s m #[(.long q)] below meth c s₁ [] 0 0 := Stand.of_body Bd
  have e0 : s₁.heap = h0 := by rw [← hh, Bd.state]; rfl
  have N0 := Fr.nil n0
  refine own_in ?_
  refine own_go (S' := s₁.setTop (mkF m 0 #[.val (.long q), .second, .unset, .unset] [])) (fun tgt_ stp_ => castTop (ef_um m q) stp_) ?_
  refine own_go (S' := s₁.setTop (mkF m 36 #[.val (.long q), .second, .val (.long (own_s (own_s (own_s q * (-7154897129451604005 : Int64)) * (5725274745694666757 : Int64)))), .second] [(.long (own_s (own_s (own_s q * (-7154897129451604005 : Int64)) * (5725274745694666757 : Int64))))])) (fun target kt => ?_) ?_
  · show Steps p.tables e below (s₁.setTop (mkF m 0 #[.val (.long q), .second, .unset, .unset] [])) target
    refine XS.lloadN X0.here hx rfl (hb hby d_um_0) rfl ?_
    show Steps p.tables e below (s₁.setTop (mkF m 1 #[.val (.long q), .second, .unset, .unset] [(.long q)])) target
    refine XS.lstoreN X0.here hx rfl (hb hby d_um_1) rfl (l' := #[.val (.long q), .second, .val (.long q), .second]) rfl ?_
    show Steps p.tables e below (s₁.setTop (mkF m 2 #[.val (.long q), .second, .val (.long q), .second] [])) target
    refine XS.lloadN X0.here hx rfl (hb hby d_um_2) rfl ?_
    show Steps p.tables e below (s₁.setTop (mkF m 3 #[.val (.long q), .second, .val (.long q), .second] [(.long q)])) target
    refine XS.lloadN X0.here hx rfl (hb hby d_um_3) rfl ?_
    show Steps p.tables e below (s₁.setTop (mkF m 4 #[.val (.long q), .second, .val (.long q), .second] [(.long q), (.long q)])) target
    refine XS.bipush X0.here hx rfl (hb hby d_um_4) ?_
    show Steps p.tables e below (s₁.setTop (mkF m 6 #[.val (.long q), .second, .val (.long q), .second] [(.int (33 : Int32)), (.long q), (.long q)])) target
    refine XS.lushr X0.here hx rfl (hb hby d_um_6) rfl ?_
    show Steps p.tables e below (s₁.setTop (mkF m 7 #[.val (.long q), .second, .val (.long q), .second] [(.long ((q.toUInt64 >>> ((33 : Int32) &&& 0x3f).toInt64.toUInt64).toInt64)), (.long q)])) target
    refine XS.lxor X0.here hx rfl (hb hby d_um_7) rfl ?_
    show Steps p.tables e below (s₁.setTop (mkF m 8 #[.val (.long q), .second, .val (.long q), .second] [(.long (q ^^^ ((q.toUInt64 >>> ((33 : Int32) &&& 0x3f).toInt64.toUInt64).toInt64)))])) target
    refine XS.lstoreN X0.here hx rfl (hb hby d_um_8) rfl (l' := #[.val (.long q), .second, .val (.long (q ^^^ ((q.toUInt64 >>> ((33 : Int32) &&& 0x3f).toInt64.toUInt64).toInt64))), .second]) rfl ?_
    show Steps p.tables e below (s₁.setTop (mkF m 9 #[.val (.long q), .second, .val (.long (q ^^^ ((q.toUInt64 >>> ((33 : Int32) &&& 0x3f).toInt64.toUInt64).toInt64))), .second] [])) target
    show Steps p.tables e below (s₁.setTop (mkF m 9 #[.val (.long q), .second, .val (.long (own_s q)), .second] [])) target
    refine XS.lloadN X0.here hx rfl (hb hby d_um_9) rfl ?_
    show Steps p.tables e below (s₁.setTop (mkF m 10 #[.val (.long q), .second, .val (.long (own_s q)), .second] [(.long (own_s q))])) target
    refine X0.ldc2Long hx hown (mvT hZ (hw _ (List.mem_of_getElem? (i := 10) rfl))) (g := (mkF m 10 #[.val (.long q), .second, .val (.long (own_s q)), .second] [(.long (own_s q))])) rfl (hb hby d_um_10) _ ?_
    show Steps p.tables e below (s₁.setTop (mkF m 13 #[.val (.long q), .second, .val (.long (own_s q)), .second] [(.long (-7154897129451604005 : Int64)), (.long (own_s q))])) target
    refine XS.lmul X0.here hx rfl (hb hby d_um_13) rfl ?_
    show Steps p.tables e below (s₁.setTop (mkF m 14 #[.val (.long q), .second, .val (.long (own_s q)), .second] [(.long ((own_s q) * (-7154897129451604005 : Int64)))])) target
    refine XS.lstoreN X0.here hx rfl (hb hby d_um_14) rfl (l' := #[.val (.long q), .second, .val (.long ((own_s q) * (-7154897129451604005 : Int64))), .second]) rfl ?_
    show Steps p.tables e below (s₁.setTop (mkF m 15 #[.val (.long q), .second, .val (.long ((own_s q) * (-7154897129451604005 : Int64))), .second] [])) target
    show Steps p.tables e below (s₁.setTop (mkF m 15 #[.val (.long q), .second, .val (.long (own_s q * (-7154897129451604005 : Int64))), .second] [])) target
    refine XS.lloadN X0.here hx rfl (hb hby d_um_15) rfl ?_
    show Steps p.tables e below (s₁.setTop (mkF m 16 #[.val (.long q), .second, .val (.long (own_s q * (-7154897129451604005 : Int64))), .second] [(.long (own_s q * (-7154897129451604005 : Int64)))])) target
    refine XS.lloadN X0.here hx rfl (hb hby d_um_16) rfl ?_
    show Steps p.tables e below (s₁.setTop (mkF m 17 #[.val (.long q), .second, .val (.long (own_s q * (-7154897129451604005 : Int64))), .second] [(.long (own_s q * (-7154897129451604005 : Int64))), (.long (own_s q * (-7154897129451604005 : Int64)))])) target
    refine XS.bipush X0.here hx rfl (hb hby d_um_17) ?_
    show Steps p.tables e below (s₁.setTop (mkF m 19 #[.val (.long q), .second, .val (.long (own_s q * (-7154897129451604005 : Int64))), .second] [(.int (33 : Int32)), (.long (own_s q * (-7154897129451604005 : Int64))), (.long (own_s q * (-7154897129451604005 : Int64)))])) target
    refine XS.lushr X0.here hx rfl (hb hby d_um_19) rfl ?_
    show Steps p.tables e below (s₁.setTop (mkF m 20 #[.val (.long q), .second, .val (.long (own_s q * (-7154897129451604005 : Int64))), .second] [(.long (((own_s q * (-7154897129451604005 : Int64)).toUInt64 >>> ((33 : Int32) &&& 0x3f).toInt64.toUInt64).toInt64)), (.long (own_s q * (-7154897129451604005 : Int64)))])) target
    refine XS.lxor X0.here hx rfl (hb hby d_um_20) rfl ?_
    show Steps p.tables e below (s₁.setTop (mkF m 21 #[.val (.long q), .second, .val (.long (own_s q * (-7154897129451604005 : Int64))), .second] [(.long ((own_s q * (-7154897129451604005 : Int64)) ^^^ (((own_s q * (-7154897129451604005 : Int64)).toUInt64 >>> ((33 : Int32) &&& 0x3f).toInt64.toUInt64).toInt64)))])) target
    refine XS.lstoreN X0.here hx rfl (hb hby d_um_21) rfl (l' := #[.val (.long q), .second, .val (.long ((own_s q * (-7154897129451604005 : Int64)) ^^^ (((own_s q * (-7154897129451604005 : Int64)).toUInt64 >>> ((33 : Int32) &&& 0x3f).toInt64.toUInt64).toInt64))), .second]) rfl ?_
    show Steps p.tables e below (s₁.setTop (mkF m 22 #[.val (.long q), .second, .val (.long ((own_s q * (-7154897129451604005 : Int64)) ^^^ (((own_s q * (-7154897129451604005 : Int64)).toUInt64 >>> ((33 : Int32) &&& 0x3f).toInt64.toUInt64).toInt64))), .second] [])) target
    show Steps p.tables e below (s₁.setTop (mkF m 22 #[.val (.long q), .second, .val (.long (own_s (own_s q * (-7154897129451604005 : Int64)))), .second] [])) target
    refine XS.lloadN X0.here hx rfl (hb hby d_um_22) rfl ?_
    show Steps p.tables e below (s₁.setTop (mkF m 23 #[.val (.long q), .second, .val (.long (own_s (own_s q * (-7154897129451604005 : Int64)))), .second] [(.long (own_s (own_s q * (-7154897129451604005 : Int64))))])) target
    refine X0.ldc2Long hx hown (mvT hZ (hw _ (List.mem_of_getElem? (i := 11) rfl))) (g := (mkF m 23 #[.val (.long q), .second, .val (.long (own_s (own_s q * (-7154897129451604005 : Int64)))), .second] [(.long (own_s (own_s q * (-7154897129451604005 : Int64))))])) rfl (hb hby d_um_23) _ ?_
    show Steps p.tables e below (s₁.setTop (mkF m 26 #[.val (.long q), .second, .val (.long (own_s (own_s q * (-7154897129451604005 : Int64)))), .second] [(.long (5725274745694666757 : Int64)), (.long (own_s (own_s q * (-7154897129451604005 : Int64))))])) target
    refine XS.lmul X0.here hx rfl (hb hby d_um_26) rfl ?_
    show Steps p.tables e below (s₁.setTop (mkF m 27 #[.val (.long q), .second, .val (.long (own_s (own_s q * (-7154897129451604005 : Int64)))), .second] [(.long ((own_s (own_s q * (-7154897129451604005 : Int64))) * (5725274745694666757 : Int64)))])) target
    refine XS.lstoreN X0.here hx rfl (hb hby d_um_27) rfl (l' := #[.val (.long q), .second, .val (.long ((own_s (own_s q * (-7154897129451604005 : Int64))) * (5725274745694666757 : Int64))), .second]) rfl ?_
    show Steps p.tables e below (s₁.setTop (mkF m 28 #[.val (.long q), .second, .val (.long ((own_s (own_s q * (-7154897129451604005 : Int64))) * (5725274745694666757 : Int64))), .second] [])) target
    show Steps p.tables e below (s₁.setTop (mkF m 28 #[.val (.long q), .second, .val (.long (own_s (own_s q * (-7154897129451604005 : Int64)) * (5725274745694666757 : Int64))), .second] [])) target
    refine XS.lloadN X0.here hx rfl (hb hby d_um_28) rfl ?_
    show Steps p.tables e below (s₁.setTop (mkF m 29 #[.val (.long q), .second, .val (.long (own_s (own_s q * (-7154897129451604005 : Int64)) * (5725274745694666757 : Int64))), .second] [(.long (own_s (own_s q * (-7154897129451604005 : Int64)) * (5725274745694666757 : Int64)))])) target
    refine XS.lloadN X0.here hx rfl (hb hby d_um_29) rfl ?_
    show Steps p.tables e below (s₁.setTop (mkF m 30 #[.val (.long q), .second, .val (.long (own_s (own_s q * (-7154897129451604005 : Int64)) * (5725274745694666757 : Int64))), .second] [(.long (own_s (own_s q * (-7154897129451604005 : Int64)) * (5725274745694666757 : Int64))), (.long (own_s (own_s q * (-7154897129451604005 : Int64)) * (5725274745694666757 : Int64)))])) target
    refine XS.bipush X0.here hx rfl (hb hby d_um_30) ?_
    show Steps p.tables e below (s₁.setTop (mkF m 32 #[.val (.long q), .second, .val (.long (own_s (own_s q * (-7154897129451604005 : Int64)) * (5725274745694666757 : Int64))), .second] [(.int (33 : Int32)), (.long (own_s (own_s q * (-7154897129451604005 : Int64)) * (5725274745694666757 : Int64))), (.long (own_s (own_s q * (-7154897129451604005 : Int64)) * (5725274745694666757 : Int64)))])) target
    refine XS.lushr X0.here hx rfl (hb hby d_um_32) rfl ?_
    show Steps p.tables e below (s₁.setTop (mkF m 33 #[.val (.long q), .second, .val (.long (own_s (own_s q * (-7154897129451604005 : Int64)) * (5725274745694666757 : Int64))), .second] [(.long (((own_s (own_s q * (-7154897129451604005 : Int64)) * (5725274745694666757 : Int64)).toUInt64 >>> ((33 : Int32) &&& 0x3f).toInt64.toUInt64).toInt64)), (.long (own_s (own_s q * (-7154897129451604005 : Int64)) * (5725274745694666757 : Int64)))])) target
    refine XS.lxor X0.here hx rfl (hb hby d_um_33) rfl ?_
    show Steps p.tables e below (s₁.setTop (mkF m 34 #[.val (.long q), .second, .val (.long (own_s (own_s q * (-7154897129451604005 : Int64)) * (5725274745694666757 : Int64))), .second] [(.long ((own_s (own_s q * (-7154897129451604005 : Int64)) * (5725274745694666757 : Int64)) ^^^ (((own_s (own_s q * (-7154897129451604005 : Int64)) * (5725274745694666757 : Int64)).toUInt64 >>> ((33 : Int32) &&& 0x3f).toInt64.toUInt64).toInt64)))])) target
    refine XS.lstoreN X0.here hx rfl (hb hby d_um_34) rfl (l' := #[.val (.long q), .second, .val (.long ((own_s (own_s q * (-7154897129451604005 : Int64)) * (5725274745694666757 : Int64)) ^^^ (((own_s (own_s q * (-7154897129451604005 : Int64)) * (5725274745694666757 : Int64)).toUInt64 >>> ((33 : Int32) &&& 0x3f).toInt64.toUInt64).toInt64))), .second]) rfl ?_
    show Steps p.tables e below (s₁.setTop (mkF m 35 #[.val (.long q), .second, .val (.long ((own_s (own_s q * (-7154897129451604005 : Int64)) * (5725274745694666757 : Int64)) ^^^ (((own_s (own_s q * (-7154897129451604005 : Int64)) * (5725274745694666757 : Int64)).toUInt64 >>> ((33 : Int32) &&& 0x3f).toInt64.toUInt64).toInt64))), .second] [])) target
    show Steps p.tables e below (s₁.setTop (mkF m 35 #[.val (.long q), .second, .val (.long (own_s (own_s (own_s q * (-7154897129451604005 : Int64)) * (5725274745694666757 : Int64)))), .second] [])) target
    refine XS.lloadN X0.here hx rfl (hb hby d_um_35) rfl ?_
    show Steps p.tables e below (s₁.setTop (mkF m 36 #[.val (.long q), .second, .val (.long (own_s (own_s (own_s q * (-7154897129451604005 : Int64)) * (5725274745694666757 : Int64)))), .second] [(.long (own_s (own_s (own_s q * (-7154897129451604005 : Int64)) * (5725274745694666757 : Int64))))])) target
    exact kt
  obtain ⟨fs, hr, hrun, hended, hW, hsame⟩ := X0.leave (v := some (.long (own_s (own_s (own_s q * (-7154897129451604005 : Int64)) * (5725274745694666757 : Int64))))) (fun h => by rw [Bd.returns] at h; cases h)
  refine ⟨_, _, Jvm.Stand.lreturnOut X0 hx Bd.returns (hb hby d_um_36) hr, hrun, hended, _, _, rfl, ?_, ⟨_, rfl⟩, hW, hsame.mono (by decide) (by decide)⟩
  show Q_um Z q h0 n0 _ s₁.heap _
  rw [e0]
  exact ⟨(congrArg (fun z => some (Value.long z)) (rfl)), N0, rfl⟩
-- com/example/bucketer/bucketer/hash/Murmur3x64FinalMixPinLaw.law:(J)Z
theorem pn_law : plainName "com/example/bucketer/bucketer/hash/Murmur3x64FinalMixPinLaw" = true := by first | (simp [plainName, overriddenIn]; done) | decide +kernel
theorem ef_law (m : MethodId) (k : Int64) : entryFrame m #[(.long k)] maxLocals = mkF m 0 #[.val (.long k), .second, .unset, .unset] [] := by first | (simp [entryFrame, mkF, argsToLocals, Value.category, maxLocals]; done) | rfl
def Q_law (Z : State) (k : Int64) (h0 : Heap) (n0 : Nat) (v : Option Value) (h : Heap) (L : List Loc) : Prop := v = some (.int (1 : Int32)) ∧ Fr n0 L
set_option maxRecDepth 65536 in
set_option maxHeartbeats 40000000 in
theorem rm_law (l : Launch) (Z : State) (a0 : Array Value) (hw : ∀ d ∈ tables_1, d.before a0 Z = true) (ws : List Jvm.Cond) (k : Int64) (h0 : Heap) (n0 : Nat) (Z0 : n0 ≤ h0.size) :
    MetFree l x (head1 (Jvm.Cond.code x code maxLocals ret :: ws) room_1) (fun a U => a = #[(.long k)] ∧ Z.Warmed39 U.vm ∧ U.heap = h0) (fun _ _ _ _ _ => True) (fun _ U o U' => ∃ v L, o = .returned v ∧ Q_law Z k h0 n0 v U'.heap L ∧ FrameEnd U o U' L room_1.cells room_1.slots) := by
  refine MetFree.of_bodySF (plainFor_of_name pn_law) hisR ?_
  intro p e s m args below meth c s₁ Bd hml0 hP hK
  obtain ⟨rfl, hZ, hh⟩ := hP
  have hx := Bd.exec
  have hby := Bd.bytes
  have hml : c.maxLocals = 4 := hml0
  have hown : s.vm.findClass "com/example/bucketer/bucketer/hash/Murmur3x64FinalMixPinLaw" = some m.cls := findClass_of_methodNamed Bd.named
  have hnm := (name_of_methodNamed Bd.named Bd.method).1
  have X0 : Stand p l e room_1 s m #[(.long k)] below meth c s₁ [] 0 0 := Stand.of_body Bd
  have e0 : s₁.heap = h0 := by rw [← hh, Bd.state]; rfl
  have N0 := Fr.nil n0
  refine own_in ?_
  refine own_go (S' := s₁.setTop (mkF m 0 #[.val (.long k), .second, .unset, .unset] [])) (fun tgt_ stp_ => castTop (ef_law m k) stp_) ?_
  obtain ⟨_, _, ⟨T1, L1, k1, n1⟩, -, X1, ⟨Lc1, hQ1, l1, y1, z1⟩, st1⟩ := Jvm.LawKit.callS X0 hx (y := (⟨"com/example/bucketer/bucketer/hash/Murmur3x64", "finalMix", "(J)J"⟩ : MethodName)) hown (mvT hZ (hw _ (List.mem_of_getElem? (i := 0) rfl))) (mvT hZ (hw _ (List.mem_of_getElem? (i := 1) rfl))) (mvT hZ (hw _ (List.mem_of_getElem? (i := 2) rfl))) (mvT hZ (hw _ (List.mem_of_getElem? (i := 3) rfl))) (by decide) (backOf (W := 0) (rm_fm l Z a0 hw [] k  h0 n0 Z0 ) hZ (hw _ (List.mem_of_getElem? (i := 3) rfl)) (hw _ (List.mem_of_getElem? (i := 2) rfl)) (by decide) (by decide)) (g := (mkF m 1 #[.val (.long k), .second, .unset, .unset] [(.long k)])) rfl (by rw [hml]; rfl) (argsL := [(.long k)]) (rest := []) (lenOf pd_J_J rfl) rfl (by show 2 * 0 + _ ≤ _; exact Nat.le_of_eq rfl) (hb hby at_1) (fun _ _ => ⟨rfl, e0, (by decide : 0 + 0 ≤ _), (by decide : 0 + 0 ≤ _)⟩)
  dsimp only [Pt.U, Pt.locs, Pt.cells, Pt.slots] at X1 l1 y1 z1 st1 hQ1
  subst l1 y1 z1
  obtain ⟨rfl, N1q, p1_0⟩ := hQ1
  have N1 := Fr.app N0 N1q
  obtain ⟨_, _, ⟨T2, L2, k2, n2⟩, -, X2, ⟨Lc2, hQ2, l2, y2, z2⟩, st2⟩ := Jvm.LawKit.callS X1 hx (y := (⟨"com/example/bucketer/bucketer/hash/Murmur3x64FinalMixPinLaw", "unmix", "(J)J"⟩ : MethodName)) hown (mvT hZ (hw _ (List.mem_of_getElem? (i := 6) rfl))) (mvT hZ (hw _ (List.mem_of_getElem? (i := 7) rfl))) (mvT hZ (hw _ (List.mem_of_getElem? (i := 8) rfl))) (mvT hZ (hw _ (List.mem_of_getElem? (i := 9) rfl))) (by decide) (backOf (W := 0) (rm_um l Z a0 hw [] (own_mix k)  h0 n0 Z0 ) hZ (hw _ (List.mem_of_getElem? (i := 9) rfl)) (hw _ (List.mem_of_getElem? (i := 8) rfl)) (by decide) (by decide)) (g := (mkF m 6 #[.val (.long k), .second, .val (.long (own_mix k)), .second] [(.long (own_mix k))])) rfl (by rw [hml]; rfl) (argsL := [(.long (own_mix k))]) (rest := []) (lenOf pd_J_J rfl) rfl (by show 2 * 0 + _ ≤ _; exact Nat.le_of_eq rfl) (hb hby at_6) (fun _ _ => ⟨rfl, p1_0, (by decide : 0 + 0 ≤ _), (by decide : 0 + 0 ≤ _)⟩)
  dsimp only [Pt.U, Pt.locs, Pt.cells, Pt.slots] at X2 l2 y2 z2 st2 hQ2
  subst l2 y2 z2
  obtain ⟨rfl, N2q, p2_0⟩ := hQ2
  have N2 := Fr.app N1 N2q
  refine own_go (S' := T2.setTop (mkF m 19 #[.val (.long k), .second, .val (.long (own_mix k)), .second] [(.int (1 : Int32))])) (fun target kt => ?_) ?_
  · show Steps p.tables e below (s₁.setTop (mkF m 0 #[.val (.long k), .second, .unset, .unset] [])) target
    refine XS.lloadN X0.here hx rfl (hb hby at_0) rfl ?_
    show Steps p.tables e below (s₁.setTop (mkF m 1 #[.val (.long k), .second, .unset, .unset] [(.long k)])) target
    refine st1 _ ?_
    show Steps p.tables e below (T1.setTop (mkF m 4 #[.val (.long k), .second, .unset, .unset] [(.long (own_mix k))])) target
    refine XS.lstoreN X1.here hx rfl (hb hby at_4) rfl (l' := #[.val (.long k), .second, .val (.long (own_mix k)), .second]) rfl ?_
    show Steps p.tables e below (T1.setTop (mkF m 5 #[.val (.long k), .second, .val (.long (own_mix k)), .second] [])) target
    refine XS.lloadN X1.here hx rfl (hb hby at_5) rfl ?_
    show Steps p.tables e below (T1.setTop (mkF m 6 #[.val (.long k), .second, .val (.long (own_mix k)), .second] [(.long (own_mix k))])) target
    refine st2 _ ?_
    show Steps p.tables e below (T2.setTop (mkF m 9 #[.val (.long k), .second, .val (.long (own_mix k)), .second] [(.long (own_unmix (own_mix k)))])) target
    refine XS.lloadN X2.here hx rfl (hb hby at_9) rfl ?_
    show Steps p.tables e below (T2.setTop (mkF m 10 #[.val (.long k), .second, .val (.long (own_mix k)), .second] [(.long k), (.long (own_unmix (own_mix k)))])) target
    refine XS.lcmp X2.here hx rfl (hb hby at_10) rfl ?_
    show Steps p.tables e below (T2.setTop (mkF m 11 #[.val (.long k), .second, .val (.long (own_mix k)), .second] [(.int (lcmpW (own_unmix (own_mix k)) k))])) target
    refine XS.ifNo X2.here hx rfl (hb hby at_11) rfl ((if0 _ _).trans (teq (own_l1 (own_um k : (own_unmix (own_mix k)) = k))).2) ?_
    show Steps p.tables e below (T2.setTop (mkF m 14 #[.val (.long k), .second, .val (.long (own_mix k)), .second] [])) target
    refine XS.iconst X2.here hx rfl (hb hby at_14) ?_
    show Steps p.tables e below (T2.setTop (mkF m 15 #[.val (.long k), .second, .val (.long (own_mix k)), .second] [(.int (1 : Int32))])) target
    refine XS.goto X2.here hx rfl (pc0 := 15) (pc' := 19) rfl (hb hby at_15) (by decide) (by decide) ?_
    show Steps p.tables e below (T2.setTop (mkF m 19 #[.val (.long k), .second, .val (.long (own_mix k)), .second] [(.int (1 : Int32))])) target
    exact kt
  obtain ⟨fs, hr, hrun, hended, hW, hsame⟩ := X2.leave (v := some (.int (1 : Int32))) (fun h => by rw [Bd.returns] at h; cases h)
  refine ⟨_, _, retN X2 hx (t := .boolean) Bd.returns (by simp) (hb hby at_19) hr, hrun, hended, _, _, rfl, ?_, ⟨_, rfl⟩, hW, hsame.mono (by decide) (by decide)⟩
  show Q_law Z k h0 n0 _ T2.heap _
  rw [p2_0]
  exact ⟨rfl, N2⟩
set_option maxRecDepth 65536 in
set_option maxHeartbeats 40000000 in
theorem comes_1 {Post : Tables → Env → Array Value → State → Outcome → State → Prop} (hpost : ∀ tb e args s v u, (limb_1_1.after args s (.returned v) u = true ∧ limb_1_2.after args s (.returned v) u = true ∧ True) → FrameEnd s (.returned v) u (Jvm.fieldLocs frame_1_writes args s ++ Jvm.arrayLocs frame_1_arrays args s ++ Jvm.staticLocs frame_1_statics s) 0 0 → Post tb e args s (.returned v) u) :
    ArmFor flags0 classFile x code maxLocals ret World_1 tables_1 room_1 Calls_1 rest_1 Pre_1 Post := by
  intro l hfl _ _ p e ha hc hk s m args below hf hA hF happ hP
  obtain ⟨hcalls, hrest, hpre⟩ := hP
  obtain ⟨-, -, -, hnamed, -, -, -, hat⟩ := (Spec.applies_iff hf).mp happ
  obtain ⟨hg, hn⟩ := and_e (Cond.before_iff.mp (show (Jvm.Cond.and given_1 narrow_1).before args s = true from hpre))
  obtain ⟨gc0, gd0⟩ := and_e hg
  obtain ⟨w0, rfl⟩ : ∃ w0 : Value, args = #[w0] := by
    have hs : args.size = 1 := by simpa [Cond.value, given_1] using gc0
    obtain ⟨L⟩ := args
    match L, hs with
    | [w0], _ => exact ⟨w0, rfl⟩
  have hw := fun d (hd : d ∈ tables_1) => atoms_spec (ws := Jvm.Cond.code x code maxLocals ret :: tables_1) hat d (List.mem_cons_of_mem _ hd)
  obtain ⟨i0, ei0⟩ := isL_v gd0
  obtain rfl : w0 = (.long i0) := Option.some.inj ei0
  obtain ⟨n, o, h1, h2, h3, _, L, rfl, ⟨rfl, N⟩, hq⟩ := rm_law l s _ hw tables_1 i0 s.heap s.heap.size (Nat.le_refl _) p e ha hc hk s m _ below hf ((Spec.applies_iff_loose hf).mp happ).1 ⟨rfl, State.Warmed39.refl s, rfl⟩ trivial
  refine ⟨n, _, h1, h2, h3, hpost _ _ _ _ _ _ ⟨Cond.after_iff.mpr rfl, Cond.after_iff.mpr (eq_i res_at (Term.int_eval (1)) rfl), trivial⟩ ⟨hq.1, hq.2.1, (hq.2.2.sift fun y hy => Or.inr (N y hy)).mono (by decide) (by decide)⟩⟩
theorem main_1_1 : Claimed_1_1 := comes_1 fun _ _ _ _ _ _ h hF => ⟨h.1, hF⟩
theorem main_1_2 : Claimed_1_2 := comes_1 fun _ _ _ _ _ _ h hF => ⟨h.2.1, hF⟩
end Jvm.Pilot.@@N@@
namespace Jvm.Pilot.@@N@@
open Jvm Jvm.ClassFile Sem Op Lib Jvm.Free Jvm.Stand Jvm.Pilot.@@N@@.Jvm.D
/-! MADE BY PROGRAM (witnessworld.py) out of the Statement's table words and the real class files: 9 classes; the members and pool entries that the words name. The judged class is class 1, her method 2. -/
namespace start1
open Jvm.ClassFile
def u (s : String) : CpInfo := .utf8 (stringToUtf16 s)
/-- a pool by its gaps: so many unusable entries, then the entry; so many at the end -/
def gap : Nat → List CpInfo → List CpInfo
  | 0, r => r
  | n + 1, r => .unusable :: gap n r
def poolList (es : List (Nat × CpInfo)) (last : Nat) : List CpInfo := es.foldr (fun e r => gap e.1 (e.2 :: r)) (gap last [])
def pool (es : List (Nat × CpInfo)) (last : Nat) : Array CpInfo := ⟨poolList es last⟩
def fileOf (pool : Array CpInfo) (this : Nat) (attrs : Array Attribute := #[]) (ms : Array MethodInfo := #[]) (fl : Nat := 33) (sup : Nat := 0) (ifs : Array Nat := #[]) (fds : Array FieldInfo := #[]) : ClassFile where
  minorVersion := 0
  majorVersion := 65
  constantPool := pool
  accessFlags := fl
  thisClass := this
  superClass := sup
  interfaces := ifs
  fields := fds
  methods := ms
  attributes := attrs
def plain (name : String) (sup : Option ClassId) : Class where
  name := name
  kind := .ordinary
  loader := none
  accessFlags := 33
  super := sup
  interfaces := #[]
  cf := none
  fields := #[]
  methods := #[]
  instanceTypes := #[]
  staticTypes := #[]
  resolved := #[]
  callSites := []
  init := .initialized
  statics := none
  mirror := none

def pool0 : Array CpInfo := pool [(5, u "<init>"), (0, u "()V"), (1, .class_ 10), (1, u "java/lang/Object")] 113

def k0m0 : Method := { name := "<init>", desc := "()V", sig := { parameters := [], returnType := none }, accessFlags := 1, code := none }
/-- java/lang/Object -/
def k0 : Class := { plain "java/lang/Object" none with
  accessFlags := 33
  interfaces := #[]
  cf := some (fileOf pool0 8 #[] #[{ accessFlags := 1, nameIndex := 5, descriptorIndex := 6, attributes := #[] }] 33 0 #[] #[])
  fields := #[]
  methods := #[k0m0]
  instanceTypes := #[]
  staticTypes := #[]
  resolved := Array.replicate 124 none
  statics := none }

def pool1 : Array CpInfo := pool [(2, .class_ 4), (1, u "java/lang/Object"), (0, u "<init>"), (0, u "()V"), (0, .long 11291846944257947611), (1, .long 5725274745694666757), (1, .methodref 12 13), (0, .class_ 14), (0, .nameAndType 15 16), (0, u "com/example/bucketer/bucketer/hash/Murmur3x64"), (0, u "finalMix"), (0, u "(J)J"), (0, .methodref 18 19), (0, .class_ 20), (0, .nameAndType 21 16), (0, u "com/example/bucketer/bucketer/hash/Murmur3x64FinalMixPinLaw"), (0, u "unmix"), (2, u "law"), (0, u "(J)Z")] 3

def k1m0 : Method := { name := "<init>", desc := "()V", sig := { parameters := [], returnType := none }, accessFlags := 2, code := none }
def k1c1 : Code := { maxStack := 5, maxLocals := 4, code := method_2_code, exceptionTable := #[], attributes := #[] }
def k1m1 : Method := { name := "unmix", desc := "(J)J", sig := { parameters := [.long], returnType := some .long }, accessFlags := 10, code := some k1c1 }
def k1c2 : Code := { maxStack := 4, maxLocals := 4, code := code, exceptionTable := #[], attributes := #[] }
def k1m2 : Method := { name := "law", desc := "(J)Z", sig := { parameters := [.long], returnType := some .boolean }, accessFlags := 9, code := some k1c2 }
/-- com/example/bucketer/bucketer/hash/Murmur3x64FinalMixPinLaw -/
def k1 : Class := { plain "com/example/bucketer/bucketer/hash/Murmur3x64FinalMixPinLaw" (some 0) with
  accessFlags := 49
  interfaces := #[]
  cf := some (fileOf pool1 18 #[] #[{ accessFlags := 2, nameIndex := 5, descriptorIndex := 6, attributes := #[] }, { accessFlags := 10, nameIndex := 21, descriptorIndex := 16, attributes := #[] }, { accessFlags := 9, nameIndex := 24, descriptorIndex := 25, attributes := #[] }] 49 2 #[] #[])
  fields := #[]
  methods := #[k1m0, k1m1, k1m2]
  instanceTypes := #[]
  staticTypes := #[]
  resolved := Array.replicate 29 none
  statics := none }

def pool2 : Array CpInfo := pool [(2, .class_ 4), (1, u "java/lang/Object"), (0, u "<init>"), (0, u "()V"), (13, .class_ 22), (1, u "com/example/bucketer/bucketer/hash/Murmur3x64"), (11, u "(J)J"), (27, u "finalMix"), (4, .long 18397679294719823053), (1, .long 14181476777654086739), (1, u "C1"), (0, u "J"), (1, u "C2")] 8

def k2m0 : Method := { name := "<init>", desc := "()V", sig := { parameters := [], returnType := none }, accessFlags := 2, code := none }
def k2c1 : Code := { maxStack := 5, maxLocals := 4, code := prog_4_method_6_code, exceptionTable := #[], attributes := #[] }
def k2m1 : Method := { name := "finalMix", desc := "(J)J", sig := { parameters := [.long], returnType := some .long }, accessFlags := 9, code := some k2c1 }
/-- com/example/bucketer/bucketer/hash/Murmur3x64 -/
def k2 : Class := { plain "com/example/bucketer/bucketer/hash/Murmur3x64" (some 0) with
  accessFlags := 49
  interfaces := #[]
  cf := some (fileOf pool2 20 #[] #[{ accessFlags := 2, nameIndex := 5, descriptorIndex := 6, attributes := #[] }, { accessFlags := 9, nameIndex := 62, descriptorIndex := 34, attributes := #[] }] 49 2 #[] #[{ accessFlags := 26, nameIndex := 71, descriptorIndex := 72, attributes := #[] }, { accessFlags := 26, nameIndex := 74, descriptorIndex := 72, attributes := #[] }])
  fields := #[{ name := "C1", type := .long, accessFlags := 26, slot := 0, constantValue := 0 }, { name := "C2", type := .long, accessFlags := 26, slot := 1, constantValue := 0 }]
  methods := #[k2m0, k2m1]
  instanceTypes := #[]
  staticTypes := #[.long, .long]
  resolved := Array.replicate 83 none
  statics := none }

def pool3 : Array CpInfo := pool [(1, u "java/lang/Cloneable"), (0, .class_ 1), (0, u "java/lang/Object"), (0, .class_ 3)] 3

/-- java/lang/Cloneable -/
def k3 : Class := { plain "java/lang/Cloneable" (some 0) with
  accessFlags := 1537
  interfaces := #[]
  cf := some (fileOf pool3 2 #[] #[] 1537 4 #[] #[])
  fields := #[]
  methods := #[]
  instanceTypes := #[]
  staticTypes := #[]
  resolved := Array.replicate 8 none
  statics := none }

def pool4 : Array CpInfo := pool [(1, u "java/io/Serializable"), (0, .class_ 1), (0, u "java/lang/Object"), (0, .class_ 3)] 3

/-- java/io/Serializable -/
def k4 : Class := { plain "java/io/Serializable" (some 0) with
  accessFlags := 1537
  interfaces := #[]
  cf := some (fileOf pool4 2 #[] #[] 1537 4 #[] #[])
  fields := #[]
  methods := #[]
  instanceTypes := #[]
  staticTypes := #[]
  resolved := Array.replicate 8 none
  statics := none }

/-- the primitive byte -/
def k5 : Class := { plain "byte" none with kind := .primitive 'B', accessFlags := 0x411 }
/-- [B -/
def k6 : Class := { plain "[B" (some 0) with kind := .array 5 .byte, interfaces := #[3, 4], accessFlags := 1041 }

/-- the primitive int -/
def k7 : Class := { plain "int" none with kind := .primitive 'I', accessFlags := 0x411 }
/-- [I -/
def k8 : Class := { plain "[I" (some 0) with kind := .array 7 .int, interfaces := #[3, 4], accessFlags := 1041 }

def heap : Heap := #[]
def classes : Array Class := #[k0, k1, k2, k3, k4, k5, k6, k7, k8]
def interned : List (Array UInt16 × Addr) := []
def slotsUsed : Nat := 0
def theMethod : MethodId := ⟨1, 2⟩
def args0 : Array Value := #[.long 5]
def aboutOver (below : List Frame) : State where
  vm := { classes := classes, interned := interned.toArray }
  heap := heap
  slotsUsed := slotsUsed
  threads := #[{ frames := .invoking theMethod args0 :: below }]
def below0 : List Frame := [.native { method := ⟨0, 0⟩, args := #[] }]
def about1 : State := aboutOver below0
def p0 : Program := .bare "" "" ""
def e0 : Env := launch0.env 0 0 0
theorem w_frames : about1.frames = Frame.invoking theMethod args0 :: below0 := rfl
set_option maxRecDepth 65536 in
theorem w_args : argsFit about1.vm theMethod args0 = true := by decide +kernel
set_option maxRecDepth 65536 in
theorem w_heap : heapFits about1 = true := by decide +kernel
set_option maxRecDepth 65536 in
theorem w_runnable : about1.curStatus? = some .runnable := by decide +kernel
set_option maxRecDepth 65536 in
theorem w_alone : about1.alone = true := by decide +kernel
set_option maxRecDepth 65536 in
theorem w_named : about1.methodNamed? x = some theMethod := by decide +kernel
set_option maxRecDepth 65536 in
theorem w_hears : about1.hears theMethod below0 = true := by decide +kernel
set_option maxRecDepth 65536 in
theorem w_ripe : about1.ripe theMethod args0 below0 = true := by decide +kernel
theorem w_running : about1.status = .running := rfl
set_option maxRecDepth 65536 in
theorem w_room : about1.hasRoom e0.platform room_1 = true :=
  launch0.hasRoom_least _ room_1 (by decide +kernel) (by decide +kernel) (by decide +kernel) (by decide +kernel) (by decide +kernel) (by decide +kernel)
theorem allAtoms_all (ts : List Jvm.Cond) (a : Array Jvm.Value) (st : Jvm.State) : (allAtoms ts).before a st = ts.all (fun c => c.before a st) := by
  induction ts with
  | nil => rfl
  | cons c t ih =>
    show (Jvm.Cond.and c (allAtoms t)).before a st = _
    rw [Jvm.Cond.before_and, ih, List.all_cons]
def words1 : List Jvm.Cond := Jvm.Cond.code x code maxLocals ret :: tables_1
/-- a 'code' word, met by the world's own term for the bytes: nothing is compared byte by byte -/
theorem code_word {y : MethodName} {bytes : ByteArray} {mx : Nat} {rt : Option FieldType} {a : Array Value} {s : State} {m : MethodId} {meth : Method} {c : Code} (h1 : s.methodNamed? y = some m) (h2 : s.vm.method? m = some meth) (h3 : meth.code = some c) (h4 : c.code = bytes)
    (h5 : (c.maxLocals == mx && c.exceptionTable.isEmpty && decide (c.maxStack ≤ mostOperands) && decide (meth.sig.returnType = rt) && !meth.locks && decide (parseMethodDescriptor y.desc = some meth.sig)) = true) : (Jvm.Cond.code y bytes mx rt).before a s = true := by
  simp only [Bool.and_eq_true, beq_iff_eq, Bool.not_eq_true', decide_eq_true_eq] at h5
  obtain ⟨⟨⟨⟨⟨g1, g2⟩, g3⟩, g4⟩, g5⟩, g6⟩ := h5
  simp [Cond.before, Cond.holds, Cond.value, h1, h2, h3, h4, g1, g2, g3, g4, g5, g6]
def isCode : Jvm.Cond → Bool
  | .code _ _ _ _ => true
  | _ => false
theorem all_split {L : List Jvm.Cond} {P : Jvm.Cond → Bool} (h1 : L.all (fun c => isCode c || P c) = true) (h2 : ∀ c ∈ L.filter isCode, P c = true) : L.all P = true := by
  refine List.all_eq_true.mpr fun c hc => ?_
  have h := List.all_eq_true.mp h1 c hc
  rcases Bool.eq_false_or_eq_true (isCode c) with hi | hi
  · exact h2 c (List.mem_filter.mpr ⟨hc, hi⟩)
  · simpa [hi] using h
set_option maxRecDepth 65536 in
theorem w_c0 : (Jvm.Cond.code x code maxLocals ret).before args0 about1 = true := code_word (m := ⟨1, 2⟩) (meth := k1m2) (c := k1c2) (by decide +kernel) rfl rfl rfl (by decide +kernel)
set_option maxRecDepth 65536 in
theorem w_c1 : (Jvm.Cond.code ({ cls := "com/example/bucketer/bucketer/hash/Murmur3x64", name := "finalMix", desc := "(J)J" } : Jvm.MethodName) prog_4_method_6_code (4 : Nat) (Option.some Jvm.ClassFile.FieldType.long)).before args0 about1 = true := code_word (m := ⟨2, 1⟩) (meth := k2m1) (c := k2c1) (by decide +kernel) rfl rfl rfl (by decide +kernel)
set_option maxRecDepth 65536 in
theorem w_c2 : (Jvm.Cond.code ({ cls := "com/example/bucketer/bucketer/hash/Murmur3x64FinalMixPinLaw", name := "unmix", desc := "(J)J" } : Jvm.MethodName) method_2_code (4 : Nat) (Option.some Jvm.ClassFile.FieldType.long)).before args0 about1 = true := code_word (m := ⟨1, 1⟩) (meth := k1m1) (c := k1c1) (by decide +kernel) rfl rfl rfl (by decide +kernel)
def codes1 : List Jvm.Cond := [Jvm.Cond.code x code maxLocals ret, Jvm.Cond.code ({ cls := "com/example/bucketer/bucketer/hash/Murmur3x64", name := "finalMix", desc := "(J)J" } : Jvm.MethodName) prog_4_method_6_code (4 : Nat) (Option.some Jvm.ClassFile.FieldType.long), Jvm.Cond.code ({ cls := "com/example/bucketer/bucketer/hash/Murmur3x64FinalMixPinLaw", name := "unmix", desc := "(J)J" } : Jvm.MethodName) method_2_code (4 : Nat) (Option.some Jvm.ClassFile.FieldType.long)]
set_option maxRecDepth 65536 in
theorem codes_eq : words1.filter isCode = codes1 := rfl
theorem w_codes : ∀ c ∈ words1.filter isCode, c.before args0 about1 = true := by
  rw [codes_eq]
  intro c hc
  simp only [codes1, List.mem_cons, List.not_mem_nil, or_false] at hc
  rcases hc with rfl | rfl | rfl
  · exact w_c0
  · exact w_c1
  · exact w_c2
set_option maxRecDepth 65536 in
theorem w_t1 : words1.all (fun c => isCode c || c.before args0 about1) = true := by decide +kernel
theorem w_tables : (allAtoms (Jvm.Cond.code x code maxLocals ret :: tables_1)).before args0 about1 = true := by
  rw [allAtoms_all]
  show words1.all (fun c => c.before args0 about1) = true
  refine all_split ?_ w_codes
  rw [w_t1]
set_option maxRecDepth 65536 in
theorem w_case : (Jvm.Cond.and given_1 narrow_1).before args0 about1 = true := by decide +kernel
theorem w_applies : (headSpec (Jvm.Cond.code x code maxLocals ret :: tables_1) room_1).applies x e0.platform about1 = true :=
  (Spec.applies_iff w_frames).mpr ⟨w_running, w_runnable, w_alone, w_named, w_hears, w_ripe, w_room, w_tables⟩
theorem atStart : AtStart classFile x code maxLocals ret World_1 tables_1 room_1 Calls_1 rest_1 Pre_1 launch0 p0 e0 about1 theMethod args0 below0 :=
  ⟨lists_1, trivial, launch0.admits_env _ _ _, launch0.least_env, fairChoices_fair.cas, fairChoices_fair.clock, w_frames, w_args, w_heap, w_applies, trivial, trivial, w_case⟩
end start1
theorem witness_1 : WitnessClaimed_1 := ⟨start1.p0, start1.e0, start1.about1, start1.theMethod, start1.args0, start1.below0, start1.atStart⟩
end Jvm.Pilot.@@N@@
