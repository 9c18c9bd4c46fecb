import JvmDerived
import JvmDerived.Pilot.@@N@@Statement
import JvmDerived.Pilot.@@N@@Code
set_option linter.unusedVariables false
set_option linter.unusedSimpArgs false
namespace Jvm.RoadKit
open Sem ClassFile Op Lib Jvm.Stand Jvm.Free Jvm.LawKit
section New
variable {p : Program} {l : Launch} {e : Env} {R : Room} {s : State} {m : MethodId} {args : Array Value} {below : List Frame} {meth : Method} {c : Code} {T : State} {locs : List Loc} {cells slots : Nat}
theorem retI (X : Stand p l e R s m args below meth c T locs cells slots) (hx : p.tables.exec = Jvm.exec) {pc : Nat} {Ls : Array Slot} {z : Int32} {rest : List Value} (hret : meth.sig.returnType = some .int) (hd : decode c.code pc = .ok (.ireturn, 1)) {fs : List Frame}
    (hl : ∀ (f : JFrame) (acts : List Action), f.method = m → f.locked = none → f.entered = [] → (doReturn e (T.setTop f) acts (some (.int z))).1 = T.setFrames fs) : Steps p.tables e below (T.setTop (mkF m pc Ls (.int z :: rest))) (T.setFrames fs) := by
  have hm' : T.vm.method? m = some meth := X.method'
  have hn : narrow .int (.int z) = .int z := rfl
  show Steps p.tables e below (T.setTop { method := m, pc := pc, locals := Ls, stack := _ :: rest, locked := none }) _
  jvm_step X.here [X.here.top, hx, hd, hm', hret, hn]
  first | (intro acts; rw [hl _ acts rfl rfl rfl]) | rw [hl _ _ rfl rfl rfl]
  exact Steps.refl _
end New
end Jvm.RoadKit
namespace Jvm.Pilot.@@N@@
open Jvm Jvm.ClassFile Sem Op Lib Jvm.Free Jvm.Stand Jvm.LawKit Jvm.RoadKit Bundle Jvm.Pilot.@@N@@.Jvm.D
def own_G (tb : Tables) (e : Env) (below : List Frame) (P : State → Outcome → Prop) (S : State) : Prop := ∃ t o, Steps tb e below S t ∧ P t o
theorem own_in {tb : Tables} {e : Env} {below : List Frame} {P : State → Outcome → Prop} {S : State} (h : own_G tb e below P S) : ∃ t o, Steps tb e below S t ∧ P t o := h
theorem own_go {tb : Tables} {e : Env} {below : List Frame} {P : State → Outcome → Prop} {S S' : State} (f : ∀ t, Steps tb e below S' t → Steps tb e below S t) (h : own_G tb e below P S') : own_G tb e below P S := by
  obtain ⟨t, o, st, hp⟩ := h
  exact ⟨t, o, f t st, hp⟩
theorem own_join {α : Type} {tb : Tables} {e : Env} {below : List Frame} {P : State → Outcome → Prop} {S : State} (C : α → Prop) (F : α → State) (J : ∀ a, C a → own_G tb e below P (F a)) (M : (∀ a, C a → own_G tb e below P (F a)) → own_G tb e below P S) : own_G tb e below P S := M J
theorem own_loop {α : Type} {tb : Tables} {e : Env} {below : List Frame} {P : State → Outcome → Prop} {S : State} (mu : α → Nat) (C : α → Prop) (F : α → State) (J : ∀ a, C a → (∀ b, C b → mu b < mu a → own_G tb e below P (F b)) → own_G tb e below P (F a)) (M : (∀ a, C a → own_G tb e below P (F a)) → own_G tb e below P S) : own_G tb e below P S := by
  apply M
  have q : ∀ n a, mu a < n → C a → own_G tb e below P (F a) := by
    intro n
    induction n with
    | zero => intro a h; exact absurd h (Nat.not_lt_zero _)
    | succ n ih => intro a h ha; exact J a ha fun b hb hlt => ih b (by omega) hb
  exact fun a ha => q _ a (Nat.lt_succ_self _) ha
theorem own_gen {p : Program} {l : Launch} {e : Env} {R : Room} {s : State} {m : MethodId} {args : Array Value} {below : List Frame} {meth : Method} {c : Code} {T : State} {locs : List Loc} {cells slots n0 : Nat} (X : Stand p l e R s m args below meth c T locs cells slots) (N : Fr n0 locs) : ∃ L, Stand p l e R s m args below meth c T L cells slots ∧ Fr n0 L := ⟨_, X, N⟩
theorem own_l1 {a b : Int64} (h : a = b) : lcmpW a b = 0 := by subst h; simp [lcmpW]
theorem own_l2 {a b : Int64} (h : ¬ a = b) : ¬ lcmpW a b = 0 := by
  unfold lcmpW; split
  · decide
  · first | (rw [if_neg h]; decide) | decide
theorem own_l3 {a b : Int64} (h : a < b) : lcmpW a b < 0 := by
  have h1 : ¬ a > b := Int64.not_lt.mpr (Int64.le_of_lt h)
  have h2 : ¬ a = b := fun q => by subst q; exact Int64.lt_irrefl h
  unfold lcmpW; rw [if_neg h1, if_neg h2]; decide
theorem own_l4 {a b : Int64} (h : ¬ a < b) : ¬ lcmpW a b < 0 := by
  unfold lcmpW; split
  · decide
  · split
    · decide
    · rename_i h1 h2
      rw [gt_iff_lt, Int64.lt_iff_toInt_lt] at h1; rw [Int64.lt_iff_toInt_lt] at h; rw [← Int64.toInt_inj] at h2; omega
theorem own_l5 {a b : Int64} (h : b < a) : 0 < lcmpW a b := by unfold lcmpW; rw [if_pos h]; decide
theorem own_l6 {a b : Int64} (h : ¬ b < a) : ¬ 0 < lcmpW a b := by
  unfold lcmpW; rw [if_neg h]; split <;> decide
def own_leq (x0 x1 x2 y0 y1 y2 : Int32) : Int32 := if x0 = y0 ∧ x1 = y1 ∧ x2 = y2 then 1 else 0
def own_eqs (a b : Addr) (x0 x1 x2 y0 y1 y2 : Int32) : Int32 := if a = b then 1 else if own_leq x0 x1 x2 y0 y1 y2 = (0 : Int32) then 0 else 1
theorem own_eqT (a b : Addr) : own_eqs a b (48 : Int32) (48 : Int32) (48 : Int32) (48 : Int32) (48 : Int32) (48 : Int32) = (1 : Int32) := by
  unfold own_eqs; split
  · rfl
  · rw [if_neg (by decide)]
theorem own_eqF {a b : Addr} {z : Int32} (h : a ≠ b) : own_eqs a b (49 : Int32) (48 : Int32) z (48 : Int32) (48 : Int32) (48 : Int32) = (0 : Int32) := by
  unfold own_eqs; rw [if_neg h]
  have e : own_leq (49 : Int32) (48 : Int32) z (48 : Int32) (48 : Int32) (48 : Int32) = 0 := by
    unfold own_leq; rw [if_neg (fun q => absurd q.1 (by decide))]
  rw [if_pos e]
theorem own_arvne {Z : State} {h : Heap} {a b : Addr} {ka kb : ClassId} {x y : Int32} {u v : List Value} {d : Value} (F : Arv Z h a ka .byte (3 : Int32) (.int x :: u) d) (G : Arv Z h b kb .byte (3 : Int32) (.int y :: v) d) (q : x ≠ y) : a ≠ b := fun e => by
  subst e
  obtain ⟨c1, A1, -, S1, -, H1, -⟩ := F
  obtain ⟨c2, A2, -, -, -, H2, -⟩ := G
  cases A1.1.symm.trans A2.1
  have hs : 0 < c1.slots.size := by rw [S1]; decide
  have h1 := H1 0 hs
  have h2 := H2 0 hs
  have e := h1.symm.trans h2
  simp at e
  exact q e
theorem own_rem6 (o : Int32) : (o &&& (2147483647 : Int32)) % (6 : Int32) = (0 : Int32) ∨ (o &&& (2147483647 : Int32)) % (6 : Int32) = (1 : Int32) ∨ (o &&& (2147483647 : Int32)) % (6 : Int32) = (2 : Int32) ∨ (o &&& (2147483647 : Int32)) % (6 : Int32) = (3 : Int32) ∨ (o &&& (2147483647 : Int32)) % (6 : Int32) = (4 : Int32) ∨ (o &&& (2147483647 : Int32)) % (6 : Int32) = (5 : Int32) := by
  have h := (Jvm.RoadKit.c_andS o (2147483647 : Int32)).2.2 (by decide)
  have e : ((o &&& (2147483647 : Int32)) % (6 : Int32)).toInt = (o &&& (2147483647 : Int32)).toInt % 6 := by
    rw [Int32.toInt_mod, show (6 : Int32).toInt = 6 from rfl, Int.tmod_eq_emod_of_nonneg h]
  have c : ∀ z : Int32, ((o &&& (2147483647 : Int32)) % (6 : Int32)).toInt = z.toInt → (o &&& (2147483647 : Int32)) % (6 : Int32) = z := fun z q => Int32.toInt_inj.mp q
  have : (o &&& (2147483647 : Int32)).toInt % 6 = 0 ∨ (o &&& (2147483647 : Int32)).toInt % 6 = 1 ∨ (o &&& (2147483647 : Int32)).toInt % 6 = 2 ∨ (o &&& (2147483647 : Int32)).toInt % 6 = 3 ∨ (o &&& (2147483647 : Int32)).toInt % 6 = 4 ∨ (o &&& (2147483647 : Int32)).toInt % 6 = 5 := by omega
  rw [← e] at this
  rcases this with q | q | q | q | q | q
  · exact Or.inl (c (0 : Int32) q)
  · exact Or.inr (Or.inl (c (1 : Int32) q))
  · exact Or.inr (Or.inr (Or.inl (c (2 : Int32) q)))
  · exact Or.inr (Or.inr (Or.inr (Or.inl (c (3 : Int32) q))))
  · exact Or.inr (Or.inr (Or.inr (Or.inr (Or.inl (c (4 : Int32) q)))))
  · exact Or.inr (Or.inr (Or.inr (Or.inr (Or.inr (c (5 : Int32) q)))))
theorem own_eqi {args : Array Value} {f s : State} {o : Option Outcome} {idx : List Nat} {t : Term} {n : Int32} (h : (Jvm.Cond.eq t (Term.int n)).value args f o s idx = some true) : t.eval args f o idx s = some (.int n) := by
  simp only [Cond.value, Term.eval] at h
  cases ht : t.eval args f o idx s with
  | none => simp [ht] at h
  | some x => cases x <;> simp [ht] at h ⊢; exact h
theorem own_nz {args : Array Value} {s : State} {t : Term} {w : Int32} (e : t.eval args s none [] s = some (.int w)) (h : (Jvm.Cond.not (Jvm.Cond.eq t (Term.int (0 : Int32)))).value args s none s [] = some true) : ¬ w = (0 : Int32) := fun q => by
  subst q
  have h1 := not_v h
  simp [Cond.value, e, Term.eval] at h1
theorem own_ord {args : Array Value} {s : State} {t : Term} {a : Addr} {n : Int32} (e : t.eval args s none [] s = some (.ref a)) (h : (Jvm.Cond.eq (Term.field t "java/lang/Enum" "ordinal" "I") (Term.int n)).value args s none s [] = some true) : Fld s s.heap a "java/lang/Enum" "ordinal" "I" (.int n) :=
  Fld.start (by rw [← fld_at (args := args) (first := s) (o := none) (idx := []) e]; exact own_eqi h)
theorem own_err {args : Array Value} {s : State} {S : String} {x0 x1 x2 : Int32} (hf : Fit s) (hi : (Jvm.Cond.initialized "com/example/cardwarden/cardwarden/wire/ErrorCode").before args s = true) (hl : (Jvm.Cond.laysStatic "com/example/cardwarden/cardwarden/wire/ErrorCode" S "Lcom/example/cardwarden/cardwarden/wire/ErrorCode;").before args s = true)
    (hx1 : (Jvm.Cond.exactly (Term.static "com/example/cardwarden/cardwarden/wire/ErrorCode" S "Lcom/example/cardwarden/cardwarden/wire/ErrorCode;") "com/example/cardwarden/cardwarden/wire/ErrorCode").value args s none s [] = some true) (hx2 : (Jvm.Cond.exactly (Term.field (Term.static "com/example/cardwarden/cardwarden/wire/ErrorCode" S "Lcom/example/cardwarden/cardwarden/wire/ErrorCode;") "com/example/cardwarden/cardwarden/wire/ErrorCode" "code" "Ljava/lang/String;") "java/lang/String").value args s none s [] = some true) (hco : (Jvm.Cond.eq (Term.field (Term.field (Term.static "com/example/cardwarden/cardwarden/wire/ErrorCode" S "Lcom/example/cardwarden/cardwarden/wire/ErrorCode;") "com/example/cardwarden/cardwarden/wire/ErrorCode" "code" "Ljava/lang/String;") "java/lang/String" "coder" "B") (Term.int (0 : Int32))).value args s none s [] = some true)
    (har : (Jvm.Cond.arrayOf (Term.field (Term.field (Term.static "com/example/cardwarden/cardwarden/wire/ErrorCode" S "Lcom/example/cardwarden/cardwarden/wire/ErrorCode;") "com/example/cardwarden/cardwarden/wire/ErrorCode" "code" "Ljava/lang/String;") "java/lang/String" "value" "[B") .byte).value args s none s [] = some true) (hln : (Jvm.Cond.eq (Term.length (Term.field (Term.field (Term.static "com/example/cardwarden/cardwarden/wire/ErrorCode" S "Lcom/example/cardwarden/cardwarden/wire/ErrorCode;") "com/example/cardwarden/cardwarden/wire/ErrorCode" "code" "Ljava/lang/String;") "java/lang/String" "value" "[B")) (Term.int (3 : Int32))).value args s none s [] = some true)
    (h0 : (Jvm.Cond.eq (Term.elem (Term.field (Term.field (Term.static "com/example/cardwarden/cardwarden/wire/ErrorCode" S "Lcom/example/cardwarden/cardwarden/wire/ErrorCode;") "com/example/cardwarden/cardwarden/wire/ErrorCode" "code" "Ljava/lang/String;") "java/lang/String" "value" "[B") (Term.int (0 : Int32))) (Term.int x0)).value args s none s [] = some true) (h1 : (Jvm.Cond.eq (Term.elem (Term.field (Term.field (Term.static "com/example/cardwarden/cardwarden/wire/ErrorCode" S "Lcom/example/cardwarden/cardwarden/wire/ErrorCode;") "com/example/cardwarden/cardwarden/wire/ErrorCode" "code" "Ljava/lang/String;") "java/lang/String" "value" "[B") (Term.int (1 : Int32))) (Term.int x1)).value args s none s [] = some true) (h2 : (Jvm.Cond.eq (Term.elem (Term.field (Term.field (Term.static "com/example/cardwarden/cardwarden/wire/ErrorCode" S "Lcom/example/cardwarden/cardwarden/wire/ErrorCode;") "com/example/cardwarden/cardwarden/wire/ErrorCode" "code" "Ljava/lang/String;") "java/lang/String" "value" "[B") (Term.int (2 : Int32))) (Term.int x2)).value args s none s [] = some true) :
    ∃ (a c v : Addr) (k : ClassId), (Term.static "com/example/cardwarden/cardwarden/wire/ErrorCode" S "Lcom/example/cardwarden/cardwarden/wire/ErrorCode;").eval args s none [] s = some (.ref a) ∧ Sta s s.heap "com/example/cardwarden/cardwarden/wire/ErrorCode" S "Lcom/example/cardwarden/cardwarden/wire/ErrorCode;" (.ref a) ∧ Exa s s.heap a "com/example/cardwarden/cardwarden/wire/ErrorCode" ∧ Fld s s.heap a "com/example/cardwarden/cardwarden/wire/ErrorCode" "code" "Ljava/lang/String;" (.ref c) ∧ Exa s s.heap c "java/lang/String" ∧ Fld s s.heap c "java/lang/String" "coder" "B" (.int (0 : Int32)) ∧ Fld s s.heap c "java/lang/String" "value" "[B" (.ref v) ∧ Arv s s.heap v k .byte (3 : Int32) [(.int x0), (.int x1), (.int x2)] (.int (0 : Int32)) := by
  obtain ⟨a, ea⟩ := exa_v hx1
  obtain ⟨c, ec⟩ := exa_v hx2
  obtain ⟨v, ev⟩ := arr_v har
  obtain ⟨cl, A⟩ := Arr.start ev har
  have el := own_eqi hln
  have hat : s.arrayAt? v = some cl := A.fin (Vm.Alike.refl _)
  have hsz : cl.slots.size < 2 ^ 31 ∧ cl.slots.size.toInt32 = (3 : Int32) := by
    have q := el
    simp only [Term.eval, Option.bind_eq_bind] at q
    by_cases hlt : cl.slots.size < 2 ^ 31
    · refine ⟨hlt, ?_⟩
      have e1 := len_f (args := args) (first := s) (o := none) (idx := []) ev hat hlt
      have e2 := e1.symm.trans el
      simpa using e2
    · exfalso
      have e3 : (Term.length (Term.field (Term.field (Term.static "com/example/cardwarden/cardwarden/wire/ErrorCode" S "Lcom/example/cardwarden/cardwarden/wire/ErrorCode;") "com/example/cardwarden/cardwarden/wire/ErrorCode" "code" "Ljava/lang/String;") "java/lang/String" "value" "[B")).eval args s none [] s = none := by
        simp only [Term.eval, Option.bind_eq_bind] at ev ⊢
        simp [ev, hat, hlt]
      rw [e3] at el; cases el
  refine ⟨a, c, v, cl.cls, ea, Sta.start ea (Or.inr ⟨hi, hl⟩), Exa.start ea hx1, Fld.start (by rw [← fld_at (args := args) (first := s) (o := none) (idx := []) ea]; exact ec), Exa.start ec hx2, Fld.start (by rw [← fld_at (args := args) (first := s) (o := none) (idx := []) ec]; exact own_eqi hco), Fld.start (by rw [← fld_at (args := args) (first := s) (o := none) (idx := []) ec]; exact ev), Arv.start hf A hsz.1 hsz.2 (by decide) rfl ⟨?_, ?_, ?_, trivial⟩⟩
  · exact (elem_in (own_eqi h0) ev rfl A.1).2
  · exact (elem_in (own_eqi h1) ev rfl A.1).2
  · exact (elem_in (own_eqi h2) ev rfl A.1).2
theorem pd__LjavalangString : parseMethodDescriptor "()Ljava/lang/String;" = some ⟨[], some (.object "java/lang/String")⟩ := by decide +kernel
theorem pd__Z : parseMethodDescriptor "()Z" = some ⟨[], some .boolean⟩ := by decide +kernel
theorem pd_I_LcomexamplecardwardencardwardenwireErrorCode : parseMethodDescriptor "(I)Lcom/example/cardwarden/cardwarden/wire/ErrorCode;" = some ⟨[.int], some (.object "com/example/cardwarden/cardwarden/wire/ErrorCode")⟩ := by decide +kernel
theorem pd_LjavalangObject_Z : parseMethodDescriptor "(Ljava/lang/Object;)Z" = some ⟨[(.object "java/lang/Object")], some .boolean⟩ := by decide +kernel
theorem pd_ABAB_Z : parseMethodDescriptor "([B[B)Z" = some ⟨[(.array .byte), (.array .byte)], some .boolean⟩ := by decide +kernel
-- com/example/cardwarden/cardwarden/wire/ErrorCodeIsSuccessPinLaw.pick:(I)Lcom/example/cardwarden/cardwarden/wire/ErrorCode;
theorem d_pick0_0 : decode method_2_code 0 = .ok (.iload_n 0, 1) := by decide +kernel
theorem d_pick0_1 : decode method_2_code 1 = .ok (.ifCond .ne 7, 3) := by decide +kernel
theorem d_pick0_4 : decode method_2_code 4 = .ok (.getstatic 7, 3) := by decide +kernel
theorem d_pick0_7 : decode method_2_code 7 = .ok (.areturn, 1) := by decide +kernel
theorem pn_pick0 : plainName "com/example/cardwarden/cardwarden/wire/ErrorCodeIsSuccessPinLaw" = true := by first | (simp [plainName, overriddenIn]; done) | decide +kernel
theorem ef_pick0 (m : MethodId) (ax : Addr) : entryFrame m #[(.int (0 : Int32))] 1 = mkF m 0 #[.val (.int (0 : Int32))] [] := by first | (simp [entryFrame, mkF, argsToLocals, Value.category]; done) | rfl
def Q_pick0 (Z : State) (ax : Addr) (h0 : Heap) (n0 : Nat) (v : Option Value) (h : Heap) (L : List Loc) : Prop := v = some (.ref ax) ∧ Fr n0 L ∧ h = h0
set_option maxRecDepth 65536 in
set_option maxHeartbeats 40000000 in
theorem rm_pick0 (l : Launch) (Z : State) (a0 : Array Value) (hw : ∀ d ∈ tables_1, d.before a0 Z = true) (ws : List Jvm.Cond) (ax : Addr) (h0 : Heap) (n0 : Nat) (Z0 : n0 ≤ h0.size) (S1 : Sta Z h0 "com/example/cardwarden/cardwarden/wire/ErrorCode" "SUCCESS" "Lcom/example/cardwarden/cardwarden/wire/ErrorCode;" (.ref ax)) :
    MetFree l (⟨"com/example/cardwarden/cardwarden/wire/ErrorCodeIsSuccessPinLaw", "pick", "(I)Lcom/example/cardwarden/cardwarden/wire/ErrorCode;"⟩ : MethodName) (head1 (Jvm.Cond.code (⟨"com/example/cardwarden/cardwarden/wire/ErrorCodeIsSuccessPinLaw", "pick", "(I)Lcom/example/cardwarden/cardwarden/wire/ErrorCode;"⟩ : MethodName) method_2_code 1 (some (.object "com/example/cardwarden/cardwarden/wire/ErrorCode")) :: ws) ({ frames := 0, cells := 0, slots := 0, locals := 0 } : Room)) (fun a U => a = #[(.int (0 : Int32))] ∧ Z.Warmed39 U.vm ∧ U.heap = h0) (fun _ _ _ _ _ => True) (fun _ U o U' => ∃ v L, o = .returned v ∧ Q_pick0 Z ax h0 n0 v U'.heap L ∧ FrameEnd U o U' L ({ frames := 0, cells := 0, slots := 0, locals := 0 } : Room).cells ({ frames := 0, cells := 0, slots := 0, locals := 0 } : Room).slots) := by
  refine MetFree.of_bodySF (plainFor_of_name pn_pick0) hisR ?_
  intro p e s m args below meth c s₁ Bd hml0 hP hK
  obtain ⟨rfl, hZ, hh⟩ := hP
  have hx := Bd.exec
  have hby := Bd.bytes
  have hml : c.maxLocals = 1 := hml0
  have hown : s.vm.findClass "com/example/cardwarden/cardwarden/wire/ErrorCodeIsSuccessPinLaw" = some m.cls := findClass_of_methodNamed Bd.named
  have hnm := (name_of_methodNamed Bd.named Bd.method).1
  have X0 : Stand p l e ({ frames := 0, cells := 0, slots := 0, locals := 0 } : Room) s m #[(.int (0 : Int32))] below meth c s₁ [] 0 0 := Stand.of_body Bd
  have e0 : s₁.heap = h0 := by rw [← hh, Bd.state]; rfl
  have N0 := Fr.nil n0
  refine own_in ?_
  refine own_go (S' := s₁.setTop (mkF m 0 #[.val (.int (0 : Int32))] [])) (fun tgt_ stp_ => castTop (ef_pick0 m  ax) stp_) ?_
  obtain ⟨T_1, X_1, e_1, st_1⟩ := getS2 X0 hx hZ hown (host := "") (Or.inl (hw _ (List.mem_of_getElem? (i := 5) rfl))) Via.refl e0 S1 (g := (mkF m 4 #[.val (.int (0 : Int32))] [])) rfl (hb hby d_pick0_4)
  refine own_go (S' := T_1.setTop (mkF m 7 #[.val (.int (0 : Int32))] [(.ref ax)])) (fun target kt => ?_) ?_
  · show Steps p.tables e below (s₁.setTop (mkF m 0 #[.val (.int (0 : Int32))] [])) target
    refine XS.iloadN X0.here hx rfl (hb hby d_pick0_0) rfl ?_
    show Steps p.tables e below (s₁.setTop (mkF m 1 #[.val (.int (0 : Int32))] [(.int (0 : Int32))])) target
    refine XS.ifNo X0.here hx rfl (hb hby d_pick0_1) rfl ((if0 _ _).trans (teq (by decide : (0 : Int32) = (0 : Int32))).2) ?_
    show Steps p.tables e below (s₁.setTop (mkF m 4 #[.val (.int (0 : Int32))] [])) target
    refine st_1 _ ?_
    show Steps p.tables e below (T_1.setTop (mkF m 7 #[.val (.int (0 : Int32))] [(.ref ax)])) target
    exact kt
  obtain ⟨fs, hr, hrun, hended, hW, hsame⟩ := X_1.leave (v := some (.ref ax)) (fun h => by rw [Bd.returns] at h; cases h)
  refine ⟨_, _, retOut X_1 hx Bd.returns rfl (Or.inr (Or.inr (Or.inr (Or.inr ⟨rfl, rfl, rfl⟩)))) (hb hby d_pick0_7) hr, hrun, hended, _, _, rfl, ?_, ⟨_, rfl⟩, hW, hsame.mono (by decide) (by decide)⟩
  show Q_pick0 Z ax h0 n0 _ T_1.heap _
  rw [e_1]
  exact ⟨rfl, N0, rfl⟩
-- com/example/cardwarden/cardwarden/wire/ErrorCodeIsSuccessPinLaw.pick:(I)Lcom/example/cardwarden/cardwarden/wire/ErrorCode;
theorem d_pick1_0 : decode method_2_code 0 = .ok (.iload_n 0, 1) := by decide +kernel
theorem d_pick1_1 : decode method_2_code 1 = .ok (.ifCond .ne 7, 3) := by decide +kernel
theorem d_pick1_8 : decode method_2_code 8 = .ok (.iload_n 0, 1) := by decide +kernel
theorem d_pick1_9 : decode method_2_code 9 = .ok (.iconst 1, 1) := by decide +kernel
theorem d_pick1_10 : decode method_2_code 10 = .ok (.if_icmp .ne 7, 3) := by decide +kernel
theorem d_pick1_13 : decode method_2_code 13 = .ok (.getstatic 13, 3) := by decide +kernel
theorem d_pick1_16 : decode method_2_code 16 = .ok (.areturn, 1) := by decide +kernel
theorem pn_pick1 : plainName "com/example/cardwarden/cardwarden/wire/ErrorCodeIsSuccessPinLaw" = true := by first | (simp [plainName, overriddenIn]; done) | decide +kernel
theorem ef_pick1 (m : MethodId) (ax : Addr) : entryFrame m #[(.int (1 : Int32))] 1 = mkF m 0 #[.val (.int (1 : Int32))] [] := by first | (simp [entryFrame, mkF, argsToLocals, Value.category]; done) | rfl
def Q_pick1 (Z : State) (ax : Addr) (h0 : Heap) (n0 : Nat) (v : Option Value) (h : Heap) (L : List Loc) : Prop := v = some (.ref ax) ∧ Fr n0 L ∧ h = h0
set_option maxRecDepth 65536 in
set_option maxHeartbeats 40000000 in
theorem rm_pick1 (l : Launch) (Z : State) (a0 : Array Value) (hw : ∀ d ∈ tables_1, d.before a0 Z = true) (ws : List Jvm.Cond) (ax : Addr) (h0 : Heap) (n0 : Nat) (Z0 : n0 ≤ h0.size) (S1 : Sta Z h0 "com/example/cardwarden/cardwarden/wire/ErrorCode" "DUPLICATE_MESSAGE_ID" "Lcom/example/cardwarden/cardwarden/wire/ErrorCode;" (.ref ax)) :
    MetFree l (⟨"com/example/cardwarden/cardwarden/wire/ErrorCodeIsSuccessPinLaw", "pick", "(I)Lcom/example/cardwarden/cardwarden/wire/ErrorCode;"⟩ : MethodName) (head1 (Jvm.Cond.code (⟨"com/example/cardwarden/cardwarden/wire/ErrorCodeIsSuccessPinLaw", "pick", "(I)Lcom/example/cardwarden/cardwarden/wire/ErrorCode;"⟩ : MethodName) method_2_code 1 (some (.object "com/example/cardwarden/cardwarden/wire/ErrorCode")) :: ws) ({ frames := 0, cells := 0, slots := 0, locals := 0 } : Room)) (fun a U => a = #[(.int (1 : Int32))] ∧ Z.Warmed39 U.vm ∧ U.heap = h0) (fun _ _ _ _ _ => True) (fun _ U o U' => ∃ v L, o = .returned v ∧ Q_pick1 Z ax h0 n0 v U'.heap L ∧ FrameEnd U o U' L ({ frames := 0, cells := 0, slots := 0, locals := 0 } : Room).cells ({ frames := 0, cells := 0, slots := 0, locals := 0 } : Room).slots) := by
  refine MetFree.of_bodySF (plainFor_of_name pn_pick1) hisR ?_
  intro p e s m args below meth c s₁ Bd hml0 hP hK
  obtain ⟨rfl, hZ, hh⟩ := hP
  have hx := Bd.exec
  have hby := Bd.bytes
  have hml : c.maxLocals = 1 := hml0
  have hown : s.vm.findClass "com/example/cardwarden/cardwarden/wire/ErrorCodeIsSuccessPinLaw" = some m.cls := findClass_of_methodNamed Bd.named
  have hnm := (name_of_methodNamed Bd.named Bd.method).1
  have X0 : Stand p l e ({ frames := 0, cells := 0, slots := 0, locals := 0 } : Room) s m #[(.int (1 : Int32))] below meth c s₁ [] 0 0 := Stand.of_body Bd
  have e0 : s₁.heap = h0 := by rw [← hh, Bd.state]; rfl
  have N0 := Fr.nil n0
  refine own_in ?_
  refine own_go (S' := s₁.setTop (mkF m 0 #[.val (.int (1 : Int32))] [])) (fun tgt_ stp_ => castTop (ef_pick1 m  ax) stp_) ?_
  obtain ⟨T_1, X_1, e_1, st_1⟩ := getS2 X0 hx hZ hown (host := "") (Or.inl (hw _ (List.mem_of_getElem? (i := 47) rfl))) Via.refl e0 S1 (g := (mkF m 13 #[.val (.int (1 : Int32))] [])) rfl (hb hby d_pick1_13)
  refine own_go (S' := T_1.setTop (mkF m 16 #[.val (.int (1 : Int32))] [(.ref ax)])) (fun target kt => ?_) ?_
  · show Steps p.tables e below (s₁.setTop (mkF m 0 #[.val (.int (1 : Int32))] [])) target
    refine XS.iloadN X0.here hx rfl (hb hby d_pick1_0) rfl ?_
    show Steps p.tables e below (s₁.setTop (mkF m 1 #[.val (.int (1 : Int32))] [(.int (1 : Int32))])) target
    refine XS.ifYes X0.here hx rfl (pc0 := 1) (pc' := 8) rfl (hb hby d_pick1_1) rfl ((if0 _ _).trans (feq (by decide : ¬ ((1 : Int32) = (0 : Int32)))).2) (by decide) (by decide) ?_
    show Steps p.tables e below (s₁.setTop (mkF m 8 #[.val (.int (1 : Int32))] [])) target
    refine XS.iloadN X0.here hx rfl (hb hby d_pick1_8) rfl ?_
    show Steps p.tables e below (s₁.setTop (mkF m 9 #[.val (.int (1 : Int32))] [(.int (1 : Int32))])) target
    refine XS.iconst X0.here hx rfl (hb hby d_pick1_9) ?_
    show Steps p.tables e below (s₁.setTop (mkF m 10 #[.val (.int (1 : Int32))] [(.int (1 : Int32)), (.int (1 : Int32))])) target
    refine XS.icmpNo X0.here hx rfl (hb hby d_pick1_10) rfl (teq (by decide : (1 : Int32) = (1 : Int32))).2 ?_
    show Steps p.tables e below (s₁.setTop (mkF m 13 #[.val (.int (1 : Int32))] [])) target
    refine st_1 _ ?_
    show Steps p.tables e below (T_1.setTop (mkF m 16 #[.val (.int (1 : Int32))] [(.ref ax)])) target
    exact kt
  obtain ⟨fs, hr, hrun, hended, hW, hsame⟩ := X_1.leave (v := some (.ref ax)) (fun h => by rw [Bd.returns] at h; cases h)
  refine ⟨_, _, retOut X_1 hx Bd.returns rfl (Or.inr (Or.inr (Or.inr (Or.inr ⟨rfl, rfl, rfl⟩)))) (hb hby d_pick1_16) hr, hrun, hended, _, _, rfl, ?_, ⟨_, rfl⟩, hW, hsame.mono (by decide) (by decide)⟩
  show Q_pick1 Z ax h0 n0 _ T_1.heap _
  rw [e_1]
  exact ⟨rfl, N0, rfl⟩
-- com/example/cardwarden/cardwarden/wire/ErrorCodeIsSuccessPinLaw.pick:(I)Lcom/example/cardwarden/cardwarden/wire/ErrorCode;
theorem d_pick2_0 : decode method_2_code 0 = .ok (.iload_n 0, 1) := by decide +kernel
theorem d_pick2_1 : decode method_2_code 1 = .ok (.ifCond .ne 7, 3) := by decide +kernel
theorem d_pick2_8 : decode method_2_code 8 = .ok (.iload_n 0, 1) := by decide +kernel
theorem d_pick2_9 : decode method_2_code 9 = .ok (.iconst 1, 1) := by decide +kernel
theorem d_pick2_10 : decode method_2_code 10 = .ok (.if_icmp .ne 7, 3) := by decide +kernel
theorem d_pick2_17 : decode method_2_code 17 = .ok (.iload_n 0, 1) := by decide +kernel
theorem d_pick2_18 : decode method_2_code 18 = .ok (.iconst 2, 1) := by decide +kernel
theorem d_pick2_19 : decode method_2_code 19 = .ok (.if_icmp .ne 7, 3) := by decide +kernel
theorem d_pick2_22 : decode method_2_code 22 = .ok (.getstatic 16, 3) := by decide +kernel
theorem d_pick2_25 : decode method_2_code 25 = .ok (.areturn, 1) := by decide +kernel
theorem pn_pick2 : plainName "com/example/cardwarden/cardwarden/wire/ErrorCodeIsSuccessPinLaw" = true := by first | (simp [plainName, overriddenIn]; done) | decide +kernel
theorem ef_pick2 (m : MethodId) (ax : Addr) : entryFrame m #[(.int (2 : Int32))] 1 = mkF m 0 #[.val (.int (2 : Int32))] [] := by first | (simp [entryFrame, mkF, argsToLocals, Value.category]; done) | rfl
def Q_pick2 (Z : State) (ax : Addr) (h0 : Heap) (n0 : Nat) (v : Option Value) (h : Heap) (L : List Loc) : Prop := v = some (.ref ax) ∧ Fr n0 L ∧ h = h0
set_option maxRecDepth 65536 in
set_option maxHeartbeats 40000000 in
theorem rm_pick2 (l : Launch) (Z : State) (a0 : Array Value) (hw : ∀ d ∈ tables_1, d.before a0 Z = true) (ws : List Jvm.Cond) (ax : Addr) (h0 : Heap) (n0 : Nat) (Z0 : n0 ≤ h0.size) (S1 : Sta Z h0 "com/example/cardwarden/cardwarden/wire/ErrorCode" "INVALID_HEADER_FIELD" "Lcom/example/cardwarden/cardwarden/wire/ErrorCode;" (.ref ax)) :
    MetFree l (⟨"com/example/cardwarden/cardwarden/wire/ErrorCodeIsSuccessPinLaw", "pick", "(I)Lcom/example/cardwarden/cardwarden/wire/ErrorCode;"⟩ : MethodName) (head1 (Jvm.Cond.code (⟨"com/example/cardwarden/cardwarden/wire/ErrorCodeIsSuccessPinLaw", "pick", "(I)Lcom/example/cardwarden/cardwarden/wire/ErrorCode;"⟩ : MethodName) method_2_code 1 (some (.object "com/example/cardwarden/cardwarden/wire/ErrorCode")) :: ws) ({ frames := 0, cells := 0, slots := 0, locals := 0 } : Room)) (fun a U => a = #[(.int (2 : Int32))] ∧ Z.Warmed39 U.vm ∧ U.heap = h0) (fun _ _ _ _ _ => True) (fun _ U o U' => ∃ v L, o = .returned v ∧ Q_pick2 Z ax h0 n0 v U'.heap L ∧ FrameEnd U o U' L ({ frames := 0, cells := 0, slots := 0, locals := 0 } : Room).cells ({ frames := 0, cells := 0, slots := 0, locals := 0 } : Room).slots) := by
  refine MetFree.of_bodySF (plainFor_of_name pn_pick2) hisR ?_
  intro p e s m args below meth c s₁ Bd hml0 hP hK
  obtain ⟨rfl, hZ, hh⟩ := hP
  have hx := Bd.exec
  have hby := Bd.bytes
  have hml : c.maxLocals = 1 := hml0
  have hown : s.vm.findClass "com/example/cardwarden/cardwarden/wire/ErrorCodeIsSuccessPinLaw" = some m.cls := findClass_of_methodNamed Bd.named
  have hnm := (name_of_methodNamed Bd.named Bd.method).1
  have X0 : Stand p l e ({ frames := 0, cells := 0, slots := 0, locals := 0 } : Room) s m #[(.int (2 : Int32))] below meth c s₁ [] 0 0 := Stand.of_body Bd
  have e0 : s₁.heap = h0 := by rw [← hh, Bd.state]; rfl
  have N0 := Fr.nil n0
  refine own_in ?_
  refine own_go (S' := s₁.setTop (mkF m 0 #[.val (.int (2 : Int32))] [])) (fun tgt_ stp_ => castTop (ef_pick2 m  ax) stp_) ?_
  obtain ⟨T_1, X_1, e_1, st_1⟩ := getS2 X0 hx hZ hown (host := "") (Or.inl (hw _ (List.mem_of_getElem? (i := 45) rfl))) Via.refl e0 S1 (g := (mkF m 22 #[.val (.int (2 : Int32))] [])) rfl (hb hby d_pick2_22)
  refine own_go (S' := T_1.setTop (mkF m 25 #[.val (.int (2 : Int32))] [(.ref ax)])) (fun target kt => ?_) ?_
  · show Steps p.tables e below (s₁.setTop (mkF m 0 #[.val (.int (2 : Int32))] [])) target
    refine XS.iloadN X0.here hx rfl (hb hby d_pick2_0) rfl ?_
    show Steps p.tables e below (s₁.setTop (mkF m 1 #[.val (.int (2 : Int32))] [(.int (2 : Int32))])) target
    refine XS.ifYes X0.here hx rfl (pc0 := 1) (pc' := 8) rfl (hb hby d_pick2_1) rfl ((if0 _ _).trans (feq (by decide : ¬ ((2 : Int32) = (0 : Int32)))).2) (by decide) (by decide) ?_
    show Steps p.tables e below (s₁.setTop (mkF m 8 #[.val (.int (2 : Int32))] [])) target
    refine XS.iloadN X0.here hx rfl (hb hby d_pick2_8) rfl ?_
    show Steps p.tables e below (s₁.setTop (mkF m 9 #[.val (.int (2 : Int32))] [(.int (2 : Int32))])) target
    refine XS.iconst X0.here hx rfl (hb hby d_pick2_9) ?_
    show Steps p.tables e below (s₁.setTop (mkF m 10 #[.val (.int (2 : Int32))] [(.int (1 : Int32)), (.int (2 : Int32))])) target
    refine XS.icmpYes X0.here hx rfl (pc0 := 10) (pc' := 17) rfl (hb hby d_pick2_10) rfl (feq (by decide : ¬ ((2 : Int32) = (1 : Int32)))).2 (by decide) (by decide) ?_
    show Steps p.tables e below (s₁.setTop (mkF m 17 #[.val (.int (2 : Int32))] [])) target
    refine XS.iloadN X0.here hx rfl (hb hby d_pick2_17) rfl ?_
    show Steps p.tables e below (s₁.setTop (mkF m 18 #[.val (.int (2 : Int32))] [(.int (2 : Int32))])) target
    refine XS.iconst X0.here hx rfl (hb hby d_pick2_18) ?_
    show Steps p.tables e below (s₁.setTop (mkF m 19 #[.val (.int (2 : Int32))] [(.int (2 : Int32)), (.int (2 : Int32))])) target
    refine XS.icmpNo X0.here hx rfl (hb hby d_pick2_19) rfl (teq (by decide : (2 : Int32) = (2 : Int32))).2 ?_
    show Steps p.tables e below (s₁.setTop (mkF m 22 #[.val (.int (2 : Int32))] [])) target
    refine st_1 _ ?_
    show Steps p.tables e below (T_1.setTop (mkF m 25 #[.val (.int (2 : Int32))] [(.ref ax)])) target
    exact kt
  obtain ⟨fs, hr, hrun, hended, hW, hsame⟩ := X_1.leave (v := some (.ref ax)) (fun h => by rw [Bd.returns] at h; cases h)
  refine ⟨_, _, retOut X_1 hx Bd.returns rfl (Or.inr (Or.inr (Or.inr (Or.inr ⟨rfl, rfl, rfl⟩)))) (hb hby d_pick2_25) hr, hrun, hended, _, _, rfl, ?_, ⟨_, rfl⟩, hW, hsame.mono (by decide) (by decide)⟩
  show Q_pick2 Z ax h0 n0 _ T_1.heap _
  rw [e_1]
  exact ⟨rfl, N0, rfl⟩
-- com/example/cardwarden/cardwarden/wire/ErrorCodeIsSuccessPinLaw.pick:(I)Lcom/example/cardwarden/cardwarden/wire/ErrorCode;
theorem d_pick3_0 : decode method_2_code 0 = .ok (.iload_n 0, 1) := by decide +kernel
theorem d_pick3_1 : decode method_2_code 1 = .ok (.ifCond .ne 7, 3) := by decide +kernel
theorem d_pick3_8 : decode method_2_code 8 = .ok (.iload_n 0, 1) := by decide +kernel
theorem d_pick3_9 : decode method_2_code 9 = .ok (.iconst 1, 1) := by decide +kernel
theorem d_pick3_10 : decode method_2_code 10 = .ok (.if_icmp .ne 7, 3) := by decide +kernel
theorem d_pick3_17 : decode method_2_code 17 = .ok (.iload_n 0, 1) := by decide +kernel
theorem d_pick3_18 : decode method_2_code 18 = .ok (.iconst 2, 1) := by decide +kernel
theorem d_pick3_19 : decode method_2_code 19 = .ok (.if_icmp .ne 7, 3) := by decide +kernel
theorem d_pick3_26 : decode method_2_code 26 = .ok (.iload_n 0, 1) := by decide +kernel
theorem d_pick3_27 : decode method_2_code 27 = .ok (.iconst 3, 1) := by decide +kernel
theorem d_pick3_28 : decode method_2_code 28 = .ok (.if_icmp .ne 7, 3) := by decide +kernel
theorem d_pick3_31 : decode method_2_code 31 = .ok (.getstatic 19, 3) := by decide +kernel
theorem d_pick3_34 : decode method_2_code 34 = .ok (.areturn, 1) := by decide +kernel
theorem pn_pick3 : plainName "com/example/cardwarden/cardwarden/wire/ErrorCodeIsSuccessPinLaw" = true := by first | (simp [plainName, overriddenIn]; done) | decide +kernel
theorem ef_pick3 (m : MethodId) (ax : Addr) : entryFrame m #[(.int (3 : Int32))] 1 = mkF m 0 #[.val (.int (3 : Int32))] [] := by first | (simp [entryFrame, mkF, argsToLocals, Value.category]; done) | rfl
def Q_pick3 (Z : State) (ax : Addr) (h0 : Heap) (n0 : Nat) (v : Option Value) (h : Heap) (L : List Loc) : Prop := v = some (.ref ax) ∧ Fr n0 L ∧ h = h0
set_option maxRecDepth 65536 in
set_option maxHeartbeats 40000000 in
theorem rm_pick3 (l : Launch) (Z : State) (a0 : Array Value) (hw : ∀ d ∈ tables_1, d.before a0 Z = true) (ws : List Jvm.Cond) (ax : Addr) (h0 : Heap) (n0 : Nat) (Z0 : n0 ≤ h0.size) (S1 : Sta Z h0 "com/example/cardwarden/cardwarden/wire/ErrorCode" "INVALID_BODY_FIELD" "Lcom/example/cardwarden/cardwarden/wire/ErrorCode;" (.ref ax)) :
    MetFree l (⟨"com/example/cardwarden/cardwarden/wire/ErrorCodeIsSuccessPinLaw", "pick", "(I)Lcom/example/cardwarden/cardwarden/wire/ErrorCode;"⟩ : MethodName) (head1 (Jvm.Cond.code (⟨"com/example/cardwarden/cardwarden/wire/ErrorCodeIsSuccessPinLaw", "pick", "(I)Lcom/example/cardwarden/cardwarden/wire/ErrorCode;"⟩ : MethodName) method_2_code 1 (some (.object "com/example/cardwarden/cardwarden/wire/ErrorCode")) :: ws) ({ frames := 0, cells := 0, slots := 0, locals := 0 } : Room)) (fun a U => a = #[(.int (3 : Int32))] ∧ Z.Warmed39 U.vm ∧ U.heap = h0) (fun _ _ _ _ _ => True) (fun _ U o U' => ∃ v L, o = .returned v ∧ Q_pick3 Z ax h0 n0 v U'.heap L ∧ FrameEnd U o U' L ({ frames := 0, cells := 0, slots := 0, locals := 0 } : Room).cells ({ frames := 0, cells := 0, slots := 0, locals := 0 } : Room).slots) := by
  refine MetFree.of_bodySF (plainFor_of_name pn_pick3) hisR ?_
  intro p e s m args below meth c s₁ Bd hml0 hP hK
  obtain ⟨rfl, hZ, hh⟩ := hP
  have hx := Bd.exec
  have hby := Bd.bytes
  have hml : c.maxLocals = 1 := hml0
  have hown : s.vm.findClass "com/example/cardwarden/cardwarden/wire/ErrorCodeIsSuccessPinLaw" = some m.cls := findClass_of_methodNamed Bd.named
  have hnm := (name_of_methodNamed Bd.named Bd.method).1
  have X0 : Stand p l e ({ frames := 0, cells := 0, slots := 0, locals := 0 } : Room) s m #[(.int (3 : Int32))] below meth c s₁ [] 0 0 := Stand.of_body Bd
  have e0 : s₁.heap = h0 := by rw [← hh, Bd.state]; rfl
  have N0 := Fr.nil n0
  refine own_in ?_
  refine own_go (S' := s₁.setTop (mkF m 0 #[.val (.int (3 : Int32))] [])) (fun tgt_ stp_ => castTop (ef_pick3 m  ax) stp_) ?_
  obtain ⟨T_1, X_1, e_1, st_1⟩ := getS2 X0 hx hZ hown (host := "") (Or.inl (hw _ (List.mem_of_getElem? (i := 43) rfl))) Via.refl e0 S1 (g := (mkF m 31 #[.val (.int (3 : Int32))] [])) rfl (hb hby d_pick3_31)
  refine own_go (S' := T_1.setTop (mkF m 34 #[.val (.int (3 : Int32))] [(.ref ax)])) (fun target kt => ?_) ?_
  · show Steps p.tables e below (s₁.setTop (mkF m 0 #[.val (.int (3 : Int32))] [])) target
    refine XS.iloadN X0.here hx rfl (hb hby d_pick3_0) rfl ?_
    show Steps p.tables e below (s₁.setTop (mkF m 1 #[.val (.int (3 : Int32))] [(.int (3 : Int32))])) target
    refine XS.ifYes X0.here hx rfl (pc0 := 1) (pc' := 8) rfl (hb hby d_pick3_1) rfl ((if0 _ _).trans (feq (by decide : ¬ ((3 : Int32) = (0 : Int32)))).2) (by decide) (by decide) ?_
    show Steps p.tables e below (s₁.setTop (mkF m 8 #[.val (.int (3 : Int32))] [])) target
    refine XS.iloadN X0.here hx rfl (hb hby d_pick3_8) rfl ?_
    show Steps p.tables e below (s₁.setTop (mkF m 9 #[.val (.int (3 : Int32))] [(.int (3 : Int32))])) target
    refine XS.iconst X0.here hx rfl (hb hby d_pick3_9) ?_
    show Steps p.tables e below (s₁.setTop (mkF m 10 #[.val (.int (3 : Int32))] [(.int (1 : Int32)), (.int (3 : Int32))])) target
    refine XS.icmpYes X0.here hx rfl (pc0 := 10) (pc' := 17) rfl (hb hby d_pick3_10) rfl (feq (by decide : ¬ ((3 : Int32) = (1 : Int32)))).2 (by decide) (by decide) ?_
    show Steps p.tables e below (s₁.setTop (mkF m 17 #[.val (.int (3 : Int32))] [])) target
    refine XS.iloadN X0.here hx rfl (hb hby d_pick3_17) rfl ?_
    show Steps p.tables e below (s₁.setTop (mkF m 18 #[.val (.int (3 : Int32))] [(.int (3 : Int32))])) target
    refine XS.iconst X0.here hx rfl (hb hby d_pick3_18) ?_
    show Steps p.tables e below (s₁.setTop (mkF m 19 #[.val (.int (3 : Int32))] [(.int (2 : Int32)), (.int (3 : Int32))])) target
    refine XS.icmpYes X0.here hx rfl (pc0 := 19) (pc' := 26) rfl (hb hby d_pick3_19) rfl (feq (by decide : ¬ ((3 : Int32) = (2 : Int32)))).2 (by decide) (by decide) ?_
    show Steps p.tables e below (s₁.setTop (mkF m 26 #[.val (.int (3 : Int32))] [])) target
    refine XS.iloadN X0.here hx rfl (hb hby d_pick3_26) rfl ?_
    show Steps p.tables e below (s₁.setTop (mkF m 27 #[.val (.int (3 : Int32))] [(.int (3 : Int32))])) target
    refine XS.iconst X0.here hx rfl (hb hby d_pick3_27) ?_
    show Steps p.tables e below (s₁.setTop (mkF m 28 #[.val (.int (3 : Int32))] [(.int (3 : Int32)), (.int (3 : Int32))])) target
    refine XS.icmpNo X0.here hx rfl (hb hby d_pick3_28) rfl (teq (by decide : (3 : Int32) = (3 : Int32))).2 ?_
    show Steps p.tables e below (s₁.setTop (mkF m 31 #[.val (.int (3 : Int32))] [])) target
    refine st_1 _ ?_
    show Steps p.tables e below (T_1.setTop (mkF m 34 #[.val (.int (3 : Int32))] [(.ref ax)])) target
    exact kt
  obtain ⟨fs, hr, hrun, hended, hW, hsame⟩ := X_1.leave (v := some (.ref ax)) (fun h => by rw [Bd.returns] at h; cases h)
  refine ⟨_, _, retOut X_1 hx Bd.returns rfl (Or.inr (Or.inr (Or.inr (Or.inr ⟨rfl, rfl, rfl⟩)))) (hb hby d_pick3_34) hr, hrun, hended, _, _, rfl, ?_, ⟨_, rfl⟩, hW, hsame.mono (by decide) (by decide)⟩
  show Q_pick3 Z ax h0 n0 _ T_1.heap _
  rw [e_1]
  exact ⟨rfl, N0, rfl⟩
-- com/example/cardwarden/cardwarden/wire/ErrorCodeIsSuccessPinLaw.pick:(I)Lcom/example/cardwarden/cardwarden/wire/ErrorCode;
theorem d_pick4_0 : decode method_2_code 0 = .ok (.iload_n 0, 1) := by decide +kernel
theorem d_pick4_1 : decode method_2_code 1 = .ok (.ifCond .ne 7, 3) := by decide +kernel
theorem d_pick4_8 : decode method_2_code 8 = .ok (.iload_n 0, 1) := by decide +kernel
theorem d_pick4_9 : decode method_2_code 9 = .ok (.iconst 1, 1) := by decide +kernel
theorem d_pick4_10 : decode method_2_code 10 = .ok (.if_icmp .ne 7, 3) := by decide +kernel
theorem d_pick4_17 : decode method_2_code 17 = .ok (.iload_n 0, 1) := by decide +kernel
theorem d_pick4_18 : decode method_2_code 18 = .ok (.iconst 2, 1) := by decide +kernel
theorem d_pick4_19 : decode method_2_code 19 = .ok (.if_icmp .ne 7, 3) := by decide +kernel
theorem d_pick4_26 : decode method_2_code 26 = .ok (.iload_n 0, 1) := by decide +kernel
theorem d_pick4_27 : decode method_2_code 27 = .ok (.iconst 3, 1) := by decide +kernel
theorem d_pick4_28 : decode method_2_code 28 = .ok (.if_icmp .ne 7, 3) := by decide +kernel
theorem d_pick4_35 : decode method_2_code 35 = .ok (.iload_n 0, 1) := by decide +kernel
theorem d_pick4_36 : decode method_2_code 36 = .ok (.iconst 4, 1) := by decide +kernel
theorem d_pick4_37 : decode method_2_code 37 = .ok (.if_icmp .ne 7, 3) := by decide +kernel
theorem d_pick4_40 : decode method_2_code 40 = .ok (.getstatic 22, 3) := by decide +kernel
theorem d_pick4_43 : decode method_2_code 43 = .ok (.areturn, 1) := by decide +kernel
theorem pn_pick4 : plainName "com/example/cardwarden/cardwarden/wire/ErrorCodeIsSuccessPinLaw" = true := by first | (simp [plainName, overriddenIn]; done) | decide +kernel
theorem ef_pick4 (m : MethodId) (ax : Addr) : entryFrame m #[(.int (4 : Int32))] 1 = mkF m 0 #[.val (.int (4 : Int32))] [] := by first | (simp [entryFrame, mkF, argsToLocals, Value.category]; done) | rfl
def Q_pick4 (Z : State) (ax : Addr) (h0 : Heap) (n0 : Nat) (v : Option Value) (h : Heap) (L : List Loc) : Prop := v = some (.ref ax) ∧ Fr n0 L ∧ h = h0
set_option maxRecDepth 65536 in
set_option maxHeartbeats 40000000 in
theorem rm_pick4 (l : Launch) (Z : State) (a0 : Array Value) (hw : ∀ d ∈ tables_1, d.before a0 Z = true) (ws : List Jvm.Cond) (ax : Addr) (h0 : Heap) (n0 : Nat) (Z0 : n0 ≤ h0.size) (S1 : Sta Z h0 "com/example/cardwarden/cardwarden/wire/ErrorCode" "MALFORMED_REQUEST" "Lcom/example/cardwarden/cardwarden/wire/ErrorCode;" (.ref ax)) :
    MetFree l (⟨"com/example/cardwarden/cardwarden/wire/ErrorCodeIsSuccessPinLaw", "pick", "(I)Lcom/example/cardwarden/cardwarden/wire/ErrorCode;"⟩ : MethodName) (head1 (Jvm.Cond.code (⟨"com/example/cardwarden/cardwarden/wire/ErrorCodeIsSuccessPinLaw", "pick", "(I)Lcom/example/cardwarden/cardwarden/wire/ErrorCode;"⟩ : MethodName) method_2_code 1 (some (.object "com/example/cardwarden/cardwarden/wire/ErrorCode")) :: ws) ({ frames := 0, cells := 0, slots := 0, locals := 0 } : Room)) (fun a U => a = #[(.int (4 : Int32))] ∧ Z.Warmed39 U.vm ∧ U.heap = h0) (fun _ _ _ _ _ => True) (fun _ U o U' => ∃ v L, o = .returned v ∧ Q_pick4 Z ax h0 n0 v U'.heap L ∧ FrameEnd U o U' L ({ frames := 0, cells := 0, slots := 0, locals := 0 } : Room).cells ({ frames := 0, cells := 0, slots := 0, locals := 0 } : Room).slots) := by
  refine MetFree.of_bodySF (plainFor_of_name pn_pick4) hisR ?_
  intro p e s m args below meth c s₁ Bd hml0 hP hK
  obtain ⟨rfl, hZ, hh⟩ := hP
  have hx := Bd.exec
  have hby := Bd.bytes
  have hml : c.maxLocals = 1 := hml0
  have hown : s.vm.findClass "com/example/cardwarden/cardwarden/wire/ErrorCodeIsSuccessPinLaw" = some m.cls := findClass_of_methodNamed Bd.named
  have hnm := (name_of_methodNamed Bd.named Bd.method).1
  have X0 : Stand p l e ({ frames := 0, cells := 0, slots := 0, locals := 0 } : Room) s m #[(.int (4 : Int32))] below meth c s₁ [] 0 0 := Stand.of_body Bd
  have e0 : s₁.heap = h0 := by rw [← hh, Bd.state]; rfl
  have N0 := Fr.nil n0
  refine own_in ?_
  refine own_go (S' := s₁.setTop (mkF m 0 #[.val (.int (4 : Int32))] [])) (fun tgt_ stp_ => castTop (ef_pick4 m  ax) stp_) ?_
  obtain ⟨T_1, X_1, e_1, st_1⟩ := getS2 X0 hx hZ hown (host := "") (Or.inl (hw _ (List.mem_of_getElem? (i := 51) rfl))) Via.refl e0 S1 (g := (mkF m 40 #[.val (.int (4 : Int32))] [])) rfl (hb hby d_pick4_40)
  refine own_go (S' := T_1.setTop (mkF m 43 #[.val (.int (4 : Int32))] [(.ref ax)])) (fun target kt => ?_) ?_
  · show Steps p.tables e below (s₁.setTop (mkF m 0 #[.val (.int (4 : Int32))] [])) target
    refine XS.iloadN X0.here hx rfl (hb hby d_pick4_0) rfl ?_
    show Steps p.tables e below (s₁.setTop (mkF m 1 #[.val (.int (4 : Int32))] [(.int (4 : Int32))])) target
    refine XS.ifYes X0.here hx rfl (pc0 := 1) (pc' := 8) rfl (hb hby d_pick4_1) rfl ((if0 _ _).trans (feq (by decide : ¬ ((4 : Int32) = (0 : Int32)))).2) (by decide) (by decide) ?_
    show Steps p.tables e below (s₁.setTop (mkF m 8 #[.val (.int (4 : Int32))] [])) target
    refine XS.iloadN X0.here hx rfl (hb hby d_pick4_8) rfl ?_
    show Steps p.tables e below (s₁.setTop (mkF m 9 #[.val (.int (4 : Int32))] [(.int (4 : Int32))])) target
    refine XS.iconst X0.here hx rfl (hb hby d_pick4_9) ?_
    show Steps p.tables e below (s₁.setTop (mkF m 10 #[.val (.int (4 : Int32))] [(.int (1 : Int32)), (.int (4 : Int32))])) target
    refine XS.icmpYes X0.here hx rfl (pc0 := 10) (pc' := 17) rfl (hb hby d_pick4_10) rfl (feq (by decide : ¬ ((4 : Int32) = (1 : Int32)))).2 (by decide) (by decide) ?_
    show Steps p.tables e below (s₁.setTop (mkF m 17 #[.val (.int (4 : Int32))] [])) target
    refine XS.iloadN X0.here hx rfl (hb hby d_pick4_17) rfl ?_
    show Steps p.tables e below (s₁.setTop (mkF m 18 #[.val (.int (4 : Int32))] [(.int (4 : Int32))])) target
    refine XS.iconst X0.here hx rfl (hb hby d_pick4_18) ?_
    show Steps p.tables e below (s₁.setTop (mkF m 19 #[.val (.int (4 : Int32))] [(.int (2 : Int32)), (.int (4 : Int32))])) target
    refine XS.icmpYes X0.here hx rfl (pc0 := 19) (pc' := 26) rfl (hb hby d_pick4_19) rfl (feq (by decide : ¬ ((4 : Int32) = (2 : Int32)))).2 (by decide) (by decide) ?_
    show Steps p.tables e below (s₁.setTop (mkF m 26 #[.val (.int (4 : Int32))] [])) target
    refine XS.iloadN X0.here hx rfl (hb hby d_pick4_26) rfl ?_
    show Steps p.tables e below (s₁.setTop (mkF m 27 #[.val (.int (4 : Int32))] [(.int (4 : Int32))])) target
    refine XS.iconst X0.here hx rfl (hb hby d_pick4_27) ?_
    show Steps p.tables e below (s₁.setTop (mkF m 28 #[.val (.int (4 : Int32))] [(.int (3 : Int32)), (.int (4 : Int32))])) target
    refine XS.icmpYes X0.here hx rfl (pc0 := 28) (pc' := 35) rfl (hb hby d_pick4_28) rfl (feq (by decide : ¬ ((4 : Int32) = (3 : Int32)))).2 (by decide) (by decide) ?_
    show Steps p.tables e below (s₁.setTop (mkF m 35 #[.val (.int (4 : Int32))] [])) target
    refine XS.iloadN X0.here hx rfl (hb hby d_pick4_35) rfl ?_
    show Steps p.tables e below (s₁.setTop (mkF m 36 #[.val (.int (4 : Int32))] [(.int (4 : Int32))])) target
    refine XS.iconst X0.here hx rfl (hb hby d_pick4_36) ?_
    show Steps p.tables e below (s₁.setTop (mkF m 37 #[.val (.int (4 : Int32))] [(.int (4 : Int32)), (.int (4 : Int32))])) target
    refine XS.icmpNo X0.here hx rfl (hb hby d_pick4_37) rfl (teq (by decide : (4 : Int32) = (4 : Int32))).2 ?_
    show Steps p.tables e below (s₁.setTop (mkF m 40 #[.val (.int (4 : Int32))] [])) target
    refine st_1 _ ?_
    show Steps p.tables e below (T_1.setTop (mkF m 43 #[.val (.int (4 : Int32))] [(.ref ax)])) target
    exact kt
  obtain ⟨fs, hr, hrun, hended, hW, hsame⟩ := X_1.leave (v := some (.ref ax)) (fun h => by rw [Bd.returns] at h; cases h)
  refine ⟨_, _, retOut X_1 hx Bd.returns rfl (Or.inr (Or.inr (Or.inr (Or.inr ⟨rfl, rfl, rfl⟩)))) (hb hby d_pick4_43) hr, hrun, hended, _, _, rfl, ?_, ⟨_, rfl⟩, hW, hsame.mono (by decide) (by decide)⟩
  show Q_pick4 Z ax h0 n0 _ T_1.heap _
  rw [e_1]
  exact ⟨rfl, N0, rfl⟩
-- com/example/cardwarden/cardwarden/wire/ErrorCodeIsSuccessPinLaw.pick:(I)Lcom/example/cardwarden/cardwarden/wire/ErrorCode;
theorem d_pick5_0 : decode method_2_code 0 = .ok (.iload_n 0, 1) := by decide +kernel
theorem d_pick5_1 : decode method_2_code 1 = .ok (.ifCond .ne 7, 3) := by decide +kernel
theorem d_pick5_8 : decode method_2_code 8 = .ok (.iload_n 0, 1) := by decide +kernel
theorem d_pick5_9 : decode method_2_code 9 = .ok (.iconst 1, 1) := by decide +kernel
theorem d_pick5_10 : decode method_2_code 10 = .ok (.if_icmp .ne 7, 3) := by decide +kernel
theorem d_pick5_17 : decode method_2_code 17 = .ok (.iload_n 0, 1) := by decide +kernel
theorem d_pick5_18 : decode method_2_code 18 = .ok (.iconst 2, 1) := by decide +kernel
theorem d_pick5_19 : decode method_2_code 19 = .ok (.if_icmp .ne 7, 3) := by decide +kernel
theorem d_pick5_26 : decode method_2_code 26 = .ok (.iload_n 0, 1) := by decide +kernel
theorem d_pick5_27 : decode method_2_code 27 = .ok (.iconst 3, 1) := by decide +kernel
theorem d_pick5_28 : decode method_2_code 28 = .ok (.if_icmp .ne 7, 3) := by decide +kernel
theorem d_pick5_35 : decode method_2_code 35 = .ok (.iload_n 0, 1) := by decide +kernel
theorem d_pick5_36 : decode method_2_code 36 = .ok (.iconst 4, 1) := by decide +kernel
theorem d_pick5_37 : decode method_2_code 37 = .ok (.if_icmp .ne 7, 3) := by decide +kernel
theorem d_pick5_44 : decode method_2_code 44 = .ok (.getstatic 25, 3) := by decide +kernel
theorem d_pick5_47 : decode method_2_code 47 = .ok (.areturn, 1) := by decide +kernel
theorem pn_pick5 : plainName "com/example/cardwarden/cardwarden/wire/ErrorCodeIsSuccessPinLaw" = true := by first | (simp [plainName, overriddenIn]; done) | decide +kernel
theorem ef_pick5 (m : MethodId) (ax : Addr) : entryFrame m #[(.int (5 : Int32))] 1 = mkF m 0 #[.val (.int (5 : Int32))] [] := by first | (simp [entryFrame, mkF, argsToLocals, Value.category]; done) | rfl
def Q_pick5 (Z : State) (ax : Addr) (h0 : Heap) (n0 : Nat) (v : Option Value) (h : Heap) (L : List Loc) : Prop := v = some (.ref ax) ∧ Fr n0 L ∧ h = h0
set_option maxRecDepth 65536 in
set_option maxHeartbeats 40000000 in
theorem rm_pick5 (l : Launch) (Z : State) (a0 : Array Value) (hw : ∀ d ∈ tables_1, d.before a0 Z = true) (ws : List Jvm.Cond) (ax : Addr) (h0 : Heap) (n0 : Nat) (Z0 : n0 ≤ h0.size) (S1 : Sta Z h0 "com/example/cardwarden/cardwarden/wire/ErrorCode" "WRONG_MESSAGE_FUNCTION" "Lcom/example/cardwarden/cardwarden/wire/ErrorCode;" (.ref ax)) :
    MetFree l (⟨"com/example/cardwarden/cardwarden/wire/ErrorCodeIsSuccessPinLaw", "pick", "(I)Lcom/example/cardwarden/cardwarden/wire/ErrorCode;"⟩ : MethodName) (head1 (Jvm.Cond.code (⟨"com/example/cardwarden/cardwarden/wire/ErrorCodeIsSuccessPinLaw", "pick", "(I)Lcom/example/cardwarden/cardwarden/wire/ErrorCode;"⟩ : MethodName) method_2_code 1 (some (.object "com/example/cardwarden/cardwarden/wire/ErrorCode")) :: ws) ({ frames := 0, cells := 0, slots := 0, locals := 0 } : Room)) (fun a U => a = #[(.int (5 : Int32))] ∧ Z.Warmed39 U.vm ∧ U.heap = h0) (fun _ _ _ _ _ => True) (fun _ U o U' => ∃ v L, o = .returned v ∧ Q_pick5 Z ax h0 n0 v U'.heap L ∧ FrameEnd U o U' L ({ frames := 0, cells := 0, slots := 0, locals := 0 } : Room).cells ({ frames := 0, cells := 0, slots := 0, locals := 0 } : Room).slots) := by
  refine MetFree.of_bodySF (plainFor_of_name pn_pick5) hisR ?_
  intro p e s m args below meth c s₁ Bd hml0 hP hK
  obtain ⟨rfl, hZ, hh⟩ := hP
  have hx := Bd.exec
  have hby := Bd.bytes
  have hml : c.maxLocals = 1 := hml0
  have hown : s.vm.findClass "com/example/cardwarden/cardwarden/wire/ErrorCodeIsSuccessPinLaw" = some m.cls := findClass_of_methodNamed Bd.named
  have hnm := (name_of_methodNamed Bd.named Bd.method).1
  have X0 : Stand p l e ({ frames := 0, cells := 0, slots := 0, locals := 0 } : Room) s m #[(.int (5 : Int32))] below meth c s₁ [] 0 0 := Stand.of_body Bd
  have e0 : s₁.heap = h0 := by rw [← hh, Bd.state]; rfl
  have N0 := Fr.nil n0
  refine own_in ?_
  refine own_go (S' := s₁.setTop (mkF m 0 #[.val (.int (5 : Int32))] [])) (fun tgt_ stp_ => castTop (ef_pick5 m  ax) stp_) ?_
  obtain ⟨T_1, X_1, e_1, st_1⟩ := getS2 X0 hx hZ hown (host := "") (Or.inl (hw _ (List.mem_of_getElem? (i := 49) rfl))) Via.refl e0 S1 (g := (mkF m 44 #[.val (.int (5 : Int32))] [])) rfl (hb hby d_pick5_44)
  refine own_go (S' := T_1.setTop (mkF m 47 #[.val (.int (5 : Int32))] [(.ref ax)])) (fun target kt => ?_) ?_
  · show Steps p.tables e below (s₁.setTop (mkF m 0 #[.val (.int (5 : Int32))] [])) target
    refine XS.iloadN X0.here hx rfl (hb hby d_pick5_0) rfl ?_
    show Steps p.tables e below (s₁.setTop (mkF m 1 #[.val (.int (5 : Int32))] [(.int (5 : Int32))])) target
    refine XS.ifYes X0.here hx rfl (pc0 := 1) (pc' := 8) rfl (hb hby d_pick5_1) rfl ((if0 _ _).trans (feq (by decide : ¬ ((5 : Int32) = (0 : Int32)))).2) (by decide) (by decide) ?_
    show Steps p.tables e below (s₁.setTop (mkF m 8 #[.val (.int (5 : Int32))] [])) target
    refine XS.iloadN X0.here hx rfl (hb hby d_pick5_8) rfl ?_
    show Steps p.tables e below (s₁.setTop (mkF m 9 #[.val (.int (5 : Int32))] [(.int (5 : Int32))])) target
    refine XS.iconst X0.here hx rfl (hb hby d_pick5_9) ?_
    show Steps p.tables e below (s₁.setTop (mkF m 10 #[.val (.int (5 : Int32))] [(.int (1 : Int32)), (.int (5 : Int32))])) target
    refine XS.icmpYes X0.here hx rfl (pc0 := 10) (pc' := 17) rfl (hb hby d_pick5_10) rfl (feq (by decide : ¬ ((5 : Int32) = (1 : Int32)))).2 (by decide) (by decide) ?_
    show Steps p.tables e below (s₁.setTop (mkF m 17 #[.val (.int (5 : Int32))] [])) target
    refine XS.iloadN X0.here hx rfl (hb hby d_pick5_17) rfl ?_
    show Steps p.tables e below (s₁.setTop (mkF m 18 #[.val (.int (5 : Int32))] [(.int (5 : Int32))])) target
    refine XS.iconst X0.here hx rfl (hb hby d_pick5_18) ?_
    show Steps p.tables e below (s₁.setTop (mkF m 19 #[.val (.int (5 : Int32))] [(.int (2 : Int32)), (.int (5 : Int32))])) target
    refine XS.icmpYes X0.here hx rfl (pc0 := 19) (pc' := 26) rfl (hb hby d_pick5_19) rfl (feq (by decide : ¬ ((5 : Int32) = (2 : Int32)))).2 (by decide) (by decide) ?_
    show Steps p.tables e below (s₁.setTop (mkF m 26 #[.val (.int (5 : Int32))] [])) target
    refine XS.iloadN X0.here hx rfl (hb hby d_pick5_26) rfl ?_
    show Steps p.tables e below (s₁.setTop (mkF m 27 #[.val (.int (5 : Int32))] [(.int (5 : Int32))])) target
    refine XS.iconst X0.here hx rfl (hb hby d_pick5_27) ?_
    show Steps p.tables e below (s₁.setTop (mkF m 28 #[.val (.int (5 : Int32))] [(.int (3 : Int32)), (.int (5 : Int32))])) target
    refine XS.icmpYes X0.here hx rfl (pc0 := 28) (pc' := 35) rfl (hb hby d_pick5_28) rfl (feq (by decide : ¬ ((5 : Int32) = (3 : Int32)))).2 (by decide) (by decide) ?_
    show Steps p.tables e below (s₁.setTop (mkF m 35 #[.val (.int (5 : Int32))] [])) target
    refine XS.iloadN X0.here hx rfl (hb hby d_pick5_35) rfl ?_
    show Steps p.tables e below (s₁.setTop (mkF m 36 #[.val (.int (5 : Int32))] [(.int (5 : Int32))])) target
    refine XS.iconst X0.here hx rfl (hb hby d_pick5_36) ?_
    show Steps p.tables e below (s₁.setTop (mkF m 37 #[.val (.int (5 : Int32))] [(.int (4 : Int32)), (.int (5 : Int32))])) target
    refine XS.icmpYes X0.here hx rfl (pc0 := 37) (pc' := 44) rfl (hb hby d_pick5_37) rfl (feq (by decide : ¬ ((5 : Int32) = (4 : Int32)))).2 (by decide) (by decide) ?_
    show Steps p.tables e below (s₁.setTop (mkF m 44 #[.val (.int (5 : Int32))] [])) target
    refine st_1 _ ?_
    show Steps p.tables e below (T_1.setTop (mkF m 47 #[.val (.int (5 : Int32))] [(.ref ax)])) target
    exact kt
  obtain ⟨fs, hr, hrun, hended, hW, hsame⟩ := X_1.leave (v := some (.ref ax)) (fun h => by rw [Bd.returns] at h; cases h)
  refine ⟨_, _, retOut X_1 hx Bd.returns rfl (Or.inr (Or.inr (Or.inr (Or.inr ⟨rfl, rfl, rfl⟩)))) (hb hby d_pick5_47) hr, hrun, hended, _, _, rfl, ?_, ⟨_, rfl⟩, hW, hsame.mono (by decide) (by decide)⟩
  show Q_pick5 Z ax h0 n0 _ T_1.heap _
  rw [e_1]
  exact ⟨rfl, N0, rfl⟩
-- com/example/cardwarden/cardwarden/wire/ErrorCode.isSuccess:()Z
theorem d_is1_0 : decode prog_64_method_6_code 0 = .ok (.aload_n 0, 1) := by decide +kernel
theorem d_is1_1 : decode prog_64_method_6_code 1 = .ok (.getstatic 3, 3) := by decide +kernel
theorem d_is1_4 : decode prog_64_method_6_code 4 = .ok (.if_acmp .ne 7, 3) := by decide +kernel
theorem d_is1_7 : decode prog_64_method_6_code 7 = .ok (.iconst 1, 1) := by decide +kernel
theorem d_is1_8 : decode prog_64_method_6_code 8 = .ok (.goto 4, 3) := by decide +kernel
theorem d_is1_12 : decode prog_64_method_6_code 12 = .ok (.ireturn, 1) := by decide +kernel
theorem pn_is1 : plainName "com/example/cardwarden/cardwarden/wire/ErrorCode" = true := by first | (simp [plainName, overriddenIn]; done) | decide +kernel
theorem ef_is1 (m : MethodId) (a1 : Addr) : entryFrame m #[(.ref a1)] 1 = mkF m 0 #[.val (.ref a1)] [] := by first | (simp [entryFrame, mkF, argsToLocals, Value.category]; done) | rfl
def Q_is1 (Z : State) (a1 : Addr) (h0 : Heap) (n0 : Nat) (v : Option Value) (h : Heap) (L : List Loc) : Prop := v = some (.int (1 : Int32)) ∧ Fr n0 L ∧ h = h0
set_option maxRecDepth 65536 in
set_option maxHeartbeats 40000000 in
theorem rm_is1 (l : Launch) (Z : State) (a0 : Array Value) (hw : ∀ d ∈ tables_1, d.before a0 Z = true) (ws : List Jvm.Cond) (a1 : Addr) (h0 : Heap) (n0 : Nat) (Z0 : n0 ≤ h0.size) (S1 : Sta Z h0 "com/example/cardwarden/cardwarden/wire/ErrorCode" "SUCCESS" "Lcom/example/cardwarden/cardwarden/wire/ErrorCode;" (.ref a1)) :
    MetFree l (⟨"com/example/cardwarden/cardwarden/wire/ErrorCode", "isSuccess", "()Z"⟩ : MethodName) (head1 (Jvm.Cond.code (⟨"com/example/cardwarden/cardwarden/wire/ErrorCode", "isSuccess", "()Z"⟩ : MethodName) prog_64_method_6_code 1 (some .boolean) :: ws) ({ frames := 0, cells := 0, slots := 0, locals := 0 } : Room)) (fun a U => a = #[(.ref a1)] ∧ Z.Warmed39 U.vm ∧ U.heap = h0) (fun _ _ _ _ _ => True) (fun _ U o U' => ∃ v L, o = .returned v ∧ Q_is1 Z a1 h0 n0 v U'.heap L ∧ FrameEnd U o U' L ({ frames := 0, cells := 0, slots := 0, locals := 0 } : Room).cells ({ frames := 0, cells := 0, slots := 0, locals := 0 } : Room).slots) := by
  refine MetFree.of_bodySF (plainFor_of_name pn_is1) hisR ?_
  intro p e s m args below meth c s₁ Bd hml0 hP hK
  obtain ⟨rfl, hZ, hh⟩ := hP
  have hx := Bd.exec
  have hby := Bd.bytes
  have hml : c.maxLocals = 1 := hml0
  have hown : s.vm.findClass "com/example/cardwarden/cardwarden/wire/ErrorCode" = some m.cls := findClass_of_methodNamed Bd.named
  have hnm := (name_of_methodNamed Bd.named Bd.method).1
  have X0 : Stand p l e ({ frames := 0, cells := 0, slots := 0, locals := 0 } : Room) s m #[(.ref a1)] below meth c s₁ [] 0 0 := Stand.of_body Bd
  have e0 : s₁.heap = h0 := by rw [← hh, Bd.state]; rfl
  have N0 := Fr.nil n0
  refine own_in ?_
  refine own_go (S' := s₁.setTop (mkF m 0 #[.val (.ref a1)] [])) (fun tgt_ stp_ => castTop (ef_is1 m a1) stp_) ?_
  obtain ⟨T_1, X_1, e_1, st_1⟩ := getS2 X0 hx hZ hown (host := "") (Or.inl (hw _ (List.mem_of_getElem? (i := 13) rfl))) Via.refl e0 S1 (g := (mkF m 1 #[.val (.ref a1)] [(.ref a1)])) rfl (hb hby d_is1_1)
  refine own_go (S' := T_1.setTop (mkF m 12 #[.val (.ref a1)] [(.int (1 : Int32))])) (fun target kt => ?_) ?_
  · show Steps p.tables e below (s₁.setTop (mkF m 0 #[.val (.ref a1)] [])) target
    refine XS.aloadN X0.here hx rfl (hb hby d_is1_0) rfl rfl ?_
    show Steps p.tables e below (s₁.setTop (mkF m 1 #[.val (.ref a1)] [(.ref a1)])) target
    refine st_1 _ ?_
    show Steps p.tables e below (T_1.setTop (mkF m 4 #[.val (.ref a1)] [(.ref a1), (.ref a1)])) target
    refine Jvm.RoadKit.acmp (g := (mkF m 4 #[.val (.ref a1)] [(.ref a1), (.ref a1)])) X_1 hx rfl rfl rfl (pc0 := 4) (pc' := 7) (same := true) rfl (hb hby d_is1_4) rfl (decide_eq_true rfl) (by decide) (by decide) ?_
    show Steps p.tables e below (T_1.setTop (mkF m 7 #[.val (.ref a1)] [])) target
    refine XS.iconst X_1.here hx rfl (hb hby d_is1_7) ?_
    show Steps p.tables e below (T_1.setTop (mkF m 8 #[.val (.ref a1)] [(.int (1 : Int32))])) target
    refine XS.goto X_1.here hx rfl (pc0 := 8) (pc' := 12) rfl (hb hby d_is1_8) (by decide) (by decide) ?_
    show Steps p.tables e below (T_1.setTop (mkF m 12 #[.val (.ref a1)] [(.int (1 : Int32))])) target
    exact kt
  obtain ⟨fs, hr, hrun, hended, hW, hsame⟩ := X_1.leave (v := some (.int (1 : Int32))) (fun h => by rw [Bd.returns] at h; cases h)
  refine ⟨_, _, retN X_1 hx (t := .boolean) Bd.returns (by simp) (hb hby d_is1_12) hr, hrun, hended, _, _, rfl, ?_, ⟨_, rfl⟩, hW, hsame.mono (by decide) (by decide)⟩
  show Q_is1 Z a1 h0 n0 _ T_1.heap _
  rw [e_1]
  exact ⟨rfl, N0, rfl⟩
-- com/example/cardwarden/cardwarden/wire/ErrorCode.isSuccess:()Z
theorem d_is0_0 : decode prog_64_method_6_code 0 = .ok (.aload_n 0, 1) := by decide +kernel
theorem d_is0_1 : decode prog_64_method_6_code 1 = .ok (.getstatic 3, 3) := by decide +kernel
theorem d_is0_4 : decode prog_64_method_6_code 4 = .ok (.if_acmp .ne 7, 3) := by decide +kernel
theorem d_is0_11 : decode prog_64_method_6_code 11 = .ok (.iconst 0, 1) := by decide +kernel
theorem d_is0_12 : decode prog_64_method_6_code 12 = .ok (.ireturn, 1) := by decide +kernel
theorem pn_is0 : plainName "com/example/cardwarden/cardwarden/wire/ErrorCode" = true := by first | (simp [plainName, overriddenIn]; done) | decide +kernel
theorem ef_is0 (m : MethodId) (a1 : Addr) : entryFrame m #[(.ref a1)] 1 = mkF m 0 #[.val (.ref a1)] [] := by first | (simp [entryFrame, mkF, argsToLocals, Value.category]; done) | rfl
def Q_is0 (Z : State) (a1 : Addr) (sx : Addr) (h0 : Heap) (n0 : Nat) (v : Option Value) (h : Heap) (L : List Loc) : Prop := v = some (.int (0 : Int32)) ∧ Fr n0 L ∧ h = h0
set_option maxRecDepth 65536 in
set_option maxHeartbeats 40000000 in
theorem rm_is0 (l : Launch) (Z : State) (a0 : Array Value) (hw : ∀ d ∈ tables_1, d.before a0 Z = true) (ws : List Jvm.Cond) (a1 : Addr) (sx : Addr) (h0 : Heap) (n0 : Nat) (Z0 : n0 ≤ h0.size) (S1 : Sta Z h0 "com/example/cardwarden/cardwarden/wire/ErrorCode" "SUCCESS" "Lcom/example/cardwarden/cardwarden/wire/ErrorCode;" (.ref sx)) (n1 : a1 ≠ sx) :
    MetFree l (⟨"com/example/cardwarden/cardwarden/wire/ErrorCode", "isSuccess", "()Z"⟩ : MethodName) (head1 (Jvm.Cond.code (⟨"com/example/cardwarden/cardwarden/wire/ErrorCode", "isSuccess", "()Z"⟩ : MethodName) prog_64_method_6_code 1 (some .boolean) :: ws) ({ frames := 0, cells := 0, slots := 0, locals := 0 } : Room)) (fun a U => a = #[(.ref a1)] ∧ Z.Warmed39 U.vm ∧ U.heap = h0) (fun _ _ _ _ _ => True) (fun _ U o U' => ∃ v L, o = .returned v ∧ Q_is0 Z a1 sx h0 n0 v U'.heap L ∧ FrameEnd U o U' L ({ frames := 0, cells := 0, slots := 0, locals := 0 } : Room).cells ({ frames := 0, cells := 0, slots := 0, locals := 0 } : Room).slots) := by
  refine MetFree.of_bodySF (plainFor_of_name pn_is0) hisR ?_
  intro p e s m args below meth c s₁ Bd hml0 hP hK
  obtain ⟨rfl, hZ, hh⟩ := hP
  have hx := Bd.exec
  have hby := Bd.bytes
  have hml : c.maxLocals = 1 := hml0
  have hown : s.vm.findClass "com/example/cardwarden/cardwarden/wire/ErrorCode" = some m.cls := findClass_of_methodNamed Bd.named
  have hnm := (name_of_methodNamed Bd.named Bd.method).1
  have X0 : Stand p l e ({ frames := 0, cells := 0, slots := 0, locals := 0 } : Room) s m #[(.ref a1)] below meth c s₁ [] 0 0 := Stand.of_body Bd
  have e0 : s₁.heap = h0 := by rw [← hh, Bd.state]; rfl
  have N0 := Fr.nil n0
  refine own_in ?_
  refine own_go (S' := s₁.setTop (mkF m 0 #[.val (.ref a1)] [])) (fun tgt_ stp_ => castTop (ef_is0 m a1) stp_) ?_
  obtain ⟨T_1, X_1, e_1, st_1⟩ := getS2 X0 hx hZ hown (host := "") (Or.inl (hw _ (List.mem_of_getElem? (i := 13) rfl))) Via.refl e0 S1 (g := (mkF m 1 #[.val (.ref a1)] [(.ref a1)])) rfl (hb hby d_is0_1)
  refine own_go (S' := T_1.setTop (mkF m 12 #[.val (.ref a1)] [(.int (0 : Int32))])) (fun target kt => ?_) ?_
  · show Steps p.tables e below (s₁.setTop (mkF m 0 #[.val (.ref a1)] [])) target
    refine XS.aloadN X0.here hx rfl (hb hby d_is0_0) rfl rfl ?_
    show Steps p.tables e below (s₁.setTop (mkF m 1 #[.val (.ref a1)] [(.ref a1)])) target
    refine st_1 _ ?_
    show Steps p.tables e below (T_1.setTop (mkF m 4 #[.val (.ref a1)] [(.ref sx), (.ref a1)])) target
    refine Jvm.RoadKit.acmp (g := (mkF m 4 #[.val (.ref a1)] [(.ref sx), (.ref a1)])) X_1 hx rfl rfl rfl (pc0 := 4) (pc' := 11) (same := false) rfl (hb hby d_is0_4) rfl (decide_eq_false fun q => n1 (Value.ref.inj q)) (by decide) (by decide) ?_
    show Steps p.tables e below (T_1.setTop (mkF m 11 #[.val (.ref a1)] [])) target
    refine XS.iconst X_1.here hx rfl (hb hby d_is0_11) ?_
    show Steps p.tables e below (T_1.setTop (mkF m 12 #[.val (.ref a1)] [(.int (0 : Int32))])) target
    exact kt
  obtain ⟨fs, hr, hrun, hended, hW, hsame⟩ := X_1.leave (v := some (.int (0 : Int32))) (fun h => by rw [Bd.returns] at h; cases h)
  refine ⟨_, _, retN X_1 hx (t := .boolean) Bd.returns (by simp) (hb hby d_is0_12) hr, hrun, hended, _, _, rfl, ?_, ⟨_, rfl⟩, hW, hsame.mono (by decide) (by decide)⟩
  show Q_is0 Z a1 sx h0 n0 _ T_1.heap _
  rw [e_1]
  exact ⟨rfl, N0, rfl⟩
-- com/example/cardwarden/cardwarden/wire/ErrorCode.code:()Ljava/lang/String;
theorem d_cod_0 : decode prog_64_method_4_code 0 = .ok (.aload_n 0, 1) := by decide +kernel
theorem d_cod_1 : decode prog_64_method_4_code 1 = .ok (.getfield 41, 3) := by decide +kernel
theorem d_cod_4 : decode prog_64_method_4_code 4 = .ok (.areturn, 1) := by decide +kernel
theorem pn_cod : plainName "com/example/cardwarden/cardwarden/wire/ErrorCode" = true := by first | (simp [plainName, overriddenIn]; done) | decide +kernel
theorem ef_cod (m : MethodId) (a1 : Addr) : entryFrame m #[(.ref a1)] 1 = mkF m 0 #[.val (.ref a1)] [] := by first | (simp [entryFrame, mkF, argsToLocals, Value.category]; done) | rfl
def Q_cod (Z : State) (a1 : Addr) (cx : Addr) (h0 : Heap) (n0 : Nat) (v : Option Value) (h : Heap) (L : List Loc) : Prop := v = some (.ref cx) ∧ Fr n0 L ∧ h = h0
set_option maxRecDepth 65536 in
set_option maxHeartbeats 40000000 in
theorem rm_cod (l : Launch) (Z : State) (a0 : Array Value) (hw : ∀ d ∈ tables_1, d.before a0 Z = true) (ws : List Jvm.Cond) (a1 : Addr) (cx : Addr) (h0 : Heap) (n0 : Nat) (Z0 : n0 ≤ h0.size) (F1 : Fld Z h0 a1 "com/example/cardwarden/cardwarden/wire/ErrorCode" "code" "Ljava/lang/String;" (.ref cx)) :
    MetFree l (⟨"com/example/cardwarden/cardwarden/wire/ErrorCode", "code", "()Ljava/lang/String;"⟩ : MethodName) (head1 (Jvm.Cond.code (⟨"com/example/cardwarden/cardwarden/wire/ErrorCode", "code", "()Ljava/lang/String;"⟩ : MethodName) prog_64_method_4_code 1 (some (.object "java/lang/String")) :: ws) ({ frames := 0, cells := 0, slots := 0, locals := 0 } : Room)) (fun a U => a = #[(.ref a1)] ∧ Z.Warmed39 U.vm ∧ U.heap = h0) (fun _ _ _ _ _ => True) (fun _ U o U' => ∃ v L, o = .returned v ∧ Q_cod Z a1 cx h0 n0 v U'.heap L ∧ FrameEnd U o U' L ({ frames := 0, cells := 0, slots := 0, locals := 0 } : Room).cells ({ frames := 0, cells := 0, slots := 0, locals := 0 } : Room).slots) := by
  refine MetFree.of_bodySF (plainFor_of_name pn_cod) hisR ?_
  intro p e s m args below meth c s₁ Bd hml0 hP hK
  obtain ⟨rfl, hZ, hh⟩ := hP
  have hx := Bd.exec
  have hby := Bd.bytes
  have hml : c.maxLocals = 1 := hml0
  have hown : s.vm.findClass "com/example/cardwarden/cardwarden/wire/ErrorCode" = some m.cls := findClass_of_methodNamed Bd.named
  have hnm := (name_of_methodNamed Bd.named Bd.method).1
  have X0 : Stand p l e ({ frames := 0, cells := 0, slots := 0, locals := 0 } : Room) s m #[(.ref a1)] below meth c s₁ [] 0 0 := Stand.of_body Bd
  have e0 : s₁.heap = h0 := by rw [← hh, Bd.state]; rfl
  have N0 := Fr.nil n0
  refine own_in ?_
  refine own_go (S' := s₁.setTop (mkF m 0 #[.val (.ref a1)] [])) (fun tgt_ stp_ => castTop (ef_cod m a1) stp_) ?_
  obtain ⟨T_1, X_1, e_1, st_1⟩ := getF X0 hx hZ hown (host := "") (Or.inl (hw _ (List.mem_of_getElem? (i := 19) rfl))) Via.refl e0 F1 (g := (mkF m 1 #[.val (.ref a1)] [(.ref a1)])) rfl rfl (hb hby d_cod_1)
  refine own_go (S' := T_1.setTop (mkF m 4 #[.val (.ref a1)] [(.ref cx)])) (fun target kt => ?_) ?_
  · show Steps p.tables e below (s₁.setTop (mkF m 0 #[.val (.ref a1)] [])) target
    refine XS.aloadN X0.here hx rfl (hb hby d_cod_0) rfl rfl ?_
    show Steps p.tables e below (s₁.setTop (mkF m 1 #[.val (.ref a1)] [(.ref a1)])) target
    refine st_1 _ ?_
    show Steps p.tables e below (T_1.setTop (mkF m 4 #[.val (.ref a1)] [(.ref cx)])) target
    exact kt
  obtain ⟨fs, hr, hrun, hended, hW, hsame⟩ := X_1.leave (v := some (.ref cx)) (fun h => by rw [Bd.returns] at h; cases h)
  refine ⟨_, _, retOut X_1 hx Bd.returns rfl (Or.inr (Or.inr (Or.inr (Or.inr ⟨rfl, rfl, rfl⟩)))) (hb hby d_cod_4) hr, hrun, hended, _, _, rfl, ?_, ⟨_, rfl⟩, hW, hsame.mono (by decide) (by decide)⟩
  show Q_cod Z a1 cx h0 n0 _ T_1.heap _
  rw [e_1]
  exact ⟨rfl, N0, rfl⟩
-- java/lang/StringLatin1.equals:([B[B)Z
theorem d_leq_0 : decode jdk_43_method_13_code 0 = .ok (.aload_n 0, 1) := by decide +kernel
theorem d_leq_1 : decode jdk_43_method_13_code 1 = .ok (.arraylength, 1) := by decide +kernel
theorem d_leq_2 : decode jdk_43_method_13_code 2 = .ok (.aload_n 1, 1) := by decide +kernel
theorem d_leq_3 : decode jdk_43_method_13_code 3 = .ok (.arraylength, 1) := by decide +kernel
theorem d_leq_4 : decode jdk_43_method_13_code 4 = .ok (.if_icmp .ne 30, 3) := by decide +kernel
theorem d_leq_7 : decode jdk_43_method_13_code 7 = .ok (.iconst 0, 1) := by decide +kernel
theorem d_leq_8 : decode jdk_43_method_13_code 8 = .ok (.istore_n 2, 1) := by decide +kernel
theorem d_leq_9 : decode jdk_43_method_13_code 9 = .ok (.iload_n 2, 1) := by decide +kernel
theorem d_leq_10 : decode jdk_43_method_13_code 10 = .ok (.aload_n 0, 1) := by decide +kernel
theorem d_leq_11 : decode jdk_43_method_13_code 11 = .ok (.arraylength, 1) := by decide +kernel
theorem d_leq_12 : decode jdk_43_method_13_code 12 = .ok (.if_icmp .ge 20, 3) := by decide +kernel
theorem d_leq_15 : decode jdk_43_method_13_code 15 = .ok (.aload_n 0, 1) := by decide +kernel
theorem d_leq_16 : decode jdk_43_method_13_code 16 = .ok (.iload_n 2, 1) := by decide +kernel
theorem d_leq_17 : decode jdk_43_method_13_code 17 = .ok (.baload, 1) := by decide +kernel
theorem d_leq_18 : decode jdk_43_method_13_code 18 = .ok (.aload_n 1, 1) := by decide +kernel
theorem d_leq_19 : decode jdk_43_method_13_code 19 = .ok (.iload_n 2, 1) := by decide +kernel
theorem d_leq_20 : decode jdk_43_method_13_code 20 = .ok (.baload, 1) := by decide +kernel
theorem d_leq_21 : decode jdk_43_method_13_code 21 = .ok (.if_icmp .eq 5, 3) := by decide +kernel
theorem d_leq_24 : decode jdk_43_method_13_code 24 = .ok (.iconst 0, 1) := by decide +kernel
theorem d_leq_25 : decode jdk_43_method_13_code 25 = .ok (.ireturn, 1) := by decide +kernel
theorem d_leq_26 : decode jdk_43_method_13_code 26 = .ok (.iinc 2 1, 3) := by decide +kernel
theorem d_leq_29 : decode jdk_43_method_13_code 29 = .ok (.goto (-20), 3) := by decide +kernel
theorem d_leq_32 : decode jdk_43_method_13_code 32 = .ok (.iconst 1, 1) := by decide +kernel
theorem d_leq_33 : decode jdk_43_method_13_code 33 = .ok (.ireturn, 1) := by decide +kernel
theorem pn_leq : plainName "java/lang/StringLatin1" = true := by first | (simp [plainName, overriddenIn]; done) | decide +kernel
theorem ef_leq (m : MethodId) (a1 : Addr) (a2 : Addr) : entryFrame m #[(.ref a1), (.ref a2)] 3 = mkF m 0 #[.val (.ref a1), .val (.ref a2), .unset] [] := by first | (simp [entryFrame, mkF, argsToLocals, Value.category]; done) | rfl
def Q_leq (Z : State) (a1 : Addr) (a2 : Addr) (ka : ClassId) (kb : ClassId) (x0_ : Int32) (x1_ : Int32) (x2_ : Int32) (y0_ : Int32) (y1_ : Int32) (y2_ : Int32) (h0 : Heap) (n0 : Nat) (v : Option Value) (h : Heap) (L : List Loc) : Prop := v = some (.int (own_leq x0_ x1_ x2_ y0_ y1_ y2_)) ∧ Fr n0 L ∧ h = h0
set_option maxRecDepth 65536 in
set_option maxHeartbeats 40000000 in
theorem rm_leq (l : Launch) (Z : State) (a0 : Array Value) (hw : ∀ d ∈ tables_1, d.before a0 Z = true) (ws : List Jvm.Cond) (a1 : Addr) (a2 : Addr) (ka : ClassId) (kb : ClassId) (x0_ : Int32) (x1_ : Int32) (x2_ : Int32) (y0_ : Int32) (y1_ : Int32) (y2_ : Int32) (h0 : Heap) (n0 : Nat) (Z0 : n0 ≤ h0.size) (V1 : Arv Z h0 a1 ka .byte (3 : Int32) [(.int x0_), (.int x1_), (.int x2_)] (.int (0 : Int32))) (V2 : Arv Z h0 a2 kb .byte (3 : Int32) [(.int y0_), (.int y1_), (.int y2_)] (.int (0 : Int32))) :
    MetFree l (⟨"java/lang/StringLatin1", "equals", "([B[B)Z"⟩ : MethodName) (head1 (Jvm.Cond.code (⟨"java/lang/StringLatin1", "equals", "([B[B)Z"⟩ : MethodName) jdk_43_method_13_code 3 (some .boolean) :: ws) ({ frames := 0, cells := 0, slots := 0, locals := 0 } : Room)) (fun a U => a = #[(.ref a1), (.ref a2)] ∧ Z.Warmed39 U.vm ∧ U.heap = h0) (fun _ _ _ _ _ => True) (fun _ U o U' => ∃ v L, o = .returned v ∧ Q_leq Z a1 a2 ka kb x0_ x1_ x2_ y0_ y1_ y2_ h0 n0 v U'.heap L ∧ FrameEnd U o U' L ({ frames := 0, cells := 0, slots := 0, locals := 0 } : Room).cells ({ frames := 0, cells := 0, slots := 0, locals := 0 } : Room).slots) := by
  refine MetFree.of_bodySF (plainFor_of_name pn_leq) hisR ?_
  intro p e s m args below meth c s₁ Bd hml0 hP hK
  obtain ⟨rfl, hZ, hh⟩ := hP
  have hx := Bd.exec
  have hby := Bd.bytes
  have hml : c.maxLocals = 3 := hml0
  have hown : s.vm.findClass "java/lang/StringLatin1" = some m.cls := findClass_of_methodNamed Bd.named
  have hnm := (name_of_methodNamed Bd.named Bd.method).1
  have X0 : Stand p l e ({ frames := 0, cells := 0, slots := 0, locals := 0 } : Room) s m #[(.ref a1), (.ref a2)] below meth c s₁ [] 0 0 := Stand.of_body Bd
  have e0 : s₁.heap = h0 := by rw [← hh, Bd.state]; rfl
  have N0 := Fr.nil n0
  refine own_in ?_
  refine own_go (S' := s₁.setTop (mkF m 0 #[.val (.ref a1), .val (.ref a2), .unset] [])) (fun tgt_ stp_ => castTop (ef_leq m a1 a2) stp_) ?_
  obtain ⟨c_1, Ar_1, -, S_1, M_1, -, -⟩ := id V1
  obtain ⟨c_2, Ar_2, -, S_2, M_2, -, -⟩ := id V2
  obtain ⟨c_3, Ar_3, -, S_3, M_3, -, -⟩ := id V1
  obtain ⟨c_4, Ar_4, q_4, S_4, M_4, Hs_4, G_4⟩ := id V1
  have hin_4 : ¬ ((0 : Int32) < 0 ∨ c_4.slots.size ≤ ((0 : Int32)).toNatClampNeg) := inb_of S_4 ⟨by decide, by decide⟩
  have hat_4 : c_4.slots[((0 : Int32)).toNatClampNeg]? = some (.int x0_) := Hs_4.at hin_4 rfl
  obtain ⟨c_5, Ar_5, q_5, S_5, M_5, Hs_5, G_5⟩ := id V2
  have hin_5 : ¬ ((0 : Int32) < 0 ∨ c_5.slots.size ≤ ((0 : Int32)).toNatClampNeg) := inb_of S_5 ⟨by decide, by decide⟩
  have hat_5 : c_5.slots[((0 : Int32)).toNatClampNeg]? = some (.int y0_) := Hs_5.at hin_5 rfl
  refine own_go (S' := s₁.setTop (mkF m 21 #[.val (.ref a1), .val (.ref a2), .val (.int (0 : Int32))] [(.int y0_), (.int x0_)])) (fun target kt => ?_) ?_
  · show Steps p.tables e below (s₁.setTop (mkF m 0 #[.val (.ref a1), .val (.ref a2), .unset] [])) target
    refine XS.aloadN X0.here hx rfl (hb hby d_leq_0) rfl rfl ?_
    show Steps p.tables e below (s₁.setTop (mkF m 1 #[.val (.ref a1), .val (.ref a2), .unset] [(.ref a1)])) target
    refine X0.arraylength hx (by rw [e0]; exact Ar_1.1) (State.isArrayOf_alike hZ.alike Ar_1.2.1) (g := (mkF m 1 #[.val (.ref a1), .val (.ref a2), .unset] [(.ref a1)])) rfl rfl (hb hby d_leq_1) _ ?_
    rw [len_of S_1 M_1]
    show Steps p.tables e below (s₁.setTop (mkF m 2 #[.val (.ref a1), .val (.ref a2), .unset] [(.int (3 : Int32))])) target
    refine XS.aloadN X0.here hx rfl (hb hby d_leq_2) rfl rfl ?_
    show Steps p.tables e below (s₁.setTop (mkF m 3 #[.val (.ref a1), .val (.ref a2), .unset] [(.ref a2), (.int (3 : Int32))])) target
    refine X0.arraylength hx (by rw [e0]; exact Ar_2.1) (State.isArrayOf_alike hZ.alike Ar_2.2.1) (g := (mkF m 3 #[.val (.ref a1), .val (.ref a2), .unset] [(.ref a2), (.int (3 : Int32))])) rfl rfl (hb hby d_leq_3) _ ?_
    rw [len_of S_2 M_2]
    show Steps p.tables e below (s₁.setTop (mkF m 4 #[.val (.ref a1), .val (.ref a2), .unset] [(.int (3 : Int32)), (.int (3 : Int32))])) target
    refine XS.icmpNo X0.here hx rfl (hb hby d_leq_4) rfl (teq (by decide : (3 : Int32) = (3 : Int32))).2 ?_
    show Steps p.tables e below (s₁.setTop (mkF m 7 #[.val (.ref a1), .val (.ref a2), .unset] [])) target
    refine XS.iconst X0.here hx rfl (hb hby d_leq_7) ?_
    show Steps p.tables e below (s₁.setTop (mkF m 8 #[.val (.ref a1), .val (.ref a2), .unset] [(.int (0 : Int32))])) target
    refine XS.istoreN X0.here hx rfl (hb hby d_leq_8) rfl (l' := #[.val (.ref a1), .val (.ref a2), .val (.int (0 : Int32))]) rfl ?_
    show Steps p.tables e below (s₁.setTop (mkF m 9 #[.val (.ref a1), .val (.ref a2), .val (.int (0 : Int32))] [])) target
    refine XS.iloadN X0.here hx rfl (hb hby d_leq_9) rfl ?_
    show Steps p.tables e below (s₁.setTop (mkF m 10 #[.val (.ref a1), .val (.ref a2), .val (.int (0 : Int32))] [(.int (0 : Int32))])) target
    refine XS.aloadN X0.here hx rfl (hb hby d_leq_10) rfl rfl ?_
    show Steps p.tables e below (s₁.setTop (mkF m 11 #[.val (.ref a1), .val (.ref a2), .val (.int (0 : Int32))] [(.ref a1), (.int (0 : Int32))])) target
    refine X0.arraylength hx (by rw [e0]; exact Ar_3.1) (State.isArrayOf_alike hZ.alike Ar_3.2.1) (g := (mkF m 11 #[.val (.ref a1), .val (.ref a2), .val (.int (0 : Int32))] [(.ref a1), (.int (0 : Int32))])) rfl rfl (hb hby d_leq_11) _ ?_
    rw [len_of S_3 M_3]
    show Steps p.tables e below (s₁.setTop (mkF m 12 #[.val (.ref a1), .val (.ref a2), .val (.int (0 : Int32))] [(.int (3 : Int32)), (.int (0 : Int32))])) target
    refine XS.icmpNo X0.here hx rfl (hb hby d_leq_12) rfl (tlt (by decide : (0 : Int32) < (3 : Int32))).2.1 ?_
    show Steps p.tables e below (s₁.setTop (mkF m 15 #[.val (.ref a1), .val (.ref a2), .val (.int (0 : Int32))] [])) target
    refine XS.aloadN X0.here hx rfl (hb hby d_leq_15) rfl rfl ?_
    show Steps p.tables e below (s₁.setTop (mkF m 16 #[.val (.ref a1), .val (.ref a2), .val (.int (0 : Int32))] [(.ref a1)])) target
    refine XS.iloadN X0.here hx rfl (hb hby d_leq_16) rfl ?_
    show Steps p.tables e below (s₁.setTop (mkF m 17 #[.val (.ref a1), .val (.ref a2), .val (.int (0 : Int32))] [(.int (0 : Int32)), (.ref a1)])) target
    refine X0.baloadBytes hx (j := (0 : Int32)) (v := (.int x0_)) (by rw [e0]; exact Ar_4.1) (State.isArrayOf_alike hZ.alike Ar_4.2.1) Ar_4.2.2 hin_4 hat_4 (g := (mkF m 17 #[.val (.ref a1), .val (.ref a2), .val (.int (0 : Int32))] [(.int (0 : Int32)), (.ref a1)])) rfl rfl (hb hby d_leq_17) _ ?_
    show Steps p.tables e below (s₁.setTop (mkF m 18 #[.val (.ref a1), .val (.ref a2), .val (.int (0 : Int32))] [(.int x0_)])) target
    refine XS.aloadN X0.here hx rfl (hb hby d_leq_18) rfl rfl ?_
    show Steps p.tables e below (s₁.setTop (mkF m 19 #[.val (.ref a1), .val (.ref a2), .val (.int (0 : Int32))] [(.ref a2), (.int x0_)])) target
    refine XS.iloadN X0.here hx rfl (hb hby d_leq_19) rfl ?_
    show Steps p.tables e below (s₁.setTop (mkF m 20 #[.val (.ref a1), .val (.ref a2), .val (.int (0 : Int32))] [(.int (0 : Int32)), (.ref a2), (.int x0_)])) target
    refine X0.baloadBytes hx (j := (0 : Int32)) (v := (.int y0_)) (by rw [e0]; exact Ar_5.1) (State.isArrayOf_alike hZ.alike Ar_5.2.1) Ar_5.2.2 hin_5 hat_5 (g := (mkF m 20 #[.val (.ref a1), .val (.ref a2), .val (.int (0 : Int32))] [(.int (0 : Int32)), (.ref a2), (.int x0_)])) rfl rfl (hb hby d_leq_20) _ ?_
    show Steps p.tables e below (s₁.setTop (mkF m 21 #[.val (.ref a1), .val (.ref a2), .val (.int (0 : Int32))] [(.int y0_), (.int x0_)])) target
    exact kt
  by_cases hc21 : x0_ = y0_
  · -- pc 21: yes
    obtain ⟨c_6, Ar_6, -, S_6, M_6, -, -⟩ := id V1
    obtain ⟨c_7, Ar_7, q_7, S_7, M_7, Hs_7, G_7⟩ := id V1
    have hin_7 : ¬ ((1 : Int32) < 0 ∨ c_7.slots.size ≤ ((1 : Int32)).toNatClampNeg) := inb_of S_7 ⟨by decide, by decide⟩
    have hat_7 : c_7.slots[((1 : Int32)).toNatClampNeg]? = some (.int x1_) := Hs_7.at hin_7 rfl
    obtain ⟨c_8, Ar_8, q_8, S_8, M_8, Hs_8, G_8⟩ := id V2
    have hin_8 : ¬ ((1 : Int32) < 0 ∨ c_8.slots.size ≤ ((1 : Int32)).toNatClampNeg) := inb_of S_8 ⟨by decide, by decide⟩
    have hat_8 : c_8.slots[((1 : Int32)).toNatClampNeg]? = some (.int y1_) := Hs_8.at hin_8 rfl
    refine own_go (S' := s₁.setTop (mkF m 21 #[.val (.ref a1), .val (.ref a2), .val (.int (1 : Int32))] [(.int y1_), (.int x1_)])) (fun target kt => ?_) ?_
    · show Steps p.tables e below (s₁.setTop (mkF m 21 #[.val (.ref a1), .val (.ref a2), .val (.int (0 : Int32))] [(.int y0_), (.int x0_)])) target
      refine XS.icmpYes X0.here hx rfl (pc0 := 21) (pc' := 26) rfl (hb hby d_leq_21) rfl (teq hc21).1 (by decide) (by decide) ?_
      show Steps p.tables e below (s₁.setTop (mkF m 26 #[.val (.ref a1), .val (.ref a2), .val (.int (0 : Int32))] [])) target
      refine XS.iinc X0.here hx rfl (hb hby d_leq_26) rfl (l' := #[.val (.ref a1), .val (.ref a2), .val (.int ((0 : Int32) + (1 : Int32)))]) rfl ?_
      show Steps p.tables e below (s₁.setTop (mkF m 29 #[.val (.ref a1), .val (.ref a2), .val (.int ((0 : Int32) + (1 : Int32)))] [])) target
      rw [show (0 : Int32) + (1 : Int32) = (1 : Int32) from by decide]
      show Steps p.tables e below (s₁.setTop (mkF m 29 #[.val (.ref a1), .val (.ref a2), .val (.int (1 : Int32))] [])) target
      refine XS.goto X0.here hx rfl (pc0 := 29) (pc' := 9) rfl (hb hby d_leq_29) (by decide) (by decide) ?_
      show Steps p.tables e below (s₁.setTop (mkF m 9 #[.val (.ref a1), .val (.ref a2), .val (.int (1 : Int32))] [])) target
      refine XS.iloadN X0.here hx rfl (hb hby d_leq_9) rfl ?_
      show Steps p.tables e below (s₁.setTop (mkF m 10 #[.val (.ref a1), .val (.ref a2), .val (.int (1 : Int32))] [(.int (1 : Int32))])) target
      refine XS.aloadN X0.here hx rfl (hb hby d_leq_10) rfl rfl ?_
      show Steps p.tables e below (s₁.setTop (mkF m 11 #[.val (.ref a1), .val (.ref a2), .val (.int (1 : Int32))] [(.ref a1), (.int (1 : Int32))])) target
      refine X0.arraylength hx (by rw [e0]; exact Ar_6.1) (State.isArrayOf_alike hZ.alike Ar_6.2.1) (g := (mkF m 11 #[.val (.ref a1), .val (.ref a2), .val (.int (1 : Int32))] [(.ref a1), (.int (1 : Int32))])) rfl rfl (hb hby d_leq_11) _ ?_
      rw [len_of S_6 M_6]
      show Steps p.tables e below (s₁.setTop (mkF m 12 #[.val (.ref a1), .val (.ref a2), .val (.int (1 : Int32))] [(.int (3 : Int32)), (.int (1 : Int32))])) target
      refine XS.icmpNo X0.here hx rfl (hb hby d_leq_12) rfl (tlt (by decide : (1 : Int32) < (3 : Int32))).2.1 ?_
      show Steps p.tables e below (s₁.setTop (mkF m 15 #[.val (.ref a1), .val (.ref a2), .val (.int (1 : Int32))] [])) target
      refine XS.aloadN X0.here hx rfl (hb hby d_leq_15) rfl rfl ?_
      show Steps p.tables e below (s₁.setTop (mkF m 16 #[.val (.ref a1), .val (.ref a2), .val (.int (1 : Int32))] [(.ref a1)])) target
      refine XS.iloadN X0.here hx rfl (hb hby d_leq_16) rfl ?_
      show Steps p.tables e below (s₁.setTop (mkF m 17 #[.val (.ref a1), .val (.ref a2), .val (.int (1 : Int32))] [(.int (1 : Int32)), (.ref a1)])) target
      refine X0.baloadBytes hx (j := (1 : Int32)) (v := (.int x1_)) (by rw [e0]; exact Ar_7.1) (State.isArrayOf_alike hZ.alike Ar_7.2.1) Ar_7.2.2 hin_7 hat_7 (g := (mkF m 17 #[.val (.ref a1), .val (.ref a2), .val (.int (1 : Int32))] [(.int (1 : Int32)), (.ref a1)])) rfl rfl (hb hby d_leq_17) _ ?_
      show Steps p.tables e below (s₁.setTop (mkF m 18 #[.val (.ref a1), .val (.ref a2), .val (.int (1 : Int32))] [(.int x1_)])) target
      refine XS.aloadN X0.here hx rfl (hb hby d_leq_18) rfl rfl ?_
      show Steps p.tables e below (s₁.setTop (mkF m 19 #[.val (.ref a1), .val (.ref a2), .val (.int (1 : Int32))] [(.ref a2), (.int x1_)])) target
      refine XS.iloadN X0.here hx rfl (hb hby d_leq_19) rfl ?_
      show Steps p.tables e below (s₁.setTop (mkF m 20 #[.val (.ref a1), .val (.ref a2), .val (.int (1 : Int32))] [(.int (1 : Int32)), (.ref a2), (.int x1_)])) target
      refine X0.baloadBytes hx (j := (1 : Int32)) (v := (.int y1_)) (by rw [e0]; exact Ar_8.1) (State.isArrayOf_alike hZ.alike Ar_8.2.1) Ar_8.2.2 hin_8 hat_8 (g := (mkF m 20 #[.val (.ref a1), .val (.ref a2), .val (.int (1 : Int32))] [(.int (1 : Int32)), (.ref a2), (.int x1_)])) rfl rfl (hb hby d_leq_20) _ ?_
      show Steps p.tables e below (s₁.setTop (mkF m 21 #[.val (.ref a1), .val (.ref a2), .val (.int (1 : Int32))] [(.int y1_), (.int x1_)])) target
      exact kt
    by_cases hc21' : x1_ = y1_
    · -- pc 21: yes
      obtain ⟨c_9, Ar_9, -, S_9, M_9, -, -⟩ := id V1
      obtain ⟨c_10, Ar_10, q_10, S_10, M_10, Hs_10, G_10⟩ := id V1
      have hin_10 : ¬ ((2 : Int32) < 0 ∨ c_10.slots.size ≤ ((2 : Int32)).toNatClampNeg) := inb_of S_10 ⟨by decide, by decide⟩
      have hat_10 : c_10.slots[((2 : Int32)).toNatClampNeg]? = some (.int x2_) := Hs_10.at hin_10 rfl
      obtain ⟨c_11, Ar_11, q_11, S_11, M_11, Hs_11, G_11⟩ := id V2
      have hin_11 : ¬ ((2 : Int32) < 0 ∨ c_11.slots.size ≤ ((2 : Int32)).toNatClampNeg) := inb_of S_11 ⟨by decide, by decide⟩
      have hat_11 : c_11.slots[((2 : Int32)).toNatClampNeg]? = some (.int y2_) := Hs_11.at hin_11 rfl
      refine own_go (S' := s₁.setTop (mkF m 21 #[.val (.ref a1), .val (.ref a2), .val (.int (2 : Int32))] [(.int y2_), (.int x2_)])) (fun target kt => ?_) ?_
      · show Steps p.tables e below (s₁.setTop (mkF m 21 #[.val (.ref a1), .val (.ref a2), .val (.int (1 : Int32))] [(.int y1_), (.int x1_)])) target
        refine XS.icmpYes X0.here hx rfl (pc0 := 21) (pc' := 26) rfl (hb hby d_leq_21) rfl (teq hc21').1 (by decide) (by decide) ?_
        show Steps p.tables e below (s₁.setTop (mkF m 26 #[.val (.ref a1), .val (.ref a2), .val (.int (1 : Int32))] [])) target
        refine XS.iinc X0.here hx rfl (hb hby d_leq_26) rfl (l' := #[.val (.ref a1), .val (.ref a2), .val (.int ((1 : Int32) + (1 : Int32)))]) rfl ?_
        show Steps p.tables e below (s₁.setTop (mkF m 29 #[.val (.ref a1), .val (.ref a2), .val (.int ((1 : Int32) + (1 : Int32)))] [])) target
        rw [show (1 : Int32) + (1 : Int32) = (2 : Int32) from by decide]
        show Steps p.tables e below (s₁.setTop (mkF m 29 #[.val (.ref a1), .val (.ref a2), .val (.int (2 : Int32))] [])) target
        refine XS.goto X0.here hx rfl (pc0 := 29) (pc' := 9) rfl (hb hby d_leq_29) (by decide) (by decide) ?_
        show Steps p.tables e below (s₁.setTop (mkF m 9 #[.val (.ref a1), .val (.ref a2), .val (.int (2 : Int32))] [])) target
        refine XS.iloadN X0.here hx rfl (hb hby d_leq_9) rfl ?_
        show Steps p.tables e below (s₁.setTop (mkF m 10 #[.val (.ref a1), .val (.ref a2), .val (.int (2 : Int32))] [(.int (2 : Int32))])) target
        refine XS.aloadN X0.here hx rfl (hb hby d_leq_10) rfl rfl ?_
        show Steps p.tables e below (s₁.setTop (mkF m 11 #[.val (.ref a1), .val (.ref a2), .val (.int (2 : Int32))] [(.ref a1), (.int (2 : Int32))])) target
        refine X0.arraylength hx (by rw [e0]; exact Ar_9.1) (State.isArrayOf_alike hZ.alike Ar_9.2.1) (g := (mkF m 11 #[.val (.ref a1), .val (.ref a2), .val (.int (2 : Int32))] [(.ref a1), (.int (2 : Int32))])) rfl rfl (hb hby d_leq_11) _ ?_
        rw [len_of S_9 M_9]
        show Steps p.tables e below (s₁.setTop (mkF m 12 #[.val (.ref a1), .val (.ref a2), .val (.int (2 : Int32))] [(.int (3 : Int32)), (.int (2 : Int32))])) target
        refine XS.icmpNo X0.here hx rfl (hb hby d_leq_12) rfl (tlt (by decide : (2 : Int32) < (3 : Int32))).2.1 ?_
        show Steps p.tables e below (s₁.setTop (mkF m 15 #[.val (.ref a1), .val (.ref a2), .val (.int (2 : Int32))] [])) target
        refine XS.aloadN X0.here hx rfl (hb hby d_leq_15) rfl rfl ?_
        show Steps p.tables e below (s₁.setTop (mkF m 16 #[.val (.ref a1), .val (.ref a2), .val (.int (2 : Int32))] [(.ref a1)])) target
        refine XS.iloadN X0.here hx rfl (hb hby d_leq_16) rfl ?_
        show Steps p.tables e below (s₁.setTop (mkF m 17 #[.val (.ref a1), .val (.ref a2), .val (.int (2 : Int32))] [(.int (2 : Int32)), (.ref a1)])) target
        refine X0.baloadBytes hx (j := (2 : Int32)) (v := (.int x2_)) (by rw [e0]; exact Ar_10.1) (State.isArrayOf_alike hZ.alike Ar_10.2.1) Ar_10.2.2 hin_10 hat_10 (g := (mkF m 17 #[.val (.ref a1), .val (.ref a2), .val (.int (2 : Int32))] [(.int (2 : Int32)), (.ref a1)])) rfl rfl (hb hby d_leq_17) _ ?_
        show Steps p.tables e below (s₁.setTop (mkF m 18 #[.val (.ref a1), .val (.ref a2), .val (.int (2 : Int32))] [(.int x2_)])) target
        refine XS.aloadN X0.here hx rfl (hb hby d_leq_18) rfl rfl ?_
        show Steps p.tables e below (s₁.setTop (mkF m 19 #[.val (.ref a1), .val (.ref a2), .val (.int (2 : Int32))] [(.ref a2), (.int x2_)])) target
        refine XS.iloadN X0.here hx rfl (hb hby d_leq_19) rfl ?_
        show Steps p.tables e below (s₁.setTop (mkF m 20 #[.val (.ref a1), .val (.ref a2), .val (.int (2 : Int32))] [(.int (2 : Int32)), (.ref a2), (.int x2_)])) target
        refine X0.baloadBytes hx (j := (2 : Int32)) (v := (.int y2_)) (by rw [e0]; exact Ar_11.1) (State.isArrayOf_alike hZ.alike Ar_11.2.1) Ar_11.2.2 hin_11 hat_11 (g := (mkF m 20 #[.val (.ref a1), .val (.ref a2), .val (.int (2 : Int32))] [(.int (2 : Int32)), (.ref a2), (.int x2_)])) rfl rfl (hb hby d_leq_20) _ ?_
        show Steps p.tables e below (s₁.setTop (mkF m 21 #[.val (.ref a1), .val (.ref a2), .val (.int (2 : Int32))] [(.int y2_), (.int x2_)])) target
        exact kt
      by_cases hc21'' : x2_ = y2_
      · -- pc 21: yes
        obtain ⟨c_12, Ar_12, -, S_12, M_12, -, -⟩ := id V1
        refine own_go (S' := s₁.setTop (mkF m 33 #[.val (.ref a1), .val (.ref a2), .val (.int (3 : Int32))] [(.int (1 : Int32))])) (fun target kt => ?_) ?_
        · show Steps p.tables e below (s₁.setTop (mkF m 21 #[.val (.ref a1), .val (.ref a2), .val (.int (2 : Int32))] [(.int y2_), (.int x2_)])) target
          refine XS.icmpYes X0.here hx rfl (pc0 := 21) (pc' := 26) rfl (hb hby d_leq_21) rfl (teq hc21'').1 (by decide) (by decide) ?_
          show Steps p.tables e below (s₁.setTop (mkF m 26 #[.val (.ref a1), .val (.ref a2), .val (.int (2 : Int32))] [])) target
          refine XS.iinc X0.here hx rfl (hb hby d_leq_26) rfl (l' := #[.val (.ref a1), .val (.ref a2), .val (.int ((2 : Int32) + (1 : Int32)))]) rfl ?_
          show Steps p.tables e below (s₁.setTop (mkF m 29 #[.val (.ref a1), .val (.ref a2), .val (.int ((2 : Int32) + (1 : Int32)))] [])) target
          rw [show (2 : Int32) + (1 : Int32) = (3 : Int32) from by decide]
          show Steps p.tables e below (s₁.setTop (mkF m 29 #[.val (.ref a1), .val (.ref a2), .val (.int (3 : Int32))] [])) target
          refine XS.goto X0.here hx rfl (pc0 := 29) (pc' := 9) rfl (hb hby d_leq_29) (by decide) (by decide) ?_
          show Steps p.tables e below (s₁.setTop (mkF m 9 #[.val (.ref a1), .val (.ref a2), .val (.int (3 : Int32))] [])) target
          refine XS.iloadN X0.here hx rfl (hb hby d_leq_9) rfl ?_
          show Steps p.tables e below (s₁.setTop (mkF m 10 #[.val (.ref a1), .val (.ref a2), .val (.int (3 : Int32))] [(.int (3 : Int32))])) target
          refine XS.aloadN X0.here hx rfl (hb hby d_leq_10) rfl rfl ?_
          show Steps p.tables e below (s₁.setTop (mkF m 11 #[.val (.ref a1), .val (.ref a2), .val (.int (3 : Int32))] [(.ref a1), (.int (3 : Int32))])) target
          refine X0.arraylength hx (by rw [e0]; exact Ar_12.1) (State.isArrayOf_alike hZ.alike Ar_12.2.1) (g := (mkF m 11 #[.val (.ref a1), .val (.ref a2), .val (.int (3 : Int32))] [(.ref a1), (.int (3 : Int32))])) rfl rfl (hb hby d_leq_11) _ ?_
          rw [len_of S_12 M_12]
          show Steps p.tables e below (s₁.setTop (mkF m 12 #[.val (.ref a1), .val (.ref a2), .val (.int (3 : Int32))] [(.int (3 : Int32)), (.int (3 : Int32))])) target
          refine XS.icmpYes X0.here hx rfl (pc0 := 12) (pc' := 32) rfl (hb hby d_leq_12) rfl (flt (by decide : ¬ ((3 : Int32) < (3 : Int32)))).2.1 (by decide) (by decide) ?_
          show Steps p.tables e below (s₁.setTop (mkF m 32 #[.val (.ref a1), .val (.ref a2), .val (.int (3 : Int32))] [])) target
          refine XS.iconst X0.here hx rfl (hb hby d_leq_32) ?_
          show Steps p.tables e below (s₁.setTop (mkF m 33 #[.val (.ref a1), .val (.ref a2), .val (.int (3 : Int32))] [(.int (1 : Int32))])) target
          exact kt
        obtain ⟨fs, hr, hrun, hended, hW, hsame⟩ := X0.leave (v := some (.int (1 : Int32))) (fun h => by rw [Bd.returns] at h; cases h)
        refine ⟨_, _, retN X0 hx (t := .boolean) Bd.returns (by simp) (hb hby d_leq_33) hr, hrun, hended, _, _, rfl, ?_, ⟨_, rfl⟩, hW, hsame.mono (by decide) (by decide)⟩
        show Q_leq Z a1 a2 ka kb x0_ x1_ x2_ y0_ y1_ y2_ h0 n0 _ s₁.heap _
        rw [e0]
        exact ⟨(congrArg (fun z => some (Value.int z)) (by first | (simp only [own_leq, hc21, hc21', hc21'', not_true_eq_false, not_false_eq_true, and_self, and_true, true_and, and_false, false_and, or_self, or_true, true_or, or_false, false_or, if_true, if_false, ↓reduceIte]; done) | (simp [own_leq, hc21, hc21', hc21'']; done))), N0, rfl⟩
      · -- pc 21: no
        refine own_go (S' := s₁.setTop (mkF m 25 #[.val (.ref a1), .val (.ref a2), .val (.int (2 : Int32))] [(.int (0 : Int32))])) (fun target kt => ?_) ?_
        · show Steps p.tables e below (s₁.setTop (mkF m 21 #[.val (.ref a1), .val (.ref a2), .val (.int (2 : Int32))] [(.int y2_), (.int x2_)])) target
          refine XS.icmpNo X0.here hx rfl (hb hby d_leq_21) rfl (feq hc21'').1 ?_
          show Steps p.tables e below (s₁.setTop (mkF m 24 #[.val (.ref a1), .val (.ref a2), .val (.int (2 : Int32))] [])) target
          refine XS.iconst X0.here hx rfl (hb hby d_leq_24) ?_
          show Steps p.tables e below (s₁.setTop (mkF m 25 #[.val (.ref a1), .val (.ref a2), .val (.int (2 : Int32))] [(.int (0 : Int32))])) target
          exact kt
        obtain ⟨fs, hr, hrun, hended, hW, hsame⟩ := X0.leave (v := some (.int (0 : Int32))) (fun h => by rw [Bd.returns] at h; cases h)
        refine ⟨_, _, retN X0 hx (t := .boolean) Bd.returns (by simp) (hb hby d_leq_25) hr, hrun, hended, _, _, rfl, ?_, ⟨_, rfl⟩, hW, hsame.mono (by decide) (by decide)⟩
        show Q_leq Z a1 a2 ka kb x0_ x1_ x2_ y0_ y1_ y2_ h0 n0 _ s₁.heap _
        rw [e0]
        exact ⟨(congrArg (fun z => some (Value.int z)) (by first | (simp only [own_leq, hc21, hc21', hc21'', not_true_eq_false, not_false_eq_true, and_self, and_true, true_and, and_false, false_and, or_self, or_true, true_or, or_false, false_or, if_true, if_false, ↓reduceIte]; done) | (simp [own_leq, hc21, hc21', hc21'']; done))), N0, rfl⟩
    · -- pc 21: no
      refine own_go (S' := s₁.setTop (mkF m 25 #[.val (.ref a1), .val (.ref a2), .val (.int (1 : Int32))] [(.int (0 : Int32))])) (fun target kt => ?_) ?_
      · show Steps p.tables e below (s₁.setTop (mkF m 21 #[.val (.ref a1), .val (.ref a2), .val (.int (1 : Int32))] [(.int y1_), (.int x1_)])) target
        refine XS.icmpNo X0.here hx rfl (hb hby d_leq_21) rfl (feq hc21').1 ?_
        show Steps p.tables e below (s₁.setTop (mkF m 24 #[.val (.ref a1), .val (.ref a2), .val (.int (1 : Int32))] [])) target
        refine XS.iconst X0.here hx rfl (hb hby d_leq_24) ?_
        show Steps p.tables e below (s₁.setTop (mkF m 25 #[.val (.ref a1), .val (.ref a2), .val (.int (1 : Int32))] [(.int (0 : Int32))])) target
        exact kt
      obtain ⟨fs, hr, hrun, hended, hW, hsame⟩ := X0.leave (v := some (.int (0 : Int32))) (fun h => by rw [Bd.returns] at h; cases h)
      refine ⟨_, _, retN X0 hx (t := .boolean) Bd.returns (by simp) (hb hby d_leq_25) hr, hrun, hended, _, _, rfl, ?_, ⟨_, rfl⟩, hW, hsame.mono (by decide) (by decide)⟩
      show Q_leq Z a1 a2 ka kb x0_ x1_ x2_ y0_ y1_ y2_ h0 n0 _ s₁.heap _
      rw [e0]
      exact ⟨(congrArg (fun z => some (Value.int z)) (by first | (simp only [own_leq, hc21, hc21', not_true_eq_false, not_false_eq_true, and_self, and_true, true_and, and_false, false_and, or_self, or_true, true_or, or_false, false_or, if_true, if_false, ↓reduceIte]; done) | (simp [own_leq, hc21, hc21']; done))), N0, rfl⟩
  · -- pc 21: no
    refine own_go (S' := s₁.setTop (mkF m 25 #[.val (.ref a1), .val (.ref a2), .val (.int (0 : Int32))] [(.int (0 : Int32))])) (fun target kt => ?_) ?_
    · show Steps p.tables e below (s₁.setTop (mkF m 21 #[.val (.ref a1), .val (.ref a2), .val (.int (0 : Int32))] [(.int y0_), (.int x0_)])) target
      refine XS.icmpNo X0.here hx rfl (hb hby d_leq_21) rfl (feq hc21).1 ?_
      show Steps p.tables e below (s₁.setTop (mkF m 24 #[.val (.ref a1), .val (.ref a2), .val (.int (0 : Int32))] [])) target
      refine XS.iconst X0.here hx rfl (hb hby d_leq_24) ?_
      show Steps p.tables e below (s₁.setTop (mkF m 25 #[.val (.ref a1), .val (.ref a2), .val (.int (0 : Int32))] [(.int (0 : Int32))])) target
      exact kt
    obtain ⟨fs, hr, hrun, hended, hW, hsame⟩ := X0.leave (v := some (.int (0 : Int32))) (fun h => by rw [Bd.returns] at h; cases h)
    refine ⟨_, _, retN X0 hx (t := .boolean) Bd.returns (by simp) (hb hby d_leq_25) hr, hrun, hended, _, _, rfl, ?_, ⟨_, rfl⟩, hW, hsame.mono (by decide) (by decide)⟩
    show Q_leq Z a1 a2 ka kb x0_ x1_ x2_ y0_ y1_ y2_ h0 n0 _ s₁.heap _
    rw [e0]
    exact ⟨(congrArg (fun z => some (Value.int z)) (by first | (simp only [own_leq, hc21, not_true_eq_false, not_false_eq_true, and_self, and_true, true_and, and_false, false_and, or_self, or_true, true_or, or_false, false_or, if_true, if_false, ↓reduceIte]; done) | (simp [own_leq, hc21]; done))), N0, rfl⟩
-- java/lang/String.equals:(Ljava/lang/Object;)Z
theorem d_eqs_0 : decode jdk_42_method_66_code 0 = .ok (.aload_n 0, 1) := by decide +kernel
theorem d_eqs_1 : decode jdk_42_method_66_code 1 = .ok (.aload_n 1, 1) := by decide +kernel
theorem d_eqs_2 : decode jdk_42_method_66_code 2 = .ok (.if_acmp .ne 5, 3) := by decide +kernel
theorem d_eqs_5 : decode jdk_42_method_66_code 5 = .ok (.iconst 1, 1) := by decide +kernel
theorem d_eqs_6 : decode jdk_42_method_66_code 6 = .ok (.ireturn, 1) := by decide +kernel
theorem d_eqs_7 : decode jdk_42_method_66_code 7 = .ok (.aload_n 1, 1) := by decide +kernel
theorem d_eqs_8 : decode jdk_42_method_66_code 8 = .ok (.instanceof 10, 3) := by decide +kernel
theorem d_eqs_11 : decode jdk_42_method_66_code 11 = .ok (.ifCond .eq 43, 3) := by decide +kernel
theorem d_eqs_14 : decode jdk_42_method_66_code 14 = .ok (.aload_n 1, 1) := by decide +kernel
theorem d_eqs_15 : decode jdk_42_method_66_code 15 = .ok (.checkcast 10, 3) := by decide +kernel
theorem d_eqs_18 : decode jdk_42_method_66_code 18 = .ok (.astore_n 2, 1) := by decide +kernel
theorem d_eqs_19 : decode jdk_42_method_66_code 19 = .ok (.getstatic 38, 3) := by decide +kernel
theorem d_eqs_22 : decode jdk_42_method_66_code 22 = .ok (.ifCond .eq 14, 3) := by decide +kernel
theorem d_eqs_25 : decode jdk_42_method_66_code 25 = .ok (.aload_n 0, 1) := by decide +kernel
theorem d_eqs_26 : decode jdk_42_method_66_code 26 = .ok (.getfield 15, 3) := by decide +kernel
theorem d_eqs_29 : decode jdk_42_method_66_code 29 = .ok (.aload_n 2, 1) := by decide +kernel
theorem d_eqs_30 : decode jdk_42_method_66_code 30 = .ok (.getfield 15, 3) := by decide +kernel
theorem d_eqs_33 : decode jdk_42_method_66_code 33 = .ok (.if_icmp .ne 21, 3) := by decide +kernel
theorem d_eqs_36 : decode jdk_42_method_66_code 36 = .ok (.aload_n 0, 1) := by decide +kernel
theorem d_eqs_37 : decode jdk_42_method_66_code 37 = .ok (.getfield 9, 3) := by decide +kernel
theorem d_eqs_40 : decode jdk_42_method_66_code 40 = .ok (.aload_n 2, 1) := by decide +kernel
theorem d_eqs_41 : decode jdk_42_method_66_code 41 = .ok (.getfield 9, 3) := by decide +kernel
theorem d_eqs_44 : decode jdk_42_method_66_code 44 = .ok (.invokestatic 541, 3) := by decide +kernel
theorem d_eqs_47 : decode jdk_42_method_66_code 47 = .ok (.ifCond .eq 7, 3) := by decide +kernel
theorem d_eqs_50 : decode jdk_42_method_66_code 50 = .ok (.iconst 1, 1) := by decide +kernel
theorem d_eqs_51 : decode jdk_42_method_66_code 51 = .ok (.goto 4, 3) := by decide +kernel
theorem d_eqs_54 : decode jdk_42_method_66_code 54 = .ok (.iconst 0, 1) := by decide +kernel
theorem d_eqs_55 : decode jdk_42_method_66_code 55 = .ok (.ireturn, 1) := by decide +kernel
theorem pn_eqs : plainName "java/lang/String" = true := by first | (simp [plainName, overriddenIn]; done) | decide +kernel
theorem ef_eqs (m : MethodId) (a1 : Addr) (a2 : Addr) : entryFrame m #[(.ref a1), (.ref a2)] 3 = mkF m 0 #[.val (.ref a1), .val (.ref a2), .unset] [] := by first | (simp [entryFrame, mkF, argsToLocals, Value.category]; done) | rfl
def Q_eqs (Z : State) (a1 : Addr) (a2 : Addr) (v1_ : Addr) (v2_ : Addr) (ka : ClassId) (kb : ClassId) (x0_ : Int32) (x1_ : Int32) (x2_ : Int32) (y0_ : Int32) (y1_ : Int32) (y2_ : Int32) (w1 : Int32) (h0 : Heap) (n0 : Nat) (v : Option Value) (h : Heap) (L : List Loc) : Prop := v = some (.int (own_eqs a1 a2 x0_ x1_ x2_ y0_ y1_ y2_)) ∧ Fr n0 L ∧ h = h0
set_option maxRecDepth 65536 in
set_option maxHeartbeats 40000000 in
theorem rm_eqs (l : Launch) (Z : State) (a0 : Array Value) (hw : ∀ d ∈ tables_1, d.before a0 Z = true) (ws : List Jvm.Cond) (a1 : Addr) (a2 : Addr) (v1_ : Addr) (v2_ : Addr) (ka : ClassId) (kb : ClassId) (x0_ : Int32) (x1_ : Int32) (x2_ : Int32) (y0_ : Int32) (y1_ : Int32) (y2_ : Int32) (w1 : Int32) (h0 : Heap) (n0 : Nat) (Z0 : n0 ≤ h0.size) (E1 : Exa Z h0 a1 "java/lang/String") (E2 : Exa Z h0 a2 "java/lang/String") (C1 : Fld Z h0 a1 "java/lang/String" "coder" "B" (.int (0 : Int32))) (C2 : Fld Z h0 a2 "java/lang/String" "coder" "B" (.int (0 : Int32))) (G1 : Fld Z h0 a1 "java/lang/String" "value" "[B" (.ref v1_)) (G2 : Fld Z h0 a2 "java/lang/String" "value" "[B" (.ref v2_)) (V1 : Arv Z h0 v1_ ka .byte (3 : Int32) [(.int x0_), (.int x1_), (.int x2_)] (.int (0 : Int32))) (V2 : Arv Z h0 v2_ kb .byte (3 : Int32) [(.int y0_), (.int y1_), (.int y2_)] (.int (0 : Int32))) (S1 : Sta Z h0 "java/lang/String" "COMPACT_STRINGS" "Z" (.int w1)) (hw1 : (¬ w1 = (0 : Int32))) :
    MetFree l (⟨"java/lang/String", "equals", "(Ljava/lang/Object;)Z"⟩ : MethodName) (head1 (Jvm.Cond.code (⟨"java/lang/String", "equals", "(Ljava/lang/Object;)Z"⟩ : MethodName) jdk_42_method_66_code 3 (some .boolean) :: ws) ({ frames := 1, cells := 0, slots := 0, locals := 14 } : Room)) (fun a U => a = #[(.ref a1), (.ref a2)] ∧ Z.Warmed39 U.vm ∧ U.heap = h0) (fun _ _ _ _ _ => True) (fun _ U o U' => ∃ v L, o = .returned v ∧ Q_eqs Z a1 a2 v1_ v2_ ka kb x0_ x1_ x2_ y0_ y1_ y2_ w1 h0 n0 v U'.heap L ∧ FrameEnd U o U' L ({ frames := 1, cells := 0, slots := 0, locals := 14 } : Room).cells ({ frames := 1, cells := 0, slots := 0, locals := 14 } : Room).slots) := by
  refine MetFree.of_bodySF (plainFor_of_name pn_eqs) hisR ?_
  intro p e s m args below meth c s₁ Bd hml0 hP hK
  obtain ⟨rfl, hZ, hh⟩ := hP
  have hx := Bd.exec
  have hby := Bd.bytes
  have hml : c.maxLocals = 3 := hml0
  have hown : s.vm.findClass "java/lang/String" = some m.cls := findClass_of_methodNamed Bd.named
  have hnm := (name_of_methodNamed Bd.named Bd.method).1
  have X0 : Stand p l e ({ frames := 1, cells := 0, slots := 0, locals := 14 } : Room) s m #[(.ref a1), (.ref a2)] below meth c s₁ [] 0 0 := Stand.of_body Bd
  have e0 : s₁.heap = h0 := by rw [← hh, Bd.state]; rfl
  have N0 := Fr.nil n0
  refine own_in ?_
  refine own_go (S' := s₁.setTop (mkF m 0 #[.val (.ref a1), .val (.ref a2), .unset] [])) (fun tgt_ stp_ => castTop (ef_eqs m a1 a2) stp_) ?_
  refine own_go (S' := s₁.setTop (mkF m 2 #[.val (.ref a1), .val (.ref a2), .unset] [(.ref a2), (.ref a1)])) (fun target kt => ?_) ?_
  · show Steps p.tables e below (s₁.setTop (mkF m 0 #[.val (.ref a1), .val (.ref a2), .unset] [])) target
    refine XS.aloadN X0.here hx rfl (hb hby d_eqs_0) rfl rfl ?_
    show Steps p.tables e below (s₁.setTop (mkF m 1 #[.val (.ref a1), .val (.ref a2), .unset] [(.ref a1)])) target
    refine XS.aloadN X0.here hx rfl (hb hby d_eqs_1) rfl rfl ?_
    show Steps p.tables e below (s₁.setTop (mkF m 2 #[.val (.ref a1), .val (.ref a2), .unset] [(.ref a2), (.ref a1)])) target
    exact kt
  rcases Classical.em (a1 = a2) with hae | hae
  · skip
    refine own_go (S' := s₁.setTop (mkF m 6 #[.val (.ref a1), .val (.ref a2), .unset] [(.int (1 : Int32))])) (fun target kt => ?_) ?_
    · show Steps p.tables e below (s₁.setTop (mkF m 2 #[.val (.ref a1), .val (.ref a2), .unset] [(.ref a2), (.ref a1)])) target
      refine Jvm.RoadKit.acmp (g := (mkF m 2 #[.val (.ref a1), .val (.ref a2), .unset] [(.ref a2), (.ref a1)])) X0 hx rfl rfl rfl (pc0 := 2) (pc' := 5) (same := true) rfl (hb hby d_eqs_2) rfl (decide_eq_true (congrArg Value.ref hae)) (by decide) (by decide) ?_
      show Steps p.tables e below (s₁.setTop (mkF m 5 #[.val (.ref a1), .val (.ref a2), .unset] [])) target
      refine XS.iconst X0.here hx rfl (hb hby d_eqs_5) ?_
      show Steps p.tables e below (s₁.setTop (mkF m 6 #[.val (.ref a1), .val (.ref a2), .unset] [(.int (1 : Int32))])) target
      exact kt
    obtain ⟨fs, hr, hrun, hended, hW, hsame⟩ := X0.leave (v := some (.int (1 : Int32))) (fun h => by rw [Bd.returns] at h; cases h)
    refine ⟨_, _, retN X0 hx (t := .boolean) Bd.returns (by simp) (hb hby d_eqs_6) hr, hrun, hended, _, _, rfl, ?_, ⟨_, rfl⟩, hW, hsame.mono (by decide) (by decide)⟩
    show Q_eqs Z a1 a2 v1_ v2_ ka kb x0_ x1_ x2_ y0_ y1_ y2_ w1 h0 n0 _ s₁.heap _
    rw [e0]
    exact ⟨(congrArg (fun z => some (Value.int z)) (by first | (simp only [own_eqs, hae, not_true_eq_false, not_false_eq_true, and_self, and_true, true_and, and_false, false_and, or_self, or_true, true_or, or_false, false_or, if_true, if_false, ↓reduceIte]; done) | (simp [own_eqs, hae]; done))), N0, rfl⟩
  · skip
    obtain ⟨T_1, X_1, e_1, st_1⟩ := instY X0 hx hZ hown (hw _ (List.mem_of_getElem? (i := 34) rfl)) e0 (Ins.self E2) (g := (mkF m 8 #[.val (.ref a1), .val (.ref a2), .unset] [(.ref a2)])) rfl rfl (hb hby d_eqs_8)
    obtain ⟨T_2, X_2, e_2, st_2⟩ := castY X_1 hx hZ hown (hw _ (List.mem_of_getElem? (i := 34) rfl)) e_1 (Ins.self E2) (g := (mkF m 15 #[.val (.ref a1), .val (.ref a2), .unset] [(.ref a2)])) rfl rfl (hb hby d_eqs_15)
    obtain ⟨T_3, X_3, e_3, st_3⟩ := getS2 X_2 hx hZ hown (host := "") (Or.inl (hw _ (List.mem_of_getElem? (i := 36) rfl))) Via.refl e_2 S1 (g := (mkF m 19 #[.val (.ref a1), .val (.ref a2), .val (.ref a2)] [])) rfl (hb hby d_eqs_19)
    obtain ⟨T_4, X_4, e_4, st_4⟩ := getF X_3 hx hZ hown (host := "") (Or.inl (hw _ (List.mem_of_getElem? (i := 37) rfl))) Via.refl e_3 C1 (g := (mkF m 26 #[.val (.ref a1), .val (.ref a2), .val (.ref a2)] [(.ref a1)])) rfl rfl (hb hby d_eqs_26)
    obtain ⟨T_5, X_5, e_5, st_5⟩ := getF X_4 hx hZ hown (host := "") (Or.inl (hw _ (List.mem_of_getElem? (i := 37) rfl))) Via.refl e_4 C2 (g := (mkF m 30 #[.val (.ref a1), .val (.ref a2), .val (.ref a2)] [(.ref a2), (.int (0 : Int32))])) rfl rfl (hb hby d_eqs_30)
    obtain ⟨T_6, X_6, e_6, st_6⟩ := getF X_5 hx hZ hown (host := "") (Or.inl (hw _ (List.mem_of_getElem? (i := 38) rfl))) Via.refl e_5 G1 (g := (mkF m 37 #[.val (.ref a1), .val (.ref a2), .val (.ref a2)] [(.ref a1)])) rfl rfl (hb hby d_eqs_37)
    obtain ⟨T_7, X_7, e_7, st_7⟩ := getF X_6 hx hZ hown (host := "") (Or.inl (hw _ (List.mem_of_getElem? (i := 38) rfl))) Via.refl e_6 G2 (g := (mkF m 41 #[.val (.ref a1), .val (.ref a2), .val (.ref a2)] [(.ref a2), (.ref v1_)])) rfl rfl (hb hby d_eqs_41)
    obtain ⟨_, _, ⟨T_8, L_8, k_8, n_8⟩, -, X_8, ⟨Lc_8, hQ_8, l_8, y_8, z_8⟩, st_8⟩ := Jvm.LawKit.callS X_7 hx (y := (⟨"java/lang/StringLatin1", "equals", "([B[B)Z"⟩ : MethodName)) hown (mvT hZ (hw _ (List.mem_of_getElem? (i := 39) rfl))) (mvT hZ (hw _ (List.mem_of_getElem? (i := 40) rfl))) (mvT hZ (hw _ (List.mem_of_getElem? (i := 41) rfl))) (mvT hZ (hw _ (List.mem_of_getElem? (i := 42) rfl))) (by decide) (backOf (W := 0) (rm_leq l Z a0 hw [] v1_ v2_ ka kb x0_ x1_ x2_ y0_ y1_ y2_ h0 n0 Z0 V1 V2) hZ (hw _ (List.mem_of_getElem? (i := 42) rfl)) (hw _ (List.mem_of_getElem? (i := 41) rfl)) (by decide) (by decide)) (g := (mkF m 44 #[.val (.ref a1), .val (.ref a2), .val (.ref a2)] [(.ref v2_), (.ref v1_)])) rfl (by rw [hml]; rfl) (argsL := [(.ref v1_), (.ref v2_)]) (rest := []) (lenOf pd_ABAB_Z rfl) rfl (by show 2 * 0 + _ ≤ _; exact Nat.le_of_eq rfl) (hb hby d_eqs_44) (fun _ _ => ⟨rfl, e_7, (by decide : 0 + 0 ≤ _), (by decide : 0 + 0 ≤ _)⟩)
    dsimp only [Pt.U, Pt.locs, Pt.cells, Pt.slots] at X_8 l_8 y_8 z_8 st_8 hQ_8
    subst y_8 z_8
    obtain ⟨rfl, N_8q, p_8_0⟩ := hQ_8
    have N_8 : Fr n0 L_8 := by rw [l_8]; exact Fr.app N0 N_8q
    clear l_8
    refine own_go (S' := T_8.setTop (mkF m 47 #[.val (.ref a1), .val (.ref a2), .val (.ref a2)] [(.int (own_leq x0_ x1_ x2_ y0_ y1_ y2_))])) (fun target kt => ?_) ?_
    · show Steps p.tables e below (s₁.setTop (mkF m 2 #[.val (.ref a1), .val (.ref a2), .unset] [(.ref a2), (.ref a1)])) target
      refine Jvm.RoadKit.acmp (g := (mkF m 2 #[.val (.ref a1), .val (.ref a2), .unset] [(.ref a2), (.ref a1)])) X0 hx rfl rfl rfl (pc0 := 2) (pc' := 7) (same := false) rfl (hb hby d_eqs_2) rfl (decide_eq_false fun q => hae (Value.ref.inj q)) (by decide) (by decide) ?_
      show Steps p.tables e below (s₁.setTop (mkF m 7 #[.val (.ref a1), .val (.ref a2), .unset] [])) target
      refine XS.aloadN X0.here hx rfl (hb hby d_eqs_7) rfl rfl ?_
      show Steps p.tables e below (s₁.setTop (mkF m 8 #[.val (.ref a1), .val (.ref a2), .unset] [(.ref a2)])) target
      refine st_1 _ ?_
      show Steps p.tables e below (T_1.setTop (mkF m 11 #[.val (.ref a1), .val (.ref a2), .unset] [(.int (1 : Int32))])) target
      refine XS.ifNo X_1.here hx rfl (hb hby d_eqs_11) rfl ((if0 _ _).trans (feq (by decide : ¬ ((1 : Int32) = (0 : Int32)))).1) ?_
      show Steps p.tables e below (T_1.setTop (mkF m 14 #[.val (.ref a1), .val (.ref a2), .unset] [])) target
      refine XS.aloadN X_1.here hx rfl (hb hby d_eqs_14) rfl rfl ?_
      show Steps p.tables e below (T_1.setTop (mkF m 15 #[.val (.ref a1), .val (.ref a2), .unset] [(.ref a2)])) target
      refine st_2 _ ?_
      show Steps p.tables e below (T_2.setTop (mkF m 18 #[.val (.ref a1), .val (.ref a2), .unset] [(.ref a2)])) target
      refine XS.astoreN X_2.here hx rfl (hb hby d_eqs_18) rfl rfl (l' := #[.val (.ref a1), .val (.ref a2), .val (.ref a2)]) rfl ?_
      show Steps p.tables e below (T_2.setTop (mkF m 19 #[.val (.ref a1), .val (.ref a2), .val (.ref a2)] [])) target
      refine st_3 _ ?_
      show Steps p.tables e below (T_3.setTop (mkF m 22 #[.val (.ref a1), .val (.ref a2), .val (.ref a2)] [(.int w1)])) target
      refine XS.ifNo X_3.here hx rfl (hb hby d_eqs_22) rfl ((if0 _ _).trans (feq (hw1 : ¬ (w1 = (0 : Int32)))).1) ?_
      show Steps p.tables e below (T_3.setTop (mkF m 25 #[.val (.ref a1), .val (.ref a2), .val (.ref a2)] [])) target
      refine XS.aloadN X_3.here hx rfl (hb hby d_eqs_25) rfl rfl ?_
      show Steps p.tables e below (T_3.setTop (mkF m 26 #[.val (.ref a1), .val (.ref a2), .val (.ref a2)] [(.ref a1)])) target
      refine st_4 _ ?_
      show Steps p.tables e below (T_4.setTop (mkF m 29 #[.val (.ref a1), .val (.ref a2), .val (.ref a2)] [(.int (0 : Int32))])) target
      refine XS.aloadN X_4.here hx rfl (hb hby d_eqs_29) rfl rfl ?_
      show Steps p.tables e below (T_4.setTop (mkF m 30 #[.val (.ref a1), .val (.ref a2), .val (.ref a2)] [(.ref a2), (.int (0 : Int32))])) target
      refine st_5 _ ?_
      show Steps p.tables e below (T_5.setTop (mkF m 33 #[.val (.ref a1), .val (.ref a2), .val (.ref a2)] [(.int (0 : Int32)), (.int (0 : Int32))])) target
      refine XS.icmpNo X_5.here hx rfl (hb hby d_eqs_33) rfl (teq (by decide : (0 : Int32) = (0 : Int32))).2 ?_
      show Steps p.tables e below (T_5.setTop (mkF m 36 #[.val (.ref a1), .val (.ref a2), .val (.ref a2)] [])) target
      refine XS.aloadN X_5.here hx rfl (hb hby d_eqs_36) rfl rfl ?_
      show Steps p.tables e below (T_5.setTop (mkF m 37 #[.val (.ref a1), .val (.ref a2), .val (.ref a2)] [(.ref a1)])) target
      refine st_6 _ ?_
      show Steps p.tables e below (T_6.setTop (mkF m 40 #[.val (.ref a1), .val (.ref a2), .val (.ref a2)] [(.ref v1_)])) target
      refine XS.aloadN X_6.here hx rfl (hb hby d_eqs_40) rfl rfl ?_
      show Steps p.tables e below (T_6.setTop (mkF m 41 #[.val (.ref a1), .val (.ref a2), .val (.ref a2)] [(.ref a2), (.ref v1_)])) target
      refine st_7 _ ?_
      show Steps p.tables e below (T_7.setTop (mkF m 44 #[.val (.ref a1), .val (.ref a2), .val (.ref a2)] [(.ref v2_), (.ref v1_)])) target
      refine st_8 _ ?_
      show Steps p.tables e below (T_8.setTop (mkF m 47 #[.val (.ref a1), .val (.ref a2), .val (.ref a2)] [(.int (own_leq x0_ x1_ x2_ y0_ y1_ y2_))])) target
      exact kt
    by_cases hc47 : (own_leq x0_ x1_ x2_ y0_ y1_ y2_) = (0 : Int32)
    · -- pc 47: yes
      refine own_go (S' := T_8.setTop (mkF m 55 #[.val (.ref a1), .val (.ref a2), .val (.ref a2)] [(.int (0 : Int32))])) (fun target kt => ?_) ?_
      · show Steps p.tables e below (T_8.setTop (mkF m 47 #[.val (.ref a1), .val (.ref a2), .val (.ref a2)] [(.int (own_leq x0_ x1_ x2_ y0_ y1_ y2_))])) target
        refine XS.ifYes X_8.here hx rfl (pc0 := 47) (pc' := 54) rfl (hb hby d_eqs_47) rfl ((if0 _ _).trans (teq hc47).1) (by decide) (by decide) ?_
        show Steps p.tables e below (T_8.setTop (mkF m 54 #[.val (.ref a1), .val (.ref a2), .val (.ref a2)] [])) target
        refine XS.iconst X_8.here hx rfl (hb hby d_eqs_54) ?_
        show Steps p.tables e below (T_8.setTop (mkF m 55 #[.val (.ref a1), .val (.ref a2), .val (.ref a2)] [(.int (0 : Int32))])) target
        exact kt
      obtain ⟨fs, hr, hrun, hended, hW, hsame⟩ := X_8.leave (v := some (.int (0 : Int32))) (fun h => by rw [Bd.returns] at h; cases h)
      refine ⟨_, _, retN X_8 hx (t := .boolean) Bd.returns (by simp) (hb hby d_eqs_55) hr, hrun, hended, _, _, rfl, ?_, ⟨_, rfl⟩, hW, hsame.mono (by decide) (by decide)⟩
      show Q_eqs Z a1 a2 v1_ v2_ ka kb x0_ x1_ x2_ y0_ y1_ y2_ w1 h0 n0 _ T_8.heap _
      rw [p_8_0]
      exact ⟨(congrArg (fun z => some (Value.int z)) (by first | (simp only [own_eqs, hae, hc47, not_true_eq_false, not_false_eq_true, and_self, and_true, true_and, and_false, false_and, or_self, or_true, true_or, or_false, false_or, if_true, if_false, ↓reduceIte]; done) | (simp [own_eqs, hae, hc47]; done))), N_8, rfl⟩
    · -- pc 47: no
      refine own_go (S' := T_8.setTop (mkF m 55 #[.val (.ref a1), .val (.ref a2), .val (.ref a2)] [(.int (1 : Int32))])) (fun target kt => ?_) ?_
      · show Steps p.tables e below (T_8.setTop (mkF m 47 #[.val (.ref a1), .val (.ref a2), .val (.ref a2)] [(.int (own_leq x0_ x1_ x2_ y0_ y1_ y2_))])) target
        refine XS.ifNo X_8.here hx rfl (hb hby d_eqs_47) rfl ((if0 _ _).trans (feq hc47).1) ?_
        show Steps p.tables e below (T_8.setTop (mkF m 50 #[.val (.ref a1), .val (.ref a2), .val (.ref a2)] [])) target
        refine XS.iconst X_8.here hx rfl (hb hby d_eqs_50) ?_
        show Steps p.tables e below (T_8.setTop (mkF m 51 #[.val (.ref a1), .val (.ref a2), .val (.ref a2)] [(.int (1 : Int32))])) target
        refine XS.goto X_8.here hx rfl (pc0 := 51) (pc' := 55) rfl (hb hby d_eqs_51) (by decide) (by decide) ?_
        show Steps p.tables e below (T_8.setTop (mkF m 55 #[.val (.ref a1), .val (.ref a2), .val (.ref a2)] [(.int (1 : Int32))])) target
        exact kt
      obtain ⟨fs, hr, hrun, hended, hW, hsame⟩ := X_8.leave (v := some (.int (1 : Int32))) (fun h => by rw [Bd.returns] at h; cases h)
      refine ⟨_, _, retN X_8 hx (t := .boolean) Bd.returns (by simp) (hb hby d_eqs_55) hr, hrun, hended, _, _, rfl, ?_, ⟨_, rfl⟩, hW, hsame.mono (by decide) (by decide)⟩
      show Q_eqs Z a1 a2 v1_ v2_ ka kb x0_ x1_ x2_ y0_ y1_ y2_ w1 h0 n0 _ T_8.heap _
      rw [p_8_0]
      exact ⟨(congrArg (fun z => some (Value.int z)) (by first | (simp only [own_eqs, hae, hc47, not_true_eq_false, not_false_eq_true, and_self, and_true, true_and, and_false, false_and, or_self, or_true, true_or, or_false, false_or, if_true, if_false, ↓reduceIte]; done) | (simp [own_eqs, hae, hc47]; done))), N_8, rfl⟩
-- com/example/cardwarden/cardwarden/wire/ErrorCodeIsSuccessPinLaw.law:(I)Z
theorem pn_law : plainName "com/example/cardwarden/cardwarden/wire/ErrorCodeIsSuccessPinLaw" = true := by first | (simp [plainName, overriddenIn]; done) | decide +kernel
theorem ef_law (m : MethodId) (x0 : Int32) : entryFrame m #[(.int x0)] maxLocals = mkF m 0 #[.val (.int x0), .unset, .unset, .unset, .unset] [] := by first | (simp [entryFrame, mkF, argsToLocals, Value.category, maxLocals]; done) | rfl
def Q_law (Z : State) (x0 : Int32) (oa0_ : Addr) (oa1_ : Addr) (oa2_ : Addr) (oa3_ : Addr) (oa4_ : Addr) (oa5_ : Addr) (oc0_ : Addr) (oc1_ : Addr) (oc2_ : Addr) (oc3_ : Addr) (oc4_ : Addr) (oc5_ : Addr) (ov0_ : Addr) (ov1_ : Addr) (ov2_ : Addr) (ov3_ : Addr) (ov4_ : Addr) (ov5_ : Addr) (ok0_ : ClassId) (ok1_ : ClassId) (ok2_ : ClassId) (ok3_ : ClassId) (ok4_ : ClassId) (ok5_ : ClassId) (w1 : Int32) (h0 : Heap) (n0 : Nat) (v : Option Value) (h : Heap) (L : List Loc) : Prop := v = some (.int (1 : Int32)) ∧ Fr n0 L
set_option maxRecDepth 65536 in
set_option maxHeartbeats 40000000 in
theorem rm_law (l : Launch) (Z : State) (a0 : Array Value) (hw : ∀ d ∈ tables_1, d.before a0 Z = true) (ws : List Jvm.Cond) (x0 : Int32) (oa0_ : Addr) (oa1_ : Addr) (oa2_ : Addr) (oa3_ : Addr) (oa4_ : Addr) (oa5_ : Addr) (oc0_ : Addr) (oc1_ : Addr) (oc2_ : Addr) (oc3_ : Addr) (oc4_ : Addr) (oc5_ : Addr) (ov0_ : Addr) (ov1_ : Addr) (ov2_ : Addr) (ov3_ : Addr) (ov4_ : Addr) (ov5_ : Addr) (ok0_ : ClassId) (ok1_ : ClassId) (ok2_ : ClassId) (ok3_ : ClassId) (ok4_ : ClassId) (ok5_ : ClassId) (w1 : Int32) (h0 : Heap) (n0 : Nat) (Z0 : n0 ≤ h0.size) (S0_ : Sta Z h0 "com/example/cardwarden/cardwarden/wire/ErrorCode" "SUCCESS" "Lcom/example/cardwarden/cardwarden/wire/ErrorCode;" (.ref oa0_)) (EA0 : Exa Z h0 oa0_ "com/example/cardwarden/cardwarden/wire/ErrorCode") (FC0 : Fld Z h0 oa0_ "com/example/cardwarden/cardwarden/wire/ErrorCode" "code" "Ljava/lang/String;" (.ref oc0_)) (ES0 : Exa Z h0 oc0_ "java/lang/String") (CO0 : Fld Z h0 oc0_ "java/lang/String" "coder" "B" (.int (0 : Int32))) (VA0 : Fld Z h0 oc0_ "java/lang/String" "value" "[B" (.ref ov0_)) (AV0 : Arv Z h0 ov0_ ok0_ .byte (3 : Int32) [(.int (48 : Int32)), (.int (48 : Int32)), (.int (48 : Int32))] (.int (0 : Int32))) (S1_ : Sta Z h0 "com/example/cardwarden/cardwarden/wire/ErrorCode" "DUPLICATE_MESSAGE_ID" "Lcom/example/cardwarden/cardwarden/wire/ErrorCode;" (.ref oa1_)) (EA1 : Exa Z h0 oa1_ "com/example/cardwarden/cardwarden/wire/ErrorCode") (FC1 : Fld Z h0 oa1_ "com/example/cardwarden/cardwarden/wire/ErrorCode" "code" "Ljava/lang/String;" (.ref oc1_)) (ES1 : Exa Z h0 oc1_ "java/lang/String") (CO1 : Fld Z h0 oc1_ "java/lang/String" "coder" "B" (.int (0 : Int32))) (VA1 : Fld Z h0 oc1_ "java/lang/String" "value" "[B" (.ref ov1_)) (AV1 : Arv Z h0 ov1_ ok1_ .byte (3 : Int32) [(.int (49 : Int32)), (.int (48 : Int32)), (.int (49 : Int32))] (.int (0 : Int32))) (NE1 : oa1_ ≠ oa0_) (S2_ : Sta Z h0 "com/example/cardwarden/cardwarden/wire/ErrorCode" "INVALID_HEADER_FIELD" "Lcom/example/cardwarden/cardwarden/wire/ErrorCode;" (.ref oa2_)) (EA2 : Exa Z h0 oa2_ "com/example/cardwarden/cardwarden/wire/ErrorCode") (FC2 : Fld Z h0 oa2_ "com/example/cardwarden/cardwarden/wire/ErrorCode" "code" "Ljava/lang/String;" (.ref oc2_)) (ES2 : Exa Z h0 oc2_ "java/lang/String") (CO2 : Fld Z h0 oc2_ "java/lang/String" "coder" "B" (.int (0 : Int32))) (VA2 : Fld Z h0 oc2_ "java/lang/String" "value" "[B" (.ref ov2_)) (AV2 : Arv Z h0 ov2_ ok2_ .byte (3 : Int32) [(.int (49 : Int32)), (.int (48 : Int32)), (.int (50 : Int32))] (.int (0 : Int32))) (NE2 : oa2_ ≠ oa0_) (S3_ : Sta Z h0 "com/example/cardwarden/cardwarden/wire/ErrorCode" "INVALID_BODY_FIELD" "Lcom/example/cardwarden/cardwarden/wire/ErrorCode;" (.ref oa3_)) (EA3 : Exa Z h0 oa3_ "com/example/cardwarden/cardwarden/wire/ErrorCode") (FC3 : Fld Z h0 oa3_ "com/example/cardwarden/cardwarden/wire/ErrorCode" "code" "Ljava/lang/String;" (.ref oc3_)) (ES3 : Exa Z h0 oc3_ "java/lang/String") (CO3 : Fld Z h0 oc3_ "java/lang/String" "coder" "B" (.int (0 : Int32))) (VA3 : Fld Z h0 oc3_ "java/lang/String" "value" "[B" (.ref ov3_)) (AV3 : Arv Z h0 ov3_ ok3_ .byte (3 : Int32) [(.int (49 : Int32)), (.int (48 : Int32)), (.int (51 : Int32))] (.int (0 : Int32))) (NE3 : oa3_ ≠ oa0_) (S4_ : Sta Z h0 "com/example/cardwarden/cardwarden/wire/ErrorCode" "MALFORMED_REQUEST" "Lcom/example/cardwarden/cardwarden/wire/ErrorCode;" (.ref oa4_)) (EA4 : Exa Z h0 oa4_ "com/example/cardwarden/cardwarden/wire/ErrorCode") (FC4 : Fld Z h0 oa4_ "com/example/cardwarden/cardwarden/wire/ErrorCode" "code" "Ljava/lang/String;" (.ref oc4_)) (ES4 : Exa Z h0 oc4_ "java/lang/String") (CO4 : Fld Z h0 oc4_ "java/lang/String" "coder" "B" (.int (0 : Int32))) (VA4 : Fld Z h0 oc4_ "java/lang/String" "value" "[B" (.ref ov4_)) (AV4 : Arv Z h0 ov4_ ok4_ .byte (3 : Int32) [(.int (49 : Int32)), (.int (48 : Int32)), (.int (52 : Int32))] (.int (0 : Int32))) (NE4 : oa4_ ≠ oa0_) (S5_ : Sta Z h0 "com/example/cardwarden/cardwarden/wire/ErrorCode" "WRONG_MESSAGE_FUNCTION" "Lcom/example/cardwarden/cardwarden/wire/ErrorCode;" (.ref oa5_)) (EA5 : Exa Z h0 oa5_ "com/example/cardwarden/cardwarden/wire/ErrorCode") (FC5 : Fld Z h0 oa5_ "com/example/cardwarden/cardwarden/wire/ErrorCode" "code" "Ljava/lang/String;" (.ref oc5_)) (ES5 : Exa Z h0 oc5_ "java/lang/String") (CO5 : Fld Z h0 oc5_ "java/lang/String" "coder" "B" (.int (0 : Int32))) (VA5 : Fld Z h0 oc5_ "java/lang/String" "value" "[B" (.ref ov5_)) (AV5 : Arv Z h0 ov5_ ok5_ .byte (3 : Int32) [(.int (49 : Int32)), (.int (48 : Int32)), (.int (53 : Int32))] (.int (0 : Int32))) (NE5 : oa5_ ≠ oa0_) (SC : Sta Z h0 "java/lang/String" "COMPACT_STRINGS" "Z" (.int w1)) (hw1 : (¬ w1 = (0 : Int32))) (hcw : (Jvm.Lit.compactW.before a0 Z = true)) (hheld : (Jvm.Lit.constHeld Z "com/example/cardwarden/cardwarden/wire/ErrorCodeIsSuccessPinLaw" 43)) (hZh : (Z.heap = h0)) (hn0 : (n0 = h0.size)) :
    MetFree l x (head1 (Jvm.Cond.code x code maxLocals ret :: ws) room_1) (fun a U => a = #[(.int x0)] ∧ (Z.Warmed39 U.vm ∧ U = Z) ∧ U.heap = h0) (fun _ _ _ _ _ => True) (fun _ U o U' => ∃ v L, o = .returned v ∧ Q_law Z x0 oa0_ oa1_ oa2_ oa3_ oa4_ oa5_ oc0_ oc1_ oc2_ oc3_ oc4_ oc5_ ov0_ ov1_ ov2_ ov3_ ov4_ ov5_ ok0_ ok1_ ok2_ ok3_ ok4_ ok5_ w1 h0 n0 v U'.heap L ∧ ReturnedEndW U o U' L room_1.cells room_1.slots) := by
  refine MetFree.of_bodySF (plainFor_of_name pn_law) hisR ?_
  intro p e s m args below meth c s₁ Bd hml0 hP hK
  obtain ⟨rfl, ⟨hZ, hZs⟩, hh⟩ := hP
  have hx := Bd.exec
  have hby := Bd.bytes
  have hml : c.maxLocals = 5 := hml0
  have hown : s.vm.findClass "com/example/cardwarden/cardwarden/wire/ErrorCodeIsSuccessPinLaw" = some m.cls := findClass_of_methodNamed Bd.named
  have hnm := (name_of_methodNamed Bd.named Bd.method).1
  have X0 : Stand p l e room_1 s m #[(.int x0)] below meth c s₁ [] 0 0 := Stand.of_body Bd
  have e0 : s₁.heap = h0 := by rw [← hh, Bd.state]; rfl
  have N0 := Fr.nil n0
  refine own_in ?_
  refine own_go (S' := s₁.setTop (mkF m 0 #[.val (.int x0), .unset, .unset, .unset, .unset] [])) (fun tgt_ stp_ => castTop (ef_law m x0) stp_) ?_
  refine own_go (S' := s₁.setTop (mkF m 8 #[.val (.int x0), .val (.int ((x0 &&& (2147483647 : Int32)) % (6 : Int32))), .unset, .unset, .unset] [])) (fun target kt => ?_) ?_
  · show Steps p.tables e below (s₁.setTop (mkF m 0 #[.val (.int x0), .unset, .unset, .unset, .unset] [])) target
    refine XS.iloadN X0.here hx rfl (hb hby at_0) rfl ?_
    show Steps p.tables e below (s₁.setTop (mkF m 1 #[.val (.int x0), .unset, .unset, .unset, .unset] [(.int x0)])) target
    refine X0.ldcInt hx hown (mvT hZ (hw _ (List.mem_of_getElem? (i := 0) rfl))) (g := (mkF m 1 #[.val (.int x0), .unset, .unset, .unset, .unset] [(.int x0)])) rfl (hb hby at_1) _ ?_
    show Steps p.tables e below (s₁.setTop (mkF m 3 #[.val (.int x0), .unset, .unset, .unset, .unset] [(.int (2147483647 : Int32)), (.int x0)])) target
    refine XS.iand X0.here hx rfl (hb hby at_3) rfl ?_
    show Steps p.tables e below (s₁.setTop (mkF m 4 #[.val (.int x0), .unset, .unset, .unset, .unset] [(.int (x0 &&& (2147483647 : Int32)))])) target
    refine XS.bipush X0.here hx rfl (hb hby at_4) ?_
    show Steps p.tables e below (s₁.setTop (mkF m 6 #[.val (.int x0), .unset, .unset, .unset, .unset] [(.int (6 : Int32)), (.int (x0 &&& (2147483647 : Int32)))])) target
    refine iremM X0 hx rfl (hb hby at_6) rfl (by decide) ?_
    show Steps p.tables e below (s₁.setTop (mkF m 7 #[.val (.int x0), .unset, .unset, .unset, .unset] [(.int ((x0 &&& (2147483647 : Int32)) % (6 : Int32)))])) target
    refine XS.istoreN X0.here hx rfl (hb hby at_7) rfl (l' := #[.val (.int x0), .val (.int ((x0 &&& (2147483647 : Int32)) % (6 : Int32))), .unset, .unset, .unset]) rfl ?_
    show Steps p.tables e below (s₁.setTop (mkF m 8 #[.val (.int x0), .val (.int ((x0 &&& (2147483647 : Int32)) % (6 : Int32))), .unset, .unset, .unset] [])) target
    exact kt
  rcases own_rem6 x0 with erem | erem | erem | erem | erem | erem
  · skip
    rw [erem]
    obtain ⟨_, _, ⟨T_1, L_1, k_1, n_1⟩, -, X_1, ⟨Lc_1, hQ_1, l_1, y_1, z_1⟩, st_1⟩ := Jvm.LawKit.callS X0 hx (y := (⟨"com/example/cardwarden/cardwarden/wire/ErrorCodeIsSuccessPinLaw", "pick", "(I)Lcom/example/cardwarden/cardwarden/wire/ErrorCode;"⟩ : MethodName)) hown (mvT hZ (hw _ (List.mem_of_getElem? (i := 1) rfl))) (mvT hZ (hw _ (List.mem_of_getElem? (i := 2) rfl))) (mvT hZ (hw _ (List.mem_of_getElem? (i := 3) rfl))) (mvT hZ (hw _ (List.mem_of_getElem? (i := 4) rfl))) (by decide) (backOf (W := 0) (rm_pick0 l Z a0 hw []  oa0_ h0 n0 Z0 S0_) hZ (hw _ (List.mem_of_getElem? (i := 4) rfl)) (hw _ (List.mem_of_getElem? (i := 3) rfl)) (by decide) (by decide)) (g := (mkF m 9 #[.val (.int x0), .val (.int (0 : Int32)), .unset, .unset, .unset] [(.int (0 : Int32))])) rfl (by rw [hml]; rfl) (argsL := [(.int (0 : Int32))]) (rest := []) (lenOf pd_I_LcomexamplecardwardencardwardenwireErrorCode rfl) rfl (by show 2 * 0 + _ ≤ _; exact Nat.le_of_eq rfl) (hb hby at_9) (fun _ _ => ⟨rfl, e0, (by decide : 0 + 0 ≤ _), (by decide : 0 + 0 ≤ _)⟩)
    dsimp only [Pt.U, Pt.locs, Pt.cells, Pt.slots] at X_1 l_1 y_1 z_1 st_1 hQ_1
    subst y_1 z_1
    obtain ⟨rfl, N_1q, p_1_0⟩ := hQ_1
    have N_1 : Fr n0 L_1 := by rw [l_1]; exact Fr.app N0 N_1q
    clear l_1
    obtain ⟨cq_2, kq_2, q_2a, q_2b, q_2c⟩ := isOf hZ p_1_0 EA0
    obtain ⟨_, _, ⟨T_2, L_2, k_2, n_2⟩, -, X_2, ⟨Lc_2, hQ_2, l_2, y_2, z_2⟩, st_2⟩ := X_1.virtualBack hx (y := (⟨"com/example/cardwarden/cardwarden/wire/ErrorCode", "isSuccess", "()Z"⟩ : MethodName)) (z := (⟨"com/example/cardwarden/cardwarden/wire/ErrorCode", "isSuccess", "()Z"⟩ : MethodName)) hown (mvT hZ (hw _ (List.mem_of_getElem? (i := 8) rfl))) (mvT hZ (hw _ (List.mem_of_getElem? (i := 9) rfl))) (notFace_of_selects (args := #[]) (mvT hZ (hw _ (List.mem_of_getElem? (i := 11) rfl)))) (mvT hZ (hw _ (List.mem_of_getElem? (i := 11) rfl))) (mvT hZ (hw _ (List.mem_of_getElem? (i := 10) rfl))) (by decide) (backOf (W := 0) (rm_is1 l Z a0 hw [] oa0_  h0 n0 Z0 S0_) hZ (hw _ (List.mem_of_getElem? (i := 12) rfl)) (hw _ (List.mem_of_getElem? (i := 6) rfl)) (by decide) (by decide)) q_2a q_2c (g := (mkF m 14 #[.val (.int x0), .val (.int (0 : Int32)), .val (.ref oa0_), .unset, .unset] [(.ref oa0_)])) rfl (by rw [hml]; rfl) (Steps.refl _) (argsL := []) (rest := []) (lenOf pd__Z rfl) rfl (by show 2 * 0 + _ ≤ _; exact Nat.le_of_eq rfl) (hb hby at_14) (fun _ _ => ⟨rfl, p_1_0, (by decide : 0 + 0 ≤ _), (by decide : 0 + 0 ≤ _)⟩)
    dsimp only [Pt.U, Pt.locs, Pt.cells, Pt.slots] at X_2 l_2 y_2 z_2 st_2 hQ_2
    subst y_2 z_2
    obtain ⟨rfl, N_2q, p_2_0⟩ := hQ_2
    have N_2 : Fr n0 L_2 := by rw [l_2]; exact Fr.app N_1 N_2q
    clear l_2
    obtain ⟨cq_3, kq_3, q_3a, q_3b, q_3c⟩ := isOf hZ p_2_0 EA0
    obtain ⟨_, _, ⟨T_3, L_3, k_3, n_3⟩, -, X_3, ⟨Lc_3, hQ_3, l_3, y_3, z_3⟩, st_3⟩ := X_2.virtualBack hx (y := (⟨"com/example/cardwarden/cardwarden/wire/ErrorCode", "code", "()Ljava/lang/String;"⟩ : MethodName)) (z := (⟨"com/example/cardwarden/cardwarden/wire/ErrorCode", "code", "()Ljava/lang/String;"⟩ : MethodName)) hown (mvT hZ (hw _ (List.mem_of_getElem? (i := 14) rfl))) (mvT hZ (hw _ (List.mem_of_getElem? (i := 15) rfl))) (notFace_of_selects (args := #[]) (mvT hZ (hw _ (List.mem_of_getElem? (i := 17) rfl)))) (mvT hZ (hw _ (List.mem_of_getElem? (i := 17) rfl))) (mvT hZ (hw _ (List.mem_of_getElem? (i := 16) rfl))) (by decide) (backOf (W := 1) (rm_cod l Z a0 hw [] oa0_ oc0_ h0 n0 Z0 FC0) hZ (hw _ (List.mem_of_getElem? (i := 18) rfl)) (hw _ (List.mem_of_getElem? (i := 6) rfl)) (by decide) (by decide)) q_3a q_3c (g := (mkF m 37 #[.val (.int x0), .val (.int (0 : Int32)), .val (.ref oa0_), .val (.int (1 : Int32)), .val (.int (1 : Int32))] [(.ref oa0_), (.int (1 : Int32))])) rfl (by rw [hml]; rfl) (Steps.refl _) (argsL := []) (rest := [(.int (1 : Int32))]) (lenOf pd__LjavalangString rfl) rfl (by show 2 * 0 + _ ≤ _; exact Nat.le_of_eq rfl) (hb hby at_37) (fun _ _ => ⟨rfl, p_2_0, (by decide : 0 + 0 ≤ _), (by decide : 0 + 0 ≤ _)⟩)
    dsimp only [Pt.U, Pt.locs, Pt.cells, Pt.slots] at X_3 l_3 y_3 z_3 st_3 hQ_3
    subst y_3 z_3
    obtain ⟨rfl, N_3q, p_3_0⟩ := hQ_3
    have N_3 : Fr n0 L_3 := by rw [l_3]; exact Fr.app N_2 N_3q
    clear l_3
    have wS : ∀ d ∈ Bundle.stringAtoms, d.before a0 Z = true := by
      intro d hd
      simp only [Bundle.stringAtoms, List.mem_cons, List.not_mem_nil, or_false] at hd
      rcases hd with rfl | rfl | rfl | rfl | rfl | rfl | rfl
      · exact hw _ (List.mem_of_getElem? (i := 22) rfl)
      · exact hw _ (List.mem_of_getElem? (i := 23) rfl)
      · exact hw _ (List.mem_of_getElem? (i := 24) rfl)
      · exact hw _ (List.mem_of_getElem? (i := 25) rfl)
      · exact hw _ (List.mem_of_getElem? (i := 26) rfl)
      · exact hw _ (List.mem_of_getElem? (i := 27) rfl)
      · exact hw _ (List.mem_of_getElem? (i := 28) rfl)
    have hS0 : s.Since s.vm 0 := ⟨State.Warmed39.refl s, fun j q hj hq => absurd (Array.getElem?_eq_some_iff.mp hq).1 (Nat.not_lt.mpr hj)⟩
    obtain ⟨as_4, T_4, h_4, k1_4, bs_4, kb_4, X_4, e_4, E_4, hS_4, hk_4, hZ_4, hown_4, A_4, Fc_4, Fv_4, V_4, -, -, -, st_4⟩ := ldcSV (s := s) (vm0 := s.vm) (own := "com/example/cardwarden/cardwarden/wire/ErrorCodeIsSuccessPinLaw") (text := "000") X_3 hx hZ hown (hw _ (List.mem_of_getElem? (i := 21) rfl)) wS p_3_0 (k0 := 0) hS0 (Nat.zero_le _) (by rw [hh, ← hn0]; exact N_3) (fun b cl q => by rw [hh, ← hZh]; exact q) (Ts := []) (by rw [hZs]; exact IB.start) (by simp) hheld hcw (vs := [(.int (48 : Int32)), (.int (48 : Int32)), (.int (48 : Int32))]) (z := (3 : Int32)) ⟨by decide, by decide⟩ (by decide) rfl (g := (mkF m 40 #[.val (.int x0), .val (.int (0 : Int32)), .val (.ref oa0_), .val (.int (1 : Int32)), .val (.int (1 : Int32))] [(.ref oc0_), (.int (1 : Int32))])) rfl (hb hby at_40) (n := 12) (by decide) (by decide) (by decide) (by decide)
    have hZ := hZ_4
    have hown := hown_4
    have Z_5 : n0 ≤ h_4.size := Nat.le_trans Z0 E_4.1
    have f_8 := (ES0.ext E_4)
    have f_9 := (CO0.ext E_4)
    have f_10 := (VA0.ext E_4)
    have f_11 := (AV0.ext E_4)
    have f_12 := (SC.ext E_4)
    obtain ⟨cq_7, kq_7, q_7a, q_7b, q_7c⟩ := isOf hZ e_4 f_8
    obtain ⟨_, _, ⟨T_7, L_7, k_7, n_7⟩, -, X_7, ⟨Lc_7, hQ_7, l_7, y_7, z_7⟩, st_7⟩ := X_4.virtualBack hx (y := (⟨"java/lang/String", "equals", "(Ljava/lang/Object;)Z"⟩ : MethodName)) (z := (⟨"java/lang/String", "equals", "(Ljava/lang/Object;)Z"⟩ : MethodName)) hown (mvT hZ (hw _ (List.mem_of_getElem? (i := 29) rfl))) (mvT hZ (hw _ (List.mem_of_getElem? (i := 30) rfl))) (notFace_of_selects (args := #[]) (mvT hZ (hw _ (List.mem_of_getElem? (i := 32) rfl)))) (mvT hZ (hw _ (List.mem_of_getElem? (i := 32) rfl))) (mvT hZ (hw _ (List.mem_of_getElem? (i := 31) rfl))) (by decide) (backOf (W := 1) (rm_eqs l Z a0 hw [] oc0_ as_4 ov0_ bs_4 ok0_ kb_4 (48 : Int32) (48 : Int32) (48 : Int32) (48 : Int32) (48 : Int32) (48 : Int32) w1 h_4 n0 Z_5 f_8 A_4 f_9 Fc_4 f_10 Fv_4 f_11 V_4 f_12 hw1) hZ (hw _ (List.mem_of_getElem? (i := 33) rfl)) (hw _ (List.mem_of_getElem? (i := 22) rfl)) (by decide) (by decide)) q_7a q_7c (g := (mkF m 42 #[.val (.int x0), .val (.int (0 : Int32)), .val (.ref oa0_), .val (.int (1 : Int32)), .val (.int (1 : Int32))] [(.ref as_4), (.ref oc0_), (.int (1 : Int32))])) rfl (by rw [hml]; rfl) (Steps.refl _) (argsL := [(.ref as_4)]) (rest := [(.int (1 : Int32))]) (lenOf pd_LjavalangObject_Z rfl) rfl (by show 2 * 0 + _ ≤ _; exact Nat.le_of_eq rfl) (hb hby at_42) (fun _ _ => ⟨rfl, e_4, (by decide : 2 + 0 ≤ _), (by decide : 16 + 0 ≤ _)⟩)
    dsimp only [Pt.U, Pt.locs, Pt.cells, Pt.slots] at X_7 l_7 y_7 z_7 st_7 hQ_7
    subst y_7 z_7
    obtain ⟨rfl, N_7q, p_7_0⟩ := hQ_7
    have N_7 : Fr n0 L_7 := by rw [l_7]; exact Fr.app N_3 N_7q
    clear l_7
    refine own_go (S' := T_7.setTop (mkF m 53 #[.val (.int x0), .val (.int (0 : Int32)), .val (.ref oa0_), .val (.int (1 : Int32)), .val (.int (1 : Int32))] [(.int (1 : Int32))])) (fun target kt => ?_) ?_
    · show Steps p.tables e below (s₁.setTop (mkF m 8 #[.val (.int x0), .val (.int (0 : Int32)), .unset, .unset, .unset] [])) target
      refine XS.iloadN X0.here hx rfl (hb hby at_8) rfl ?_
      show Steps p.tables e below (s₁.setTop (mkF m 9 #[.val (.int x0), .val (.int (0 : Int32)), .unset, .unset, .unset] [(.int (0 : Int32))])) target
      refine st_1 _ ?_
      show Steps p.tables e below (T_1.setTop (mkF m 12 #[.val (.int x0), .val (.int (0 : Int32)), .unset, .unset, .unset] [(.ref oa0_)])) target
      refine XS.astoreN X_1.here hx rfl (hb hby at_12) rfl rfl (l' := #[.val (.int x0), .val (.int (0 : Int32)), .val (.ref oa0_), .unset, .unset]) rfl ?_
      show Steps p.tables e below (T_1.setTop (mkF m 13 #[.val (.int x0), .val (.int (0 : Int32)), .val (.ref oa0_), .unset, .unset] [])) target
      refine XS.aloadN X_1.here hx rfl (hb hby at_13) rfl rfl ?_
      show Steps p.tables e below (T_1.setTop (mkF m 14 #[.val (.int x0), .val (.int (0 : Int32)), .val (.ref oa0_), .unset, .unset] [(.ref oa0_)])) target
      refine st_2.trans ?_
      show Steps p.tables e below (T_2.setTop (mkF m 17 #[.val (.int x0), .val (.int (0 : Int32)), .val (.ref oa0_), .unset, .unset] [(.int (1 : Int32))])) target
      refine XS.istoreN X_2.here hx rfl (hb hby at_17) rfl (l' := #[.val (.int x0), .val (.int (0 : Int32)), .val (.ref oa0_), .val (.int (1 : Int32)), .unset]) rfl ?_
      show Steps p.tables e below (T_2.setTop (mkF m 18 #[.val (.int x0), .val (.int (0 : Int32)), .val (.ref oa0_), .val (.int (1 : Int32)), .unset] [])) target
      refine XS.iloadN X_2.here hx rfl (hb hby at_18) rfl ?_
      show Steps p.tables e below (T_2.setTop (mkF m 19 #[.val (.int x0), .val (.int (0 : Int32)), .val (.ref oa0_), .val (.int (1 : Int32)), .unset] [(.int (0 : Int32))])) target
      refine XS.ifNo X_2.here hx rfl (hb hby at_19) rfl ((if0 _ _).trans (teq (by decide : (0 : Int32) = (0 : Int32))).2) ?_
      show Steps p.tables e below (T_2.setTop (mkF m 22 #[.val (.int x0), .val (.int (0 : Int32)), .val (.ref oa0_), .val (.int (1 : Int32)), .unset] [])) target
      refine XS.iconst X_2.here hx rfl (hb hby at_22) ?_
      show Steps p.tables e below (T_2.setTop (mkF m 23 #[.val (.int x0), .val (.int (0 : Int32)), .val (.ref oa0_), .val (.int (1 : Int32)), .unset] [(.int (1 : Int32))])) target
      refine XS.goto X_2.here hx rfl (pc0 := 23) (pc' := 27) rfl (hb hby at_23) (by decide) (by decide) ?_
      show Steps p.tables e below (T_2.setTop (mkF m 27 #[.val (.int x0), .val (.int (0 : Int32)), .val (.ref oa0_), .val (.int (1 : Int32)), .unset] [(.int (1 : Int32))])) target
      refine XS.istore X_2.here hx rfl (hb hby at_27) rfl (l' := #[.val (.int x0), .val (.int (0 : Int32)), .val (.ref oa0_), .val (.int (1 : Int32)), .val (.int (1 : Int32))]) rfl ?_
      show Steps p.tables e below (T_2.setTop (mkF m 29 #[.val (.int x0), .val (.int (0 : Int32)), .val (.ref oa0_), .val (.int (1 : Int32)), .val (.int (1 : Int32))] [])) target
      refine XS.iloadN X_2.here hx rfl (hb hby at_29) rfl ?_
      show Steps p.tables e below (T_2.setTop (mkF m 30 #[.val (.int x0), .val (.int (0 : Int32)), .val (.ref oa0_), .val (.int (1 : Int32)), .val (.int (1 : Int32))] [(.int (1 : Int32))])) target
      refine XS.iload X_2.here hx rfl (hb hby at_30) rfl ?_
      show Steps p.tables e below (T_2.setTop (mkF m 32 #[.val (.int x0), .val (.int (0 : Int32)), .val (.ref oa0_), .val (.int (1 : Int32)), .val (.int (1 : Int32))] [(.int (1 : Int32)), (.int (1 : Int32))])) target
      refine XS.icmpNo X_2.here hx rfl (hb hby at_32) rfl (teq (by decide : (1 : Int32) = (1 : Int32))).2 ?_
      show Steps p.tables e below (T_2.setTop (mkF m 35 #[.val (.int x0), .val (.int (0 : Int32)), .val (.ref oa0_), .val (.int (1 : Int32)), .val (.int (1 : Int32))] [])) target
      refine XS.iloadN X_2.here hx rfl (hb hby at_35) rfl ?_
      show Steps p.tables e below (T_2.setTop (mkF m 36 #[.val (.int x0), .val (.int (0 : Int32)), .val (.ref oa0_), .val (.int (1 : Int32)), .val (.int (1 : Int32))] [(.int (1 : Int32))])) target
      refine XS.aloadN X_2.here hx rfl (hb hby at_36) rfl rfl ?_
      show Steps p.tables e below (T_2.setTop (mkF m 37 #[.val (.int x0), .val (.int (0 : Int32)), .val (.ref oa0_), .val (.int (1 : Int32)), .val (.int (1 : Int32))] [(.ref oa0_), (.int (1 : Int32))])) target
      refine st_3.trans ?_
      show Steps p.tables e below (T_3.setTop (mkF m 40 #[.val (.int x0), .val (.int (0 : Int32)), .val (.ref oa0_), .val (.int (1 : Int32)), .val (.int (1 : Int32))] [(.ref oc0_), (.int (1 : Int32))])) target
      refine st_4 _ ?_
      show Steps p.tables e below (T_4.setTop (mkF m 42 #[.val (.int x0), .val (.int (0 : Int32)), .val (.ref oa0_), .val (.int (1 : Int32)), .val (.int (1 : Int32))] [(.ref as_4), (.ref oc0_), (.int (1 : Int32))])) target
      refine st_7.trans ?_
      show Steps p.tables e below (T_7.setTop (mkF m 45 #[.val (.int x0), .val (.int (0 : Int32)), .val (.ref oa0_), .val (.int (1 : Int32)), .val (.int (1 : Int32))] [(.int (own_eqs oc0_ as_4 (48 : Int32) (48 : Int32) (48 : Int32) (48 : Int32) (48 : Int32) (48 : Int32))), (.int (1 : Int32))])) target
      refine XS.icmpNo X_7.here hx rfl (hb hby at_45) rfl (teq ((own_eqT _ _).symm : (1 : Int32) = (own_eqs oc0_ as_4 (48 : Int32) (48 : Int32) (48 : Int32) (48 : Int32) (48 : Int32) (48 : Int32)))).2 ?_
      show Steps p.tables e below (T_7.setTop (mkF m 48 #[.val (.int x0), .val (.int (0 : Int32)), .val (.ref oa0_), .val (.int (1 : Int32)), .val (.int (1 : Int32))] [])) target
      refine XS.iconst X_7.here hx rfl (hb hby at_48) ?_
      show Steps p.tables e below (T_7.setTop (mkF m 49 #[.val (.int x0), .val (.int (0 : Int32)), .val (.ref oa0_), .val (.int (1 : Int32)), .val (.int (1 : Int32))] [(.int (1 : Int32))])) target
      refine XS.goto X_7.here hx rfl (pc0 := 49) (pc' := 53) rfl (hb hby at_49) (by decide) (by decide) ?_
      show Steps p.tables e below (T_7.setTop (mkF m 53 #[.val (.int x0), .val (.int (0 : Int32)), .val (.ref oa0_), .val (.int (1 : Int32)), .val (.int (1 : Int32))] [(.int (1 : Int32))])) target
      exact kt
    obtain ⟨fs, hr, hrun, hended, hEnd⟩ := X_7.leaveW hS_4 (by rw [p_7_0]; exact hk_4) (v := some (.int (1 : Int32))) (fun h => by rw [Bd.returns] at h; cases h)
    refine ⟨_, _, retN X_7 hx (t := .boolean) Bd.returns (by simp) (hb hby at_53) hr, hrun, hended, _, _, rfl, ?_, hEnd.1, hEnd.2.1, hEnd.2.2.1, hEnd.2.2.2.mono (by decide) (by decide)⟩
    show Q_law Z x0 oa0_ oa1_ oa2_ oa3_ oa4_ oa5_ oc0_ oc1_ oc2_ oc3_ oc4_ oc5_ ov0_ ov1_ ov2_ ov3_ ov4_ ov5_ ok0_ ok1_ ok2_ ok3_ ok4_ ok5_ w1 h0 n0 _ T_7.heap _
    rw [p_7_0]
    exact ⟨rfl, N_7⟩
  · skip
    rw [erem]
    obtain ⟨_, _, ⟨T_13, L_13, k_13, n_13⟩, -, X_13, ⟨Lc_13, hQ_13, l_13, y_13, z_13⟩, st_13⟩ := Jvm.LawKit.callS X0 hx (y := (⟨"com/example/cardwarden/cardwarden/wire/ErrorCodeIsSuccessPinLaw", "pick", "(I)Lcom/example/cardwarden/cardwarden/wire/ErrorCode;"⟩ : MethodName)) hown (mvT hZ (hw _ (List.mem_of_getElem? (i := 1) rfl))) (mvT hZ (hw _ (List.mem_of_getElem? (i := 2) rfl))) (mvT hZ (hw _ (List.mem_of_getElem? (i := 3) rfl))) (mvT hZ (hw _ (List.mem_of_getElem? (i := 4) rfl))) (by decide) (backOf (W := 0) (rm_pick1 l Z a0 hw []  oa1_ h0 n0 Z0 S1_) hZ (hw _ (List.mem_of_getElem? (i := 4) rfl)) (hw _ (List.mem_of_getElem? (i := 3) rfl)) (by decide) (by decide)) (g := (mkF m 9 #[.val (.int x0), .val (.int (1 : Int32)), .unset, .unset, .unset] [(.int (1 : Int32))])) rfl (by rw [hml]; rfl) (argsL := [(.int (1 : Int32))]) (rest := []) (lenOf pd_I_LcomexamplecardwardencardwardenwireErrorCode rfl) rfl (by show 2 * 0 + _ ≤ _; exact Nat.le_of_eq rfl) (hb hby at_9) (fun _ _ => ⟨rfl, e0, (by decide : 0 + 0 ≤ _), (by decide : 0 + 0 ≤ _)⟩)
    dsimp only [Pt.U, Pt.locs, Pt.cells, Pt.slots] at X_13 l_13 y_13 z_13 st_13 hQ_13
    subst y_13 z_13
    obtain ⟨rfl, N_13q, p_13_0⟩ := hQ_13
    have N_13 : Fr n0 L_13 := by rw [l_13]; exact Fr.app N0 N_13q
    clear l_13
    obtain ⟨cq_14, kq_14, q_14a, q_14b, q_14c⟩ := isOf hZ p_13_0 EA1
    obtain ⟨_, _, ⟨T_14, L_14, k_14, n_14⟩, -, X_14, ⟨Lc_14, hQ_14, l_14, y_14, z_14⟩, st_14⟩ := X_13.virtualBack hx (y := (⟨"com/example/cardwarden/cardwarden/wire/ErrorCode", "isSuccess", "()Z"⟩ : MethodName)) (z := (⟨"com/example/cardwarden/cardwarden/wire/ErrorCode", "isSuccess", "()Z"⟩ : MethodName)) hown (mvT hZ (hw _ (List.mem_of_getElem? (i := 8) rfl))) (mvT hZ (hw _ (List.mem_of_getElem? (i := 9) rfl))) (notFace_of_selects (args := #[]) (mvT hZ (hw _ (List.mem_of_getElem? (i := 11) rfl)))) (mvT hZ (hw _ (List.mem_of_getElem? (i := 11) rfl))) (mvT hZ (hw _ (List.mem_of_getElem? (i := 10) rfl))) (by decide) (backOf (W := 0) (rm_is0 l Z a0 hw [] oa1_ oa0_ h0 n0 Z0 S0_ NE1) hZ (hw _ (List.mem_of_getElem? (i := 12) rfl)) (hw _ (List.mem_of_getElem? (i := 6) rfl)) (by decide) (by decide)) q_14a q_14c (g := (mkF m 14 #[.val (.int x0), .val (.int (1 : Int32)), .val (.ref oa1_), .unset, .unset] [(.ref oa1_)])) rfl (by rw [hml]; rfl) (Steps.refl _) (argsL := []) (rest := []) (lenOf pd__Z rfl) rfl (by show 2 * 0 + _ ≤ _; exact Nat.le_of_eq rfl) (hb hby at_14) (fun _ _ => ⟨rfl, p_13_0, (by decide : 0 + 0 ≤ _), (by decide : 0 + 0 ≤ _)⟩)
    dsimp only [Pt.U, Pt.locs, Pt.cells, Pt.slots] at X_14 l_14 y_14 z_14 st_14 hQ_14
    subst y_14 z_14
    obtain ⟨rfl, N_14q, p_14_0⟩ := hQ_14
    have N_14 : Fr n0 L_14 := by rw [l_14]; exact Fr.app N_13 N_14q
    clear l_14
    obtain ⟨cq_15, kq_15, q_15a, q_15b, q_15c⟩ := isOf hZ p_14_0 EA1
    obtain ⟨_, _, ⟨T_15, L_15, k_15, n_15⟩, -, X_15, ⟨Lc_15, hQ_15, l_15, y_15, z_15⟩, st_15⟩ := X_14.virtualBack hx (y := (⟨"com/example/cardwarden/cardwarden/wire/ErrorCode", "code", "()Ljava/lang/String;"⟩ : MethodName)) (z := (⟨"com/example/cardwarden/cardwarden/wire/ErrorCode", "code", "()Ljava/lang/String;"⟩ : MethodName)) hown (mvT hZ (hw _ (List.mem_of_getElem? (i := 14) rfl))) (mvT hZ (hw _ (List.mem_of_getElem? (i := 15) rfl))) (notFace_of_selects (args := #[]) (mvT hZ (hw _ (List.mem_of_getElem? (i := 17) rfl)))) (mvT hZ (hw _ (List.mem_of_getElem? (i := 17) rfl))) (mvT hZ (hw _ (List.mem_of_getElem? (i := 16) rfl))) (by decide) (backOf (W := 1) (rm_cod l Z a0 hw [] oa1_ oc1_ h0 n0 Z0 FC1) hZ (hw _ (List.mem_of_getElem? (i := 18) rfl)) (hw _ (List.mem_of_getElem? (i := 6) rfl)) (by decide) (by decide)) q_15a q_15c (g := (mkF m 37 #[.val (.int x0), .val (.int (1 : Int32)), .val (.ref oa1_), .val (.int (0 : Int32)), .val (.int (0 : Int32))] [(.ref oa1_), (.int (0 : Int32))])) rfl (by rw [hml]; rfl) (Steps.refl _) (argsL := []) (rest := [(.int (0 : Int32))]) (lenOf pd__LjavalangString rfl) rfl (by show 2 * 0 + _ ≤ _; exact Nat.le_of_eq rfl) (hb hby at_37) (fun _ _ => ⟨rfl, p_14_0, (by decide : 0 + 0 ≤ _), (by decide : 0 + 0 ≤ _)⟩)
    dsimp only [Pt.U, Pt.locs, Pt.cells, Pt.slots] at X_15 l_15 y_15 z_15 st_15 hQ_15
    subst y_15 z_15
    obtain ⟨rfl, N_15q, p_15_0⟩ := hQ_15
    have N_15 : Fr n0 L_15 := by rw [l_15]; exact Fr.app N_14 N_15q
    clear l_15
    have wS : ∀ d ∈ Bundle.stringAtoms, d.before a0 Z = true := by
      intro d hd
      simp only [Bundle.stringAtoms, List.mem_cons, List.not_mem_nil, or_false] at hd
      rcases hd with rfl | rfl | rfl | rfl | rfl | rfl | rfl
      · exact hw _ (List.mem_of_getElem? (i := 22) rfl)
      · exact hw _ (List.mem_of_getElem? (i := 23) rfl)
      · exact hw _ (List.mem_of_getElem? (i := 24) rfl)
      · exact hw _ (List.mem_of_getElem? (i := 25) rfl)
      · exact hw _ (List.mem_of_getElem? (i := 26) rfl)
      · exact hw _ (List.mem_of_getElem? (i := 27) rfl)
      · exact hw _ (List.mem_of_getElem? (i := 28) rfl)
    have hS0 : s.Since s.vm 0 := ⟨State.Warmed39.refl s, fun j q hj hq => absurd (Array.getElem?_eq_some_iff.mp hq).1 (Nat.not_lt.mpr hj)⟩
    obtain ⟨as_16, T_16, h_16, k1_16, bs_16, kb_16, X_16, e_16, E_16, hS_16, hk_16, hZ_16, hown_16, A_16, Fc_16, Fv_16, V_16, -, -, -, st_16⟩ := ldcSV (s := s) (vm0 := s.vm) (own := "com/example/cardwarden/cardwarden/wire/ErrorCodeIsSuccessPinLaw") (text := "000") X_15 hx hZ hown (hw _ (List.mem_of_getElem? (i := 21) rfl)) wS p_15_0 (k0 := 0) hS0 (Nat.zero_le _) (by rw [hh, ← hn0]; exact N_15) (fun b cl q => by rw [hh, ← hZh]; exact q) (Ts := []) (by rw [hZs]; exact IB.start) (by simp) hheld hcw (vs := [(.int (48 : Int32)), (.int (48 : Int32)), (.int (48 : Int32))]) (z := (3 : Int32)) ⟨by decide, by decide⟩ (by decide) rfl (g := (mkF m 40 #[.val (.int x0), .val (.int (1 : Int32)), .val (.ref oa1_), .val (.int (0 : Int32)), .val (.int (0 : Int32))] [(.ref oc1_), (.int (0 : Int32))])) rfl (hb hby at_40) (n := 12) (by decide) (by decide) (by decide) (by decide)
    have hZ := hZ_16
    have hown := hown_16
    have Z_17 : n0 ≤ h_16.size := Nat.le_trans Z0 E_16.1
    have f_20 := (ES1.ext E_16)
    have f_21 := (CO1.ext E_16)
    have f_22 := (VA1.ext E_16)
    have f_23 := (AV1.ext E_16)
    have f_24 := (SC.ext E_16)
    obtain ⟨cq_19, kq_19, q_19a, q_19b, q_19c⟩ := isOf hZ e_16 f_20
    obtain ⟨_, _, ⟨T_19, L_19, k_19, n_19⟩, -, X_19, ⟨Lc_19, hQ_19, l_19, y_19, z_19⟩, st_19⟩ := X_16.virtualBack hx (y := (⟨"java/lang/String", "equals", "(Ljava/lang/Object;)Z"⟩ : MethodName)) (z := (⟨"java/lang/String", "equals", "(Ljava/lang/Object;)Z"⟩ : MethodName)) hown (mvT hZ (hw _ (List.mem_of_getElem? (i := 29) rfl))) (mvT hZ (hw _ (List.mem_of_getElem? (i := 30) rfl))) (notFace_of_selects (args := #[]) (mvT hZ (hw _ (List.mem_of_getElem? (i := 32) rfl)))) (mvT hZ (hw _ (List.mem_of_getElem? (i := 32) rfl))) (mvT hZ (hw _ (List.mem_of_getElem? (i := 31) rfl))) (by decide) (backOf (W := 1) (rm_eqs l Z a0 hw [] oc1_ as_16 ov1_ bs_16 ok1_ kb_16 (49 : Int32) (48 : Int32) (49 : Int32) (48 : Int32) (48 : Int32) (48 : Int32) w1 h_16 n0 Z_17 f_20 A_16 f_21 Fc_16 f_22 Fv_16 f_23 V_16 f_24 hw1) hZ (hw _ (List.mem_of_getElem? (i := 33) rfl)) (hw _ (List.mem_of_getElem? (i := 22) rfl)) (by decide) (by decide)) q_19a q_19c (g := (mkF m 42 #[.val (.int x0), .val (.int (1 : Int32)), .val (.ref oa1_), .val (.int (0 : Int32)), .val (.int (0 : Int32))] [(.ref as_16), (.ref oc1_), (.int (0 : Int32))])) rfl (by rw [hml]; rfl) (Steps.refl _) (argsL := [(.ref as_16)]) (rest := [(.int (0 : Int32))]) (lenOf pd_LjavalangObject_Z rfl) rfl (by show 2 * 0 + _ ≤ _; exact Nat.le_of_eq rfl) (hb hby at_42) (fun _ _ => ⟨rfl, e_16, (by decide : 2 + 0 ≤ _), (by decide : 16 + 0 ≤ _)⟩)
    dsimp only [Pt.U, Pt.locs, Pt.cells, Pt.slots] at X_19 l_19 y_19 z_19 st_19 hQ_19
    subst y_19 z_19
    obtain ⟨rfl, N_19q, p_19_0⟩ := hQ_19
    have N_19 : Fr n0 L_19 := by rw [l_19]; exact Fr.app N_15 N_19q
    clear l_19
    refine own_go (S' := T_19.setTop (mkF m 53 #[.val (.int x0), .val (.int (1 : Int32)), .val (.ref oa1_), .val (.int (0 : Int32)), .val (.int (0 : Int32))] [(.int (1 : Int32))])) (fun target kt => ?_) ?_
    · show Steps p.tables e below (s₁.setTop (mkF m 8 #[.val (.int x0), .val (.int (1 : Int32)), .unset, .unset, .unset] [])) target
      refine XS.iloadN X0.here hx rfl (hb hby at_8) rfl ?_
      show Steps p.tables e below (s₁.setTop (mkF m 9 #[.val (.int x0), .val (.int (1 : Int32)), .unset, .unset, .unset] [(.int (1 : Int32))])) target
      refine st_13 _ ?_
      show Steps p.tables e below (T_13.setTop (mkF m 12 #[.val (.int x0), .val (.int (1 : Int32)), .unset, .unset, .unset] [(.ref oa1_)])) target
      refine XS.astoreN X_13.here hx rfl (hb hby at_12) rfl rfl (l' := #[.val (.int x0), .val (.int (1 : Int32)), .val (.ref oa1_), .unset, .unset]) rfl ?_
      show Steps p.tables e below (T_13.setTop (mkF m 13 #[.val (.int x0), .val (.int (1 : Int32)), .val (.ref oa1_), .unset, .unset] [])) target
      refine XS.aloadN X_13.here hx rfl (hb hby at_13) rfl rfl ?_
      show Steps p.tables e below (T_13.setTop (mkF m 14 #[.val (.int x0), .val (.int (1 : Int32)), .val (.ref oa1_), .unset, .unset] [(.ref oa1_)])) target
      refine st_14.trans ?_
      show Steps p.tables e below (T_14.setTop (mkF m 17 #[.val (.int x0), .val (.int (1 : Int32)), .val (.ref oa1_), .unset, .unset] [(.int (0 : Int32))])) target
      refine XS.istoreN X_14.here hx rfl (hb hby at_17) rfl (l' := #[.val (.int x0), .val (.int (1 : Int32)), .val (.ref oa1_), .val (.int (0 : Int32)), .unset]) rfl ?_
      show Steps p.tables e below (T_14.setTop (mkF m 18 #[.val (.int x0), .val (.int (1 : Int32)), .val (.ref oa1_), .val (.int (0 : Int32)), .unset] [])) target
      refine XS.iloadN X_14.here hx rfl (hb hby at_18) rfl ?_
      show Steps p.tables e below (T_14.setTop (mkF m 19 #[.val (.int x0), .val (.int (1 : Int32)), .val (.ref oa1_), .val (.int (0 : Int32)), .unset] [(.int (1 : Int32))])) target
      refine XS.ifYes X_14.here hx rfl (pc0 := 19) (pc' := 26) rfl (hb hby at_19) rfl ((if0 _ _).trans (feq (by decide : ¬ ((1 : Int32) = (0 : Int32)))).2) (by decide) (by decide) ?_
      show Steps p.tables e below (T_14.setTop (mkF m 26 #[.val (.int x0), .val (.int (1 : Int32)), .val (.ref oa1_), .val (.int (0 : Int32)), .unset] [])) target
      refine XS.iconst X_14.here hx rfl (hb hby at_26) ?_
      show Steps p.tables e below (T_14.setTop (mkF m 27 #[.val (.int x0), .val (.int (1 : Int32)), .val (.ref oa1_), .val (.int (0 : Int32)), .unset] [(.int (0 : Int32))])) target
      refine XS.istore X_14.here hx rfl (hb hby at_27) rfl (l' := #[.val (.int x0), .val (.int (1 : Int32)), .val (.ref oa1_), .val (.int (0 : Int32)), .val (.int (0 : Int32))]) rfl ?_
      show Steps p.tables e below (T_14.setTop (mkF m 29 #[.val (.int x0), .val (.int (1 : Int32)), .val (.ref oa1_), .val (.int (0 : Int32)), .val (.int (0 : Int32))] [])) target
      refine XS.iloadN X_14.here hx rfl (hb hby at_29) rfl ?_
      show Steps p.tables e below (T_14.setTop (mkF m 30 #[.val (.int x0), .val (.int (1 : Int32)), .val (.ref oa1_), .val (.int (0 : Int32)), .val (.int (0 : Int32))] [(.int (0 : Int32))])) target
      refine XS.iload X_14.here hx rfl (hb hby at_30) rfl ?_
      show Steps p.tables e below (T_14.setTop (mkF m 32 #[.val (.int x0), .val (.int (1 : Int32)), .val (.ref oa1_), .val (.int (0 : Int32)), .val (.int (0 : Int32))] [(.int (0 : Int32)), (.int (0 : Int32))])) target
      refine XS.icmpNo X_14.here hx rfl (hb hby at_32) rfl (teq (by decide : (0 : Int32) = (0 : Int32))).2 ?_
      show Steps p.tables e below (T_14.setTop (mkF m 35 #[.val (.int x0), .val (.int (1 : Int32)), .val (.ref oa1_), .val (.int (0 : Int32)), .val (.int (0 : Int32))] [])) target
      refine XS.iloadN X_14.here hx rfl (hb hby at_35) rfl ?_
      show Steps p.tables e below (T_14.setTop (mkF m 36 #[.val (.int x0), .val (.int (1 : Int32)), .val (.ref oa1_), .val (.int (0 : Int32)), .val (.int (0 : Int32))] [(.int (0 : Int32))])) target
      refine XS.aloadN X_14.here hx rfl (hb hby at_36) rfl rfl ?_
      show Steps p.tables e below (T_14.setTop (mkF m 37 #[.val (.int x0), .val (.int (1 : Int32)), .val (.ref oa1_), .val (.int (0 : Int32)), .val (.int (0 : Int32))] [(.ref oa1_), (.int (0 : Int32))])) target
      refine st_15.trans ?_
      show Steps p.tables e below (T_15.setTop (mkF m 40 #[.val (.int x0), .val (.int (1 : Int32)), .val (.ref oa1_), .val (.int (0 : Int32)), .val (.int (0 : Int32))] [(.ref oc1_), (.int (0 : Int32))])) target
      refine st_16 _ ?_
      show Steps p.tables e below (T_16.setTop (mkF m 42 #[.val (.int x0), .val (.int (1 : Int32)), .val (.ref oa1_), .val (.int (0 : Int32)), .val (.int (0 : Int32))] [(.ref as_16), (.ref oc1_), (.int (0 : Int32))])) target
      refine st_19.trans ?_
      show Steps p.tables e below (T_19.setTop (mkF m 45 #[.val (.int x0), .val (.int (1 : Int32)), .val (.ref oa1_), .val (.int (0 : Int32)), .val (.int (0 : Int32))] [(.int (own_eqs oc1_ as_16 (49 : Int32) (48 : Int32) (49 : Int32) (48 : Int32) (48 : Int32) (48 : Int32))), (.int (0 : Int32))])) target
      refine XS.icmpNo X_19.here hx rfl (hb hby at_45) rfl (teq ((own_eqF (Fld.ne f_22 Fv_16 (fun q => own_arvne f_23 V_16 (by decide) (Value.ref.inj q)))).symm : (0 : Int32) = (own_eqs oc1_ as_16 (49 : Int32) (48 : Int32) (49 : Int32) (48 : Int32) (48 : Int32) (48 : Int32)))).2 ?_
      show Steps p.tables e below (T_19.setTop (mkF m 48 #[.val (.int x0), .val (.int (1 : Int32)), .val (.ref oa1_), .val (.int (0 : Int32)), .val (.int (0 : Int32))] [])) target
      refine XS.iconst X_19.here hx rfl (hb hby at_48) ?_
      show Steps p.tables e below (T_19.setTop (mkF m 49 #[.val (.int x0), .val (.int (1 : Int32)), .val (.ref oa1_), .val (.int (0 : Int32)), .val (.int (0 : Int32))] [(.int (1 : Int32))])) target
      refine XS.goto X_19.here hx rfl (pc0 := 49) (pc' := 53) rfl (hb hby at_49) (by decide) (by decide) ?_
      show Steps p.tables e below (T_19.setTop (mkF m 53 #[.val (.int x0), .val (.int (1 : Int32)), .val (.ref oa1_), .val (.int (0 : Int32)), .val (.int (0 : Int32))] [(.int (1 : Int32))])) target
      exact kt
    obtain ⟨fs, hr, hrun, hended, hEnd⟩ := X_19.leaveW hS_16 (by rw [p_19_0]; exact hk_16) (v := some (.int (1 : Int32))) (fun h => by rw [Bd.returns] at h; cases h)
    refine ⟨_, _, retN X_19 hx (t := .boolean) Bd.returns (by simp) (hb hby at_53) hr, hrun, hended, _, _, rfl, ?_, hEnd.1, hEnd.2.1, hEnd.2.2.1, hEnd.2.2.2.mono (by decide) (by decide)⟩
    show Q_law Z x0 oa0_ oa1_ oa2_ oa3_ oa4_ oa5_ oc0_ oc1_ oc2_ oc3_ oc4_ oc5_ ov0_ ov1_ ov2_ ov3_ ov4_ ov5_ ok0_ ok1_ ok2_ ok3_ ok4_ ok5_ w1 h0 n0 _ T_19.heap _
    rw [p_19_0]
    exact ⟨rfl, N_19⟩
  · skip
    rw [erem]
    obtain ⟨_, _, ⟨T_25, L_25, k_25, n_25⟩, -, X_25, ⟨Lc_25, hQ_25, l_25, y_25, z_25⟩, st_25⟩ := Jvm.LawKit.callS X0 hx (y := (⟨"com/example/cardwarden/cardwarden/wire/ErrorCodeIsSuccessPinLaw", "pick", "(I)Lcom/example/cardwarden/cardwarden/wire/ErrorCode;"⟩ : MethodName)) hown (mvT hZ (hw _ (List.mem_of_getElem? (i := 1) rfl))) (mvT hZ (hw _ (List.mem_of_getElem? (i := 2) rfl))) (mvT hZ (hw _ (List.mem_of_getElem? (i := 3) rfl))) (mvT hZ (hw _ (List.mem_of_getElem? (i := 4) rfl))) (by decide) (backOf (W := 0) (rm_pick2 l Z a0 hw []  oa2_ h0 n0 Z0 S2_) hZ (hw _ (List.mem_of_getElem? (i := 4) rfl)) (hw _ (List.mem_of_getElem? (i := 3) rfl)) (by decide) (by decide)) (g := (mkF m 9 #[.val (.int x0), .val (.int (2 : Int32)), .unset, .unset, .unset] [(.int (2 : Int32))])) rfl (by rw [hml]; rfl) (argsL := [(.int (2 : Int32))]) (rest := []) (lenOf pd_I_LcomexamplecardwardencardwardenwireErrorCode rfl) rfl (by show 2 * 0 + _ ≤ _; exact Nat.le_of_eq rfl) (hb hby at_9) (fun _ _ => ⟨rfl, e0, (by decide : 0 + 0 ≤ _), (by decide : 0 + 0 ≤ _)⟩)
    dsimp only [Pt.U, Pt.locs, Pt.cells, Pt.slots] at X_25 l_25 y_25 z_25 st_25 hQ_25
    subst y_25 z_25
    obtain ⟨rfl, N_25q, p_25_0⟩ := hQ_25
    have N_25 : Fr n0 L_25 := by rw [l_25]; exact Fr.app N0 N_25q
    clear l_25
    obtain ⟨cq_26, kq_26, q_26a, q_26b, q_26c⟩ := isOf hZ p_25_0 EA2
    obtain ⟨_, _, ⟨T_26, L_26, k_26, n_26⟩, -, X_26, ⟨Lc_26, hQ_26, l_26, y_26, z_26⟩, st_26⟩ := X_25.virtualBack hx (y := (⟨"com/example/cardwarden/cardwarden/wire/ErrorCode", "isSuccess", "()Z"⟩ : MethodName)) (z := (⟨"com/example/cardwarden/cardwarden/wire/ErrorCode", "isSuccess", "()Z"⟩ : MethodName)) hown (mvT hZ (hw _ (List.mem_of_getElem? (i := 8) rfl))) (mvT hZ (hw _ (List.mem_of_getElem? (i := 9) rfl))) (notFace_of_selects (args := #[]) (mvT hZ (hw _ (List.mem_of_getElem? (i := 11) rfl)))) (mvT hZ (hw _ (List.mem_of_getElem? (i := 11) rfl))) (mvT hZ (hw _ (List.mem_of_getElem? (i := 10) rfl))) (by decide) (backOf (W := 0) (rm_is0 l Z a0 hw [] oa2_ oa0_ h0 n0 Z0 S0_ NE2) hZ (hw _ (List.mem_of_getElem? (i := 12) rfl)) (hw _ (List.mem_of_getElem? (i := 6) rfl)) (by decide) (by decide)) q_26a q_26c (g := (mkF m 14 #[.val (.int x0), .val (.int (2 : Int32)), .val (.ref oa2_), .unset, .unset] [(.ref oa2_)])) rfl (by rw [hml]; rfl) (Steps.refl _) (argsL := []) (rest := []) (lenOf pd__Z rfl) rfl (by show 2 * 0 + _ ≤ _; exact Nat.le_of_eq rfl) (hb hby at_14) (fun _ _ => ⟨rfl, p_25_0, (by decide : 0 + 0 ≤ _), (by decide : 0 + 0 ≤ _)⟩)
    dsimp only [Pt.U, Pt.locs, Pt.cells, Pt.slots] at X_26 l_26 y_26 z_26 st_26 hQ_26
    subst y_26 z_26
    obtain ⟨rfl, N_26q, p_26_0⟩ := hQ_26
    have N_26 : Fr n0 L_26 := by rw [l_26]; exact Fr.app N_25 N_26q
    clear l_26
    obtain ⟨cq_27, kq_27, q_27a, q_27b, q_27c⟩ := isOf hZ p_26_0 EA2
    obtain ⟨_, _, ⟨T_27, L_27, k_27, n_27⟩, -, X_27, ⟨Lc_27, hQ_27, l_27, y_27, z_27⟩, st_27⟩ := X_26.virtualBack hx (y := (⟨"com/example/cardwarden/cardwarden/wire/ErrorCode", "code", "()Ljava/lang/String;"⟩ : MethodName)) (z := (⟨"com/example/cardwarden/cardwarden/wire/ErrorCode", "code", "()Ljava/lang/String;"⟩ : MethodName)) hown (mvT hZ (hw _ (List.mem_of_getElem? (i := 14) rfl))) (mvT hZ (hw _ (List.mem_of_getElem? (i := 15) rfl))) (notFace_of_selects (args := #[]) (mvT hZ (hw _ (List.mem_of_getElem? (i := 17) rfl)))) (mvT hZ (hw _ (List.mem_of_getElem? (i := 17) rfl))) (mvT hZ (hw _ (List.mem_of_getElem? (i := 16) rfl))) (by decide) (backOf (W := 1) (rm_cod l Z a0 hw [] oa2_ oc2_ h0 n0 Z0 FC2) hZ (hw _ (List.mem_of_getElem? (i := 18) rfl)) (hw _ (List.mem_of_getElem? (i := 6) rfl)) (by decide) (by decide)) q_27a q_27c (g := (mkF m 37 #[.val (.int x0), .val (.int (2 : Int32)), .val (.ref oa2_), .val (.int (0 : Int32)), .val (.int (0 : Int32))] [(.ref oa2_), (.int (0 : Int32))])) rfl (by rw [hml]; rfl) (Steps.refl _) (argsL := []) (rest := [(.int (0 : Int32))]) (lenOf pd__LjavalangString rfl) rfl (by show 2 * 0 + _ ≤ _; exact Nat.le_of_eq rfl) (hb hby at_37) (fun _ _ => ⟨rfl, p_26_0, (by decide : 0 + 0 ≤ _), (by decide : 0 + 0 ≤ _)⟩)
    dsimp only [Pt.U, Pt.locs, Pt.cells, Pt.slots] at X_27 l_27 y_27 z_27 st_27 hQ_27
    subst y_27 z_27
    obtain ⟨rfl, N_27q, p_27_0⟩ := hQ_27
    have N_27 : Fr n0 L_27 := by rw [l_27]; exact Fr.app N_26 N_27q
    clear l_27
    have wS : ∀ d ∈ Bundle.stringAtoms, d.before a0 Z = true := by
      intro d hd
      simp only [Bundle.stringAtoms, List.mem_cons, List.not_mem_nil, or_false] at hd
      rcases hd with rfl | rfl | rfl | rfl | rfl | rfl | rfl
      · exact hw _ (List.mem_of_getElem? (i := 22) rfl)
      · exact hw _ (List.mem_of_getElem? (i := 23) rfl)
      · exact hw _ (List.mem_of_getElem? (i := 24) rfl)
      · exact hw _ (List.mem_of_getElem? (i := 25) rfl)
      · exact hw _ (List.mem_of_getElem? (i := 26) rfl)
      · exact hw _ (List.mem_of_getElem? (i := 27) rfl)
      · exact hw _ (List.mem_of_getElem? (i := 28) rfl)
    have hS0 : s.Since s.vm 0 := ⟨State.Warmed39.refl s, fun j q hj hq => absurd (Array.getElem?_eq_some_iff.mp hq).1 (Nat.not_lt.mpr hj)⟩
    obtain ⟨as_28, T_28, h_28, k1_28, bs_28, kb_28, X_28, e_28, E_28, hS_28, hk_28, hZ_28, hown_28, A_28, Fc_28, Fv_28, V_28, -, -, -, st_28⟩ := ldcSV (s := s) (vm0 := s.vm) (own := "com/example/cardwarden/cardwarden/wire/ErrorCodeIsSuccessPinLaw") (text := "000") X_27 hx hZ hown (hw _ (List.mem_of_getElem? (i := 21) rfl)) wS p_27_0 (k0 := 0) hS0 (Nat.zero_le _) (by rw [hh, ← hn0]; exact N_27) (fun b cl q => by rw [hh, ← hZh]; exact q) (Ts := []) (by rw [hZs]; exact IB.start) (by simp) hheld hcw (vs := [(.int (48 : Int32)), (.int (48 : Int32)), (.int (48 : Int32))]) (z := (3 : Int32)) ⟨by decide, by decide⟩ (by decide) rfl (g := (mkF m 40 #[.val (.int x0), .val (.int (2 : Int32)), .val (.ref oa2_), .val (.int (0 : Int32)), .val (.int (0 : Int32))] [(.ref oc2_), (.int (0 : Int32))])) rfl (hb hby at_40) (n := 12) (by decide) (by decide) (by decide) (by decide)
    have hZ := hZ_28
    have hown := hown_28
    have Z_29 : n0 ≤ h_28.size := Nat.le_trans Z0 E_28.1
    have f_32 := (ES2.ext E_28)
    have f_33 := (CO2.ext E_28)
    have f_34 := (VA2.ext E_28)
    have f_35 := (AV2.ext E_28)
    have f_36 := (SC.ext E_28)
    obtain ⟨cq_31, kq_31, q_31a, q_31b, q_31c⟩ := isOf hZ e_28 f_32
    obtain ⟨_, _, ⟨T_31, L_31, k_31, n_31⟩, -, X_31, ⟨Lc_31, hQ_31, l_31, y_31, z_31⟩, st_31⟩ := X_28.virtualBack hx (y := (⟨"java/lang/String", "equals", "(Ljava/lang/Object;)Z"⟩ : MethodName)) (z := (⟨"java/lang/String", "equals", "(Ljava/lang/Object;)Z"⟩ : MethodName)) hown (mvT hZ (hw _ (List.mem_of_getElem? (i := 29) rfl))) (mvT hZ (hw _ (List.mem_of_getElem? (i := 30) rfl))) (notFace_of_selects (args := #[]) (mvT hZ (hw _ (List.mem_of_getElem? (i := 32) rfl)))) (mvT hZ (hw _ (List.mem_of_getElem? (i := 32) rfl))) (mvT hZ (hw _ (List.mem_of_getElem? (i := 31) rfl))) (by decide) (backOf (W := 1) (rm_eqs l Z a0 hw [] oc2_ as_28 ov2_ bs_28 ok2_ kb_28 (49 : Int32) (48 : Int32) (50 : Int32) (48 : Int32) (48 : Int32) (48 : Int32) w1 h_28 n0 Z_29 f_32 A_28 f_33 Fc_28 f_34 Fv_28 f_35 V_28 f_36 hw1) hZ (hw _ (List.mem_of_getElem? (i := 33) rfl)) (hw _ (List.mem_of_getElem? (i := 22) rfl)) (by decide) (by decide)) q_31a q_31c (g := (mkF m 42 #[.val (.int x0), .val (.int (2 : Int32)), .val (.ref oa2_), .val (.int (0 : Int32)), .val (.int (0 : Int32))] [(.ref as_28), (.ref oc2_), (.int (0 : Int32))])) rfl (by rw [hml]; rfl) (Steps.refl _) (argsL := [(.ref as_28)]) (rest := [(.int (0 : Int32))]) (lenOf pd_LjavalangObject_Z rfl) rfl (by show 2 * 0 + _ ≤ _; exact Nat.le_of_eq rfl) (hb hby at_42) (fun _ _ => ⟨rfl, e_28, (by decide : 2 + 0 ≤ _), (by decide : 16 + 0 ≤ _)⟩)
    dsimp only [Pt.U, Pt.locs, Pt.cells, Pt.slots] at X_31 l_31 y_31 z_31 st_31 hQ_31
    subst y_31 z_31
    obtain ⟨rfl, N_31q, p_31_0⟩ := hQ_31
    have N_31 : Fr n0 L_31 := by rw [l_31]; exact Fr.app N_27 N_31q
    clear l_31
    refine own_go (S' := T_31.setTop (mkF m 53 #[.val (.int x0), .val (.int (2 : Int32)), .val (.ref oa2_), .val (.int (0 : Int32)), .val (.int (0 : Int32))] [(.int (1 : Int32))])) (fun target kt => ?_) ?_
    · show Steps p.tables e below (s₁.setTop (mkF m 8 #[.val (.int x0), .val (.int (2 : Int32)), .unset, .unset, .unset] [])) target
      refine XS.iloadN X0.here hx rfl (hb hby at_8) rfl ?_
      show Steps p.tables e below (s₁.setTop (mkF m 9 #[.val (.int x0), .val (.int (2 : Int32)), .unset, .unset, .unset] [(.int (2 : Int32))])) target
      refine st_25 _ ?_
      show Steps p.tables e below (T_25.setTop (mkF m 12 #[.val (.int x0), .val (.int (2 : Int32)), .unset, .unset, .unset] [(.ref oa2_)])) target
      refine XS.astoreN X_25.here hx rfl (hb hby at_12) rfl rfl (l' := #[.val (.int x0), .val (.int (2 : Int32)), .val (.ref oa2_), .unset, .unset]) rfl ?_
      show Steps p.tables e below (T_25.setTop (mkF m 13 #[.val (.int x0), .val (.int (2 : Int32)), .val (.ref oa2_), .unset, .unset] [])) target
      refine XS.aloadN X_25.here hx rfl (hb hby at_13) rfl rfl ?_
      show Steps p.tables e below (T_25.setTop (mkF m 14 #[.val (.int x0), .val (.int (2 : Int32)), .val (.ref oa2_), .unset, .unset] [(.ref oa2_)])) target
      refine st_26.trans ?_
      show Steps p.tables e below (T_26.setTop (mkF m 17 #[.val (.int x0), .val (.int (2 : Int32)), .val (.ref oa2_), .unset, .unset] [(.int (0 : Int32))])) target
      refine XS.istoreN X_26.here hx rfl (hb hby at_17) rfl (l' := #[.val (.int x0), .val (.int (2 : Int32)), .val (.ref oa2_), .val (.int (0 : Int32)), .unset]) rfl ?_
      show Steps p.tables e below (T_26.setTop (mkF m 18 #[.val (.int x0), .val (.int (2 : Int32)), .val (.ref oa2_), .val (.int (0 : Int32)), .unset] [])) target
      refine XS.iloadN X_26.here hx rfl (hb hby at_18) rfl ?_
      show Steps p.tables e below (T_26.setTop (mkF m 19 #[.val (.int x0), .val (.int (2 : Int32)), .val (.ref oa2_), .val (.int (0 : Int32)), .unset] [(.int (2 : Int32))])) target
      refine XS.ifYes X_26.here hx rfl (pc0 := 19) (pc' := 26) rfl (hb hby at_19) rfl ((if0 _ _).trans (feq (by decide : ¬ ((2 : Int32) = (0 : Int32)))).2) (by decide) (by decide) ?_
      show Steps p.tables e below (T_26.setTop (mkF m 26 #[.val (.int x0), .val (.int (2 : Int32)), .val (.ref oa2_), .val (.int (0 : Int32)), .unset] [])) target
      refine XS.iconst X_26.here hx rfl (hb hby at_26) ?_
      show Steps p.tables e below (T_26.setTop (mkF m 27 #[.val (.int x0), .val (.int (2 : Int32)), .val (.ref oa2_), .val (.int (0 : Int32)), .unset] [(.int (0 : Int32))])) target
      refine XS.istore X_26.here hx rfl (hb hby at_27) rfl (l' := #[.val (.int x0), .val (.int (2 : Int32)), .val (.ref oa2_), .val (.int (0 : Int32)), .val (.int (0 : Int32))]) rfl ?_
      show Steps p.tables e below (T_26.setTop (mkF m 29 #[.val (.int x0), .val (.int (2 : Int32)), .val (.ref oa2_), .val (.int (0 : Int32)), .val (.int (0 : Int32))] [])) target
      refine XS.iloadN X_26.here hx rfl (hb hby at_29) rfl ?_
      show Steps p.tables e below (T_26.setTop (mkF m 30 #[.val (.int x0), .val (.int (2 : Int32)), .val (.ref oa2_), .val (.int (0 : Int32)), .val (.int (0 : Int32))] [(.int (0 : Int32))])) target
      refine XS.iload X_26.here hx rfl (hb hby at_30) rfl ?_
      show Steps p.tables e below (T_26.setTop (mkF m 32 #[.val (.int x0), .val (.int (2 : Int32)), .val (.ref oa2_), .val (.int (0 : Int32)), .val (.int (0 : Int32))] [(.int (0 : Int32)), (.int (0 : Int32))])) target
      refine XS.icmpNo X_26.here hx rfl (hb hby at_32) rfl (teq (by decide : (0 : Int32) = (0 : Int32))).2 ?_
      show Steps p.tables e below (T_26.setTop (mkF m 35 #[.val (.int x0), .val (.int (2 : Int32)), .val (.ref oa2_), .val (.int (0 : Int32)), .val (.int (0 : Int32))] [])) target
      refine XS.iloadN X_26.here hx rfl (hb hby at_35) rfl ?_
      show Steps p.tables e below (T_26.setTop (mkF m 36 #[.val (.int x0), .val (.int (2 : Int32)), .val (.ref oa2_), .val (.int (0 : Int32)), .val (.int (0 : Int32))] [(.int (0 : Int32))])) target
      refine XS.aloadN X_26.here hx rfl (hb hby at_36) rfl rfl ?_
      show Steps p.tables e below (T_26.setTop (mkF m 37 #[.val (.int x0), .val (.int (2 : Int32)), .val (.ref oa2_), .val (.int (0 : Int32)), .val (.int (0 : Int32))] [(.ref oa2_), (.int (0 : Int32))])) target
      refine st_27.trans ?_
      show Steps p.tables e below (T_27.setTop (mkF m 40 #[.val (.int x0), .val (.int (2 : Int32)), .val (.ref oa2_), .val (.int (0 : Int32)), .val (.int (0 : Int32))] [(.ref oc2_), (.int (0 : Int32))])) target
      refine st_28 _ ?_
      show Steps p.tables e below (T_28.setTop (mkF m 42 #[.val (.int x0), .val (.int (2 : Int32)), .val (.ref oa2_), .val (.int (0 : Int32)), .val (.int (0 : Int32))] [(.ref as_28), (.ref oc2_), (.int (0 : Int32))])) target
      refine st_31.trans ?_
      show Steps p.tables e below (T_31.setTop (mkF m 45 #[.val (.int x0), .val (.int (2 : Int32)), .val (.ref oa2_), .val (.int (0 : Int32)), .val (.int (0 : Int32))] [(.int (own_eqs oc2_ as_28 (49 : Int32) (48 : Int32) (50 : Int32) (48 : Int32) (48 : Int32) (48 : Int32))), (.int (0 : Int32))])) target
      refine XS.icmpNo X_31.here hx rfl (hb hby at_45) rfl (teq ((own_eqF (Fld.ne f_34 Fv_28 (fun q => own_arvne f_35 V_28 (by decide) (Value.ref.inj q)))).symm : (0 : Int32) = (own_eqs oc2_ as_28 (49 : Int32) (48 : Int32) (50 : Int32) (48 : Int32) (48 : Int32) (48 : Int32)))).2 ?_
      show Steps p.tables e below (T_31.setTop (mkF m 48 #[.val (.int x0), .val (.int (2 : Int32)), .val (.ref oa2_), .val (.int (0 : Int32)), .val (.int (0 : Int32))] [])) target
      refine XS.iconst X_31.here hx rfl (hb hby at_48) ?_
      show Steps p.tables e below (T_31.setTop (mkF m 49 #[.val (.int x0), .val (.int (2 : Int32)), .val (.ref oa2_), .val (.int (0 : Int32)), .val (.int (0 : Int32))] [(.int (1 : Int32))])) target
      refine XS.goto X_31.here hx rfl (pc0 := 49) (pc' := 53) rfl (hb hby at_49) (by decide) (by decide) ?_
      show Steps p.tables e below (T_31.setTop (mkF m 53 #[.val (.int x0), .val (.int (2 : Int32)), .val (.ref oa2_), .val (.int (0 : Int32)), .val (.int (0 : Int32))] [(.int (1 : Int32))])) target
      exact kt
    obtain ⟨fs, hr, hrun, hended, hEnd⟩ := X_31.leaveW hS_28 (by rw [p_31_0]; exact hk_28) (v := some (.int (1 : Int32))) (fun h => by rw [Bd.returns] at h; cases h)
    refine ⟨_, _, retN X_31 hx (t := .boolean) Bd.returns (by simp) (hb hby at_53) hr, hrun, hended, _, _, rfl, ?_, hEnd.1, hEnd.2.1, hEnd.2.2.1, hEnd.2.2.2.mono (by decide) (by decide)⟩
    show Q_law Z x0 oa0_ oa1_ oa2_ oa3_ oa4_ oa5_ oc0_ oc1_ oc2_ oc3_ oc4_ oc5_ ov0_ ov1_ ov2_ ov3_ ov4_ ov5_ ok0_ ok1_ ok2_ ok3_ ok4_ ok5_ w1 h0 n0 _ T_31.heap _
    rw [p_31_0]
    exact ⟨rfl, N_31⟩
  · skip
    rw [erem]
    obtain ⟨_, _, ⟨T_37, L_37, k_37, n_37⟩, -, X_37, ⟨Lc_37, hQ_37, l_37, y_37, z_37⟩, st_37⟩ := Jvm.LawKit.callS X0 hx (y := (⟨"com/example/cardwarden/cardwarden/wire/ErrorCodeIsSuccessPinLaw", "pick", "(I)Lcom/example/cardwarden/cardwarden/wire/ErrorCode;"⟩ : MethodName)) hown (mvT hZ (hw _ (List.mem_of_getElem? (i := 1) rfl))) (mvT hZ (hw _ (List.mem_of_getElem? (i := 2) rfl))) (mvT hZ (hw _ (List.mem_of_getElem? (i := 3) rfl))) (mvT hZ (hw _ (List.mem_of_getElem? (i := 4) rfl))) (by decide) (backOf (W := 0) (rm_pick3 l Z a0 hw []  oa3_ h0 n0 Z0 S3_) hZ (hw _ (List.mem_of_getElem? (i := 4) rfl)) (hw _ (List.mem_of_getElem? (i := 3) rfl)) (by decide) (by decide)) (g := (mkF m 9 #[.val (.int x0), .val (.int (3 : Int32)), .unset, .unset, .unset] [(.int (3 : Int32))])) rfl (by rw [hml]; rfl) (argsL := [(.int (3 : Int32))]) (rest := []) (lenOf pd_I_LcomexamplecardwardencardwardenwireErrorCode rfl) rfl (by show 2 * 0 + _ ≤ _; exact Nat.le_of_eq rfl) (hb hby at_9) (fun _ _ => ⟨rfl, e0, (by decide : 0 + 0 ≤ _), (by decide : 0 + 0 ≤ _)⟩)
    dsimp only [Pt.U, Pt.locs, Pt.cells, Pt.slots] at X_37 l_37 y_37 z_37 st_37 hQ_37
    subst y_37 z_37
    obtain ⟨rfl, N_37q, p_37_0⟩ := hQ_37
    have N_37 : Fr n0 L_37 := by rw [l_37]; exact Fr.app N0 N_37q
    clear l_37
    obtain ⟨cq_38, kq_38, q_38a, q_38b, q_38c⟩ := isOf hZ p_37_0 EA3
    obtain ⟨_, _, ⟨T_38, L_38, k_38, n_38⟩, -, X_38, ⟨Lc_38, hQ_38, l_38, y_38, z_38⟩, st_38⟩ := X_37.virtualBack hx (y := (⟨"com/example/cardwarden/cardwarden/wire/ErrorCode", "isSuccess", "()Z"⟩ : MethodName)) (z := (⟨"com/example/cardwarden/cardwarden/wire/ErrorCode", "isSuccess", "()Z"⟩ : MethodName)) hown (mvT hZ (hw _ (List.mem_of_getElem? (i := 8) rfl))) (mvT hZ (hw _ (List.mem_of_getElem? (i := 9) rfl))) (notFace_of_selects (args := #[]) (mvT hZ (hw _ (List.mem_of_getElem? (i := 11) rfl)))) (mvT hZ (hw _ (List.mem_of_getElem? (i := 11) rfl))) (mvT hZ (hw _ (List.mem_of_getElem? (i := 10) rfl))) (by decide) (backOf (W := 0) (rm_is0 l Z a0 hw [] oa3_ oa0_ h0 n0 Z0 S0_ NE3) hZ (hw _ (List.mem_of_getElem? (i := 12) rfl)) (hw _ (List.mem_of_getElem? (i := 6) rfl)) (by decide) (by decide)) q_38a q_38c (g := (mkF m 14 #[.val (.int x0), .val (.int (3 : Int32)), .val (.ref oa3_), .unset, .unset] [(.ref oa3_)])) rfl (by rw [hml]; rfl) (Steps.refl _) (argsL := []) (rest := []) (lenOf pd__Z rfl) rfl (by show 2 * 0 + _ ≤ _; exact Nat.le_of_eq rfl) (hb hby at_14) (fun _ _ => ⟨rfl, p_37_0, (by decide : 0 + 0 ≤ _), (by decide : 0 + 0 ≤ _)⟩)
    dsimp only [Pt.U, Pt.locs, Pt.cells, Pt.slots] at X_38 l_38 y_38 z_38 st_38 hQ_38
    subst y_38 z_38
    obtain ⟨rfl, N_38q, p_38_0⟩ := hQ_38
    have N_38 : Fr n0 L_38 := by rw [l_38]; exact Fr.app N_37 N_38q
    clear l_38
    obtain ⟨cq_39, kq_39, q_39a, q_39b, q_39c⟩ := isOf hZ p_38_0 EA3
    obtain ⟨_, _, ⟨T_39, L_39, k_39, n_39⟩, -, X_39, ⟨Lc_39, hQ_39, l_39, y_39, z_39⟩, st_39⟩ := X_38.virtualBack hx (y := (⟨"com/example/cardwarden/cardwarden/wire/ErrorCode", "code", "()Ljava/lang/String;"⟩ : MethodName)) (z := (⟨"com/example/cardwarden/cardwarden/wire/ErrorCode", "code", "()Ljava/lang/String;"⟩ : MethodName)) hown (mvT hZ (hw _ (List.mem_of_getElem? (i := 14) rfl))) (mvT hZ (hw _ (List.mem_of_getElem? (i := 15) rfl))) (notFace_of_selects (args := #[]) (mvT hZ (hw _ (List.mem_of_getElem? (i := 17) rfl)))) (mvT hZ (hw _ (List.mem_of_getElem? (i := 17) rfl))) (mvT hZ (hw _ (List.mem_of_getElem? (i := 16) rfl))) (by decide) (backOf (W := 1) (rm_cod l Z a0 hw [] oa3_ oc3_ h0 n0 Z0 FC3) hZ (hw _ (List.mem_of_getElem? (i := 18) rfl)) (hw _ (List.mem_of_getElem? (i := 6) rfl)) (by decide) (by decide)) q_39a q_39c (g := (mkF m 37 #[.val (.int x0), .val (.int (3 : Int32)), .val (.ref oa3_), .val (.int (0 : Int32)), .val (.int (0 : Int32))] [(.ref oa3_), (.int (0 : Int32))])) rfl (by rw [hml]; rfl) (Steps.refl _) (argsL := []) (rest := [(.int (0 : Int32))]) (lenOf pd__LjavalangString rfl) rfl (by show 2 * 0 + _ ≤ _; exact Nat.le_of_eq rfl) (hb hby at_37) (fun _ _ => ⟨rfl, p_38_0, (by decide : 0 + 0 ≤ _), (by decide : 0 + 0 ≤ _)⟩)
    dsimp only [Pt.U, Pt.locs, Pt.cells, Pt.slots] at X_39 l_39 y_39 z_39 st_39 hQ_39
    subst y_39 z_39
    obtain ⟨rfl, N_39q, p_39_0⟩ := hQ_39
    have N_39 : Fr n0 L_39 := by rw [l_39]; exact Fr.app N_38 N_39q
    clear l_39
    have wS : ∀ d ∈ Bundle.stringAtoms, d.before a0 Z = true := by
      intro d hd
      simp only [Bundle.stringAtoms, List.mem_cons, List.not_mem_nil, or_false] at hd
      rcases hd with rfl | rfl | rfl | rfl | rfl | rfl | rfl
      · exact hw _ (List.mem_of_getElem? (i := 22) rfl)
      · exact hw _ (List.mem_of_getElem? (i := 23) rfl)
      · exact hw _ (List.mem_of_getElem? (i := 24) rfl)
      · exact hw _ (List.mem_of_getElem? (i := 25) rfl)
      · exact hw _ (List.mem_of_getElem? (i := 26) rfl)
      · exact hw _ (List.mem_of_getElem? (i := 27) rfl)
      · exact hw _ (List.mem_of_getElem? (i := 28) rfl)
    have hS0 : s.Since s.vm 0 := ⟨State.Warmed39.refl s, fun j q hj hq => absurd (Array.getElem?_eq_some_iff.mp hq).1 (Nat.not_lt.mpr hj)⟩
    obtain ⟨as_40, T_40, h_40, k1_40, bs_40, kb_40, X_40, e_40, E_40, hS_40, hk_40, hZ_40, hown_40, A_40, Fc_40, Fv_40, V_40, -, -, -, st_40⟩ := ldcSV (s := s) (vm0 := s.vm) (own := "com/example/cardwarden/cardwarden/wire/ErrorCodeIsSuccessPinLaw") (text := "000") X_39 hx hZ hown (hw _ (List.mem_of_getElem? (i := 21) rfl)) wS p_39_0 (k0 := 0) hS0 (Nat.zero_le _) (by rw [hh, ← hn0]; exact N_39) (fun b cl q => by rw [hh, ← hZh]; exact q) (Ts := []) (by rw [hZs]; exact IB.start) (by simp) hheld hcw (vs := [(.int (48 : Int32)), (.int (48 : Int32)), (.int (48 : Int32))]) (z := (3 : Int32)) ⟨by decide, by decide⟩ (by decide) rfl (g := (mkF m 40 #[.val (.int x0), .val (.int (3 : Int32)), .val (.ref oa3_), .val (.int (0 : Int32)), .val (.int (0 : Int32))] [(.ref oc3_), (.int (0 : Int32))])) rfl (hb hby at_40) (n := 12) (by decide) (by decide) (by decide) (by decide)
    have hZ := hZ_40
    have hown := hown_40
    have Z_41 : n0 ≤ h_40.size := Nat.le_trans Z0 E_40.1
    have f_44 := (ES3.ext E_40)
    have f_45 := (CO3.ext E_40)
    have f_46 := (VA3.ext E_40)
    have f_47 := (AV3.ext E_40)
    have f_48 := (SC.ext E_40)
    obtain ⟨cq_43, kq_43, q_43a, q_43b, q_43c⟩ := isOf hZ e_40 f_44
    obtain ⟨_, _, ⟨T_43, L_43, k_43, n_43⟩, -, X_43, ⟨Lc_43, hQ_43, l_43, y_43, z_43⟩, st_43⟩ := X_40.virtualBack hx (y := (⟨"java/lang/String", "equals", "(Ljava/lang/Object;)Z"⟩ : MethodName)) (z := (⟨"java/lang/String", "equals", "(Ljava/lang/Object;)Z"⟩ : MethodName)) hown (mvT hZ (hw _ (List.mem_of_getElem? (i := 29) rfl))) (mvT hZ (hw _ (List.mem_of_getElem? (i := 30) rfl))) (notFace_of_selects (args := #[]) (mvT hZ (hw _ (List.mem_of_getElem? (i := 32) rfl)))) (mvT hZ (hw _ (List.mem_of_getElem? (i := 32) rfl))) (mvT hZ (hw _ (List.mem_of_getElem? (i := 31) rfl))) (by decide) (backOf (W := 1) (rm_eqs l Z a0 hw [] oc3_ as_40 ov3_ bs_40 ok3_ kb_40 (49 : Int32) (48 : Int32) (51 : Int32) (48 : Int32) (48 : Int32) (48 : Int32) w1 h_40 n0 Z_41 f_44 A_40 f_45 Fc_40 f_46 Fv_40 f_47 V_40 f_48 hw1) hZ (hw _ (List.mem_of_getElem? (i := 33) rfl)) (hw _ (List.mem_of_getElem? (i := 22) rfl)) (by decide) (by decide)) q_43a q_43c (g := (mkF m 42 #[.val (.int x0), .val (.int (3 : Int32)), .val (.ref oa3_), .val (.int (0 : Int32)), .val (.int (0 : Int32))] [(.ref as_40), (.ref oc3_), (.int (0 : Int32))])) rfl (by rw [hml]; rfl) (Steps.refl _) (argsL := [(.ref as_40)]) (rest := [(.int (0 : Int32))]) (lenOf pd_LjavalangObject_Z rfl) rfl (by show 2 * 0 + _ ≤ _; exact Nat.le_of_eq rfl) (hb hby at_42) (fun _ _ => ⟨rfl, e_40, (by decide : 2 + 0 ≤ _), (by decide : 16 + 0 ≤ _)⟩)
    dsimp only [Pt.U, Pt.locs, Pt.cells, Pt.slots] at X_43 l_43 y_43 z_43 st_43 hQ_43
    subst y_43 z_43
    obtain ⟨rfl, N_43q, p_43_0⟩ := hQ_43
    have N_43 : Fr n0 L_43 := by rw [l_43]; exact Fr.app N_39 N_43q
    clear l_43
    refine own_go (S' := T_43.setTop (mkF m 53 #[.val (.int x0), .val (.int (3 : Int32)), .val (.ref oa3_), .val (.int (0 : Int32)), .val (.int (0 : Int32))] [(.int (1 : Int32))])) (fun target kt => ?_) ?_
    · show Steps p.tables e below (s₁.setTop (mkF m 8 #[.val (.int x0), .val (.int (3 : Int32)), .unset, .unset, .unset] [])) target
      refine XS.iloadN X0.here hx rfl (hb hby at_8) rfl ?_
      show Steps p.tables e below (s₁.setTop (mkF m 9 #[.val (.int x0), .val (.int (3 : Int32)), .unset, .unset, .unset] [(.int (3 : Int32))])) target
      refine st_37 _ ?_
      show Steps p.tables e below (T_37.setTop (mkF m 12 #[.val (.int x0), .val (.int (3 : Int32)), .unset, .unset, .unset] [(.ref oa3_)])) target
      refine XS.astoreN X_37.here hx rfl (hb hby at_12) rfl rfl (l' := #[.val (.int x0), .val (.int (3 : Int32)), .val (.ref oa3_), .unset, .unset]) rfl ?_
      show Steps p.tables e below (T_37.setTop (mkF m 13 #[.val (.int x0), .val (.int (3 : Int32)), .val (.ref oa3_), .unset, .unset] [])) target
      refine XS.aloadN X_37.here hx rfl (hb hby at_13) rfl rfl ?_
      show Steps p.tables e below (T_37.setTop (mkF m 14 #[.val (.int x0), .val (.int (3 : Int32)), .val (.ref oa3_), .unset, .unset] [(.ref oa3_)])) target
      refine st_38.trans ?_
      show Steps p.tables e below (T_38.setTop (mkF m 17 #[.val (.int x0), .val (.int (3 : Int32)), .val (.ref oa3_), .unset, .unset] [(.int (0 : Int32))])) target
      refine XS.istoreN X_38.here hx rfl (hb hby at_17) rfl (l' := #[.val (.int x0), .val (.int (3 : Int32)), .val (.ref oa3_), .val (.int (0 : Int32)), .unset]) rfl ?_
      show Steps p.tables e below (T_38.setTop (mkF m 18 #[.val (.int x0), .val (.int (3 : Int32)), .val (.ref oa3_), .val (.int (0 : Int32)), .unset] [])) target
      refine XS.iloadN X_38.here hx rfl (hb hby at_18) rfl ?_
      show Steps p.tables e below (T_38.setTop (mkF m 19 #[.val (.int x0), .val (.int (3 : Int32)), .val (.ref oa3_), .val (.int (0 : Int32)), .unset] [(.int (3 : Int32))])) target
      refine XS.ifYes X_38.here hx rfl (pc0 := 19) (pc' := 26) rfl (hb hby at_19) rfl ((if0 _ _).trans (feq (by decide : ¬ ((3 : Int32) = (0 : Int32)))).2) (by decide) (by decide) ?_
      show Steps p.tables e below (T_38.setTop (mkF m 26 #[.val (.int x0), .val (.int (3 : Int32)), .val (.ref oa3_), .val (.int (0 : Int32)), .unset] [])) target
      refine XS.iconst X_38.here hx rfl (hb hby at_26) ?_
      show Steps p.tables e below (T_38.setTop (mkF m 27 #[.val (.int x0), .val (.int (3 : Int32)), .val (.ref oa3_), .val (.int (0 : Int32)), .unset] [(.int (0 : Int32))])) target
      refine XS.istore X_38.here hx rfl (hb hby at_27) rfl (l' := #[.val (.int x0), .val (.int (3 : Int32)), .val (.ref oa3_), .val (.int (0 : Int32)), .val (.int (0 : Int32))]) rfl ?_
      show Steps p.tables e below (T_38.setTop (mkF m 29 #[.val (.int x0), .val (.int (3 : Int32)), .val (.ref oa3_), .val (.int (0 : Int32)), .val (.int (0 : Int32))] [])) target
      refine XS.iloadN X_38.here hx rfl (hb hby at_29) rfl ?_
      show Steps p.tables e below (T_38.setTop (mkF m 30 #[.val (.int x0), .val (.int (3 : Int32)), .val (.ref oa3_), .val (.int (0 : Int32)), .val (.int (0 : Int32))] [(.int (0 : Int32))])) target
      refine XS.iload X_38.here hx rfl (hb hby at_30) rfl ?_
      show Steps p.tables e below (T_38.setTop (mkF m 32 #[.val (.int x0), .val (.int (3 : Int32)), .val (.ref oa3_), .val (.int (0 : Int32)), .val (.int (0 : Int32))] [(.int (0 : Int32)), (.int (0 : Int32))])) target
      refine XS.icmpNo X_38.here hx rfl (hb hby at_32) rfl (teq (by decide : (0 : Int32) = (0 : Int32))).2 ?_
      show Steps p.tables e below (T_38.setTop (mkF m 35 #[.val (.int x0), .val (.int (3 : Int32)), .val (.ref oa3_), .val (.int (0 : Int32)), .val (.int (0 : Int32))] [])) target
      refine XS.iloadN X_38.here hx rfl (hb hby at_35) rfl ?_
      show Steps p.tables e below (T_38.setTop (mkF m 36 #[.val (.int x0), .val (.int (3 : Int32)), .val (.ref oa3_), .val (.int (0 : Int32)), .val (.int (0 : Int32))] [(.int (0 : Int32))])) target
      refine XS.aloadN X_38.here hx rfl (hb hby at_36) rfl rfl ?_
      show Steps p.tables e below (T_38.setTop (mkF m 37 #[.val (.int x0), .val (.int (3 : Int32)), .val (.ref oa3_), .val (.int (0 : Int32)), .val (.int (0 : Int32))] [(.ref oa3_), (.int (0 : Int32))])) target
      refine st_39.trans ?_
      show Steps p.tables e below (T_39.setTop (mkF m 40 #[.val (.int x0), .val (.int (3 : Int32)), .val (.ref oa3_), .val (.int (0 : Int32)), .val (.int (0 : Int32))] [(.ref oc3_), (.int (0 : Int32))])) target
      refine st_40 _ ?_
      show Steps p.tables e below (T_40.setTop (mkF m 42 #[.val (.int x0), .val (.int (3 : Int32)), .val (.ref oa3_), .val (.int (0 : Int32)), .val (.int (0 : Int32))] [(.ref as_40), (.ref oc3_), (.int (0 : Int32))])) target
      refine st_43.trans ?_
      show Steps p.tables e below (T_43.setTop (mkF m 45 #[.val (.int x0), .val (.int (3 : Int32)), .val (.ref oa3_), .val (.int (0 : Int32)), .val (.int (0 : Int32))] [(.int (own_eqs oc3_ as_40 (49 : Int32) (48 : Int32) (51 : Int32) (48 : Int32) (48 : Int32) (48 : Int32))), (.int (0 : Int32))])) target
      refine XS.icmpNo X_43.here hx rfl (hb hby at_45) rfl (teq ((own_eqF (Fld.ne f_46 Fv_40 (fun q => own_arvne f_47 V_40 (by decide) (Value.ref.inj q)))).symm : (0 : Int32) = (own_eqs oc3_ as_40 (49 : Int32) (48 : Int32) (51 : Int32) (48 : Int32) (48 : Int32) (48 : Int32)))).2 ?_
      show Steps p.tables e below (T_43.setTop (mkF m 48 #[.val (.int x0), .val (.int (3 : Int32)), .val (.ref oa3_), .val (.int (0 : Int32)), .val (.int (0 : Int32))] [])) target
      refine XS.iconst X_43.here hx rfl (hb hby at_48) ?_
      show Steps p.tables e below (T_43.setTop (mkF m 49 #[.val (.int x0), .val (.int (3 : Int32)), .val (.ref oa3_), .val (.int (0 : Int32)), .val (.int (0 : Int32))] [(.int (1 : Int32))])) target
      refine XS.goto X_43.here hx rfl (pc0 := 49) (pc' := 53) rfl (hb hby at_49) (by decide) (by decide) ?_
      show Steps p.tables e below (T_43.setTop (mkF m 53 #[.val (.int x0), .val (.int (3 : Int32)), .val (.ref oa3_), .val (.int (0 : Int32)), .val (.int (0 : Int32))] [(.int (1 : Int32))])) target
      exact kt
    obtain ⟨fs, hr, hrun, hended, hEnd⟩ := X_43.leaveW hS_40 (by rw [p_43_0]; exact hk_40) (v := some (.int (1 : Int32))) (fun h => by rw [Bd.returns] at h; cases h)
    refine ⟨_, _, retN X_43 hx (t := .boolean) Bd.returns (by simp) (hb hby at_53) hr, hrun, hended, _, _, rfl, ?_, hEnd.1, hEnd.2.1, hEnd.2.2.1, hEnd.2.2.2.mono (by decide) (by decide)⟩
    show Q_law Z x0 oa0_ oa1_ oa2_ oa3_ oa4_ oa5_ oc0_ oc1_ oc2_ oc3_ oc4_ oc5_ ov0_ ov1_ ov2_ ov3_ ov4_ ov5_ ok0_ ok1_ ok2_ ok3_ ok4_ ok5_ w1 h0 n0 _ T_43.heap _
    rw [p_43_0]
    exact ⟨rfl, N_43⟩
  · skip
    rw [erem]
    obtain ⟨_, _, ⟨T_49, L_49, k_49, n_49⟩, -, X_49, ⟨Lc_49, hQ_49, l_49, y_49, z_49⟩, st_49⟩ := Jvm.LawKit.callS X0 hx (y := (⟨"com/example/cardwarden/cardwarden/wire/ErrorCodeIsSuccessPinLaw", "pick", "(I)Lcom/example/cardwarden/cardwarden/wire/ErrorCode;"⟩ : MethodName)) hown (mvT hZ (hw _ (List.mem_of_getElem? (i := 1) rfl))) (mvT hZ (hw _ (List.mem_of_getElem? (i := 2) rfl))) (mvT hZ (hw _ (List.mem_of_getElem? (i := 3) rfl))) (mvT hZ (hw _ (List.mem_of_getElem? (i := 4) rfl))) (by decide) (backOf (W := 0) (rm_pick4 l Z a0 hw []  oa4_ h0 n0 Z0 S4_) hZ (hw _ (List.mem_of_getElem? (i := 4) rfl)) (hw _ (List.mem_of_getElem? (i := 3) rfl)) (by decide) (by decide)) (g := (mkF m 9 #[.val (.int x0), .val (.int (4 : Int32)), .unset, .unset, .unset] [(.int (4 : Int32))])) rfl (by rw [hml]; rfl) (argsL := [(.int (4 : Int32))]) (rest := []) (lenOf pd_I_LcomexamplecardwardencardwardenwireErrorCode rfl) rfl (by show 2 * 0 + _ ≤ _; exact Nat.le_of_eq rfl) (hb hby at_9) (fun _ _ => ⟨rfl, e0, (by decide : 0 + 0 ≤ _), (by decide : 0 + 0 ≤ _)⟩)
    dsimp only [Pt.U, Pt.locs, Pt.cells, Pt.slots] at X_49 l_49 y_49 z_49 st_49 hQ_49
    subst y_49 z_49
    obtain ⟨rfl, N_49q, p_49_0⟩ := hQ_49
    have N_49 : Fr n0 L_49 := by rw [l_49]; exact Fr.app N0 N_49q
    clear l_49
    obtain ⟨cq_50, kq_50, q_50a, q_50b, q_50c⟩ := isOf hZ p_49_0 EA4
    obtain ⟨_, _, ⟨T_50, L_50, k_50, n_50⟩, -, X_50, ⟨Lc_50, hQ_50, l_50, y_50, z_50⟩, st_50⟩ := X_49.virtualBack hx (y := (⟨"com/example/cardwarden/cardwarden/wire/ErrorCode", "isSuccess", "()Z"⟩ : MethodName)) (z := (⟨"com/example/cardwarden/cardwarden/wire/ErrorCode", "isSuccess", "()Z"⟩ : MethodName)) hown (mvT hZ (hw _ (List.mem_of_getElem? (i := 8) rfl))) (mvT hZ (hw _ (List.mem_of_getElem? (i := 9) rfl))) (notFace_of_selects (args := #[]) (mvT hZ (hw _ (List.mem_of_getElem? (i := 11) rfl)))) (mvT hZ (hw _ (List.mem_of_getElem? (i := 11) rfl))) (mvT hZ (hw _ (List.mem_of_getElem? (i := 10) rfl))) (by decide) (backOf (W := 0) (rm_is0 l Z a0 hw [] oa4_ oa0_ h0 n0 Z0 S0_ NE4) hZ (hw _ (List.mem_of_getElem? (i := 12) rfl)) (hw _ (List.mem_of_getElem? (i := 6) rfl)) (by decide) (by decide)) q_50a q_50c (g := (mkF m 14 #[.val (.int x0), .val (.int (4 : Int32)), .val (.ref oa4_), .unset, .unset] [(.ref oa4_)])) rfl (by rw [hml]; rfl) (Steps.refl _) (argsL := []) (rest := []) (lenOf pd__Z rfl) rfl (by show 2 * 0 + _ ≤ _; exact Nat.le_of_eq rfl) (hb hby at_14) (fun _ _ => ⟨rfl, p_49_0, (by decide : 0 + 0 ≤ _), (by decide : 0 + 0 ≤ _)⟩)
    dsimp only [Pt.U, Pt.locs, Pt.cells, Pt.slots] at X_50 l_50 y_50 z_50 st_50 hQ_50
    subst y_50 z_50
    obtain ⟨rfl, N_50q, p_50_0⟩ := hQ_50
    have N_50 : Fr n0 L_50 := by rw [l_50]; exact Fr.app N_49 N_50q
    clear l_50
    obtain ⟨cq_51, kq_51, q_51a, q_51b, q_51c⟩ := isOf hZ p_50_0 EA4
    obtain ⟨_, _, ⟨T_51, L_51, k_51, n_51⟩, -, X_51, ⟨Lc_51, hQ_51, l_51, y_51, z_51⟩, st_51⟩ := X_50.virtualBack hx (y := (⟨"com/example/cardwarden/cardwarden/wire/ErrorCode", "code", "()Ljava/lang/String;"⟩ : MethodName)) (z := (⟨"com/example/cardwarden/cardwarden/wire/ErrorCode", "code", "()Ljava/lang/String;"⟩ : MethodName)) hown (mvT hZ (hw _ (List.mem_of_getElem? (i := 14) rfl))) (mvT hZ (hw _ (List.mem_of_getElem? (i := 15) rfl))) (notFace_of_selects (args := #[]) (mvT hZ (hw _ (List.mem_of_getElem? (i := 17) rfl)))) (mvT hZ (hw _ (List.mem_of_getElem? (i := 17) rfl))) (mvT hZ (hw _ (List.mem_of_getElem? (i := 16) rfl))) (by decide) (backOf (W := 1) (rm_cod l Z a0 hw [] oa4_ oc4_ h0 n0 Z0 FC4) hZ (hw _ (List.mem_of_getElem? (i := 18) rfl)) (hw _ (List.mem_of_getElem? (i := 6) rfl)) (by decide) (by decide)) q_51a q_51c (g := (mkF m 37 #[.val (.int x0), .val (.int (4 : Int32)), .val (.ref oa4_), .val (.int (0 : Int32)), .val (.int (0 : Int32))] [(.ref oa4_), (.int (0 : Int32))])) rfl (by rw [hml]; rfl) (Steps.refl _) (argsL := []) (rest := [(.int (0 : Int32))]) (lenOf pd__LjavalangString rfl) rfl (by show 2 * 0 + _ ≤ _; exact Nat.le_of_eq rfl) (hb hby at_37) (fun _ _ => ⟨rfl, p_50_0, (by decide : 0 + 0 ≤ _), (by decide : 0 + 0 ≤ _)⟩)
    dsimp only [Pt.U, Pt.locs, Pt.cells, Pt.slots] at X_51 l_51 y_51 z_51 st_51 hQ_51
    subst y_51 z_51
    obtain ⟨rfl, N_51q, p_51_0⟩ := hQ_51
    have N_51 : Fr n0 L_51 := by rw [l_51]; exact Fr.app N_50 N_51q
    clear l_51
    have wS : ∀ d ∈ Bundle.stringAtoms, d.before a0 Z = true := by
      intro d hd
      simp only [Bundle.stringAtoms, List.mem_cons, List.not_mem_nil, or_false] at hd
      rcases hd with rfl | rfl | rfl | rfl | rfl | rfl | rfl
      · exact hw _ (List.mem_of_getElem? (i := 22) rfl)
      · exact hw _ (List.mem_of_getElem? (i := 23) rfl)
      · exact hw _ (List.mem_of_getElem? (i := 24) rfl)
      · exact hw _ (List.mem_of_getElem? (i := 25) rfl)
      · exact hw _ (List.mem_of_getElem? (i := 26) rfl)
      · exact hw _ (List.mem_of_getElem? (i := 27) rfl)
      · exact hw _ (List.mem_of_getElem? (i := 28) rfl)
    have hS0 : s.Since s.vm 0 := ⟨State.Warmed39.refl s, fun j q hj hq => absurd (Array.getElem?_eq_some_iff.mp hq).1 (Nat.not_lt.mpr hj)⟩
    obtain ⟨as_52, T_52, h_52, k1_52, bs_52, kb_52, X_52, e_52, E_52, hS_52, hk_52, hZ_52, hown_52, A_52, Fc_52, Fv_52, V_52, -, -, -, st_52⟩ := ldcSV (s := s) (vm0 := s.vm) (own := "com/example/cardwarden/cardwarden/wire/ErrorCodeIsSuccessPinLaw") (text := "000") X_51 hx hZ hown (hw _ (List.mem_of_getElem? (i := 21) rfl)) wS p_51_0 (k0 := 0) hS0 (Nat.zero_le _) (by rw [hh, ← hn0]; exact N_51) (fun b cl q => by rw [hh, ← hZh]; exact q) (Ts := []) (by rw [hZs]; exact IB.start) (by simp) hheld hcw (vs := [(.int (48 : Int32)), (.int (48 : Int32)), (.int (48 : Int32))]) (z := (3 : Int32)) ⟨by decide, by decide⟩ (by decide) rfl (g := (mkF m 40 #[.val (.int x0), .val (.int (4 : Int32)), .val (.ref oa4_), .val (.int (0 : Int32)), .val (.int (0 : Int32))] [(.ref oc4_), (.int (0 : Int32))])) rfl (hb hby at_40) (n := 12) (by decide) (by decide) (by decide) (by decide)
    have hZ := hZ_52
    have hown := hown_52
    have Z_53 : n0 ≤ h_52.size := Nat.le_trans Z0 E_52.1
    have f_56 := (ES4.ext E_52)
    have f_57 := (CO4.ext E_52)
    have f_58 := (VA4.ext E_52)
    have f_59 := (AV4.ext E_52)
    have f_60 := (SC.ext E_52)
    obtain ⟨cq_55, kq_55, q_55a, q_55b, q_55c⟩ := isOf hZ e_52 f_56
    obtain ⟨_, _, ⟨T_55, L_55, k_55, n_55⟩, -, X_55, ⟨Lc_55, hQ_55, l_55, y_55, z_55⟩, st_55⟩ := X_52.virtualBack hx (y := (⟨"java/lang/String", "equals", "(Ljava/lang/Object;)Z"⟩ : MethodName)) (z := (⟨"java/lang/String", "equals", "(Ljava/lang/Object;)Z"⟩ : MethodName)) hown (mvT hZ (hw _ (List.mem_of_getElem? (i := 29) rfl))) (mvT hZ (hw _ (List.mem_of_getElem? (i := 30) rfl))) (notFace_of_selects (args := #[]) (mvT hZ (hw _ (List.mem_of_getElem? (i := 32) rfl)))) (mvT hZ (hw _ (List.mem_of_getElem? (i := 32) rfl))) (mvT hZ (hw _ (List.mem_of_getElem? (i := 31) rfl))) (by decide) (backOf (W := 1) (rm_eqs l Z a0 hw [] oc4_ as_52 ov4_ bs_52 ok4_ kb_52 (49 : Int32) (48 : Int32) (52 : Int32) (48 : Int32) (48 : Int32) (48 : Int32) w1 h_52 n0 Z_53 f_56 A_52 f_57 Fc_52 f_58 Fv_52 f_59 V_52 f_60 hw1) hZ (hw _ (List.mem_of_getElem? (i := 33) rfl)) (hw _ (List.mem_of_getElem? (i := 22) rfl)) (by decide) (by decide)) q_55a q_55c (g := (mkF m 42 #[.val (.int x0), .val (.int (4 : Int32)), .val (.ref oa4_), .val (.int (0 : Int32)), .val (.int (0 : Int32))] [(.ref as_52), (.ref oc4_), (.int (0 : Int32))])) rfl (by rw [hml]; rfl) (Steps.refl _) (argsL := [(.ref as_52)]) (rest := [(.int (0 : Int32))]) (lenOf pd_LjavalangObject_Z rfl) rfl (by show 2 * 0 + _ ≤ _; exact Nat.le_of_eq rfl) (hb hby at_42) (fun _ _ => ⟨rfl, e_52, (by decide : 2 + 0 ≤ _), (by decide : 16 + 0 ≤ _)⟩)
    dsimp only [Pt.U, Pt.locs, Pt.cells, Pt.slots] at X_55 l_55 y_55 z_55 st_55 hQ_55
    subst y_55 z_55
    obtain ⟨rfl, N_55q, p_55_0⟩ := hQ_55
    have N_55 : Fr n0 L_55 := by rw [l_55]; exact Fr.app N_51 N_55q
    clear l_55
    refine own_go (S' := T_55.setTop (mkF m 53 #[.val (.int x0), .val (.int (4 : Int32)), .val (.ref oa4_), .val (.int (0 : Int32)), .val (.int (0 : Int32))] [(.int (1 : Int32))])) (fun target kt => ?_) ?_
    · show Steps p.tables e below (s₁.setTop (mkF m 8 #[.val (.int x0), .val (.int (4 : Int32)), .unset, .unset, .unset] [])) target
      refine XS.iloadN X0.here hx rfl (hb hby at_8) rfl ?_
      show Steps p.tables e below (s₁.setTop (mkF m 9 #[.val (.int x0), .val (.int (4 : Int32)), .unset, .unset, .unset] [(.int (4 : Int32))])) target
      refine st_49 _ ?_
      show Steps p.tables e below (T_49.setTop (mkF m 12 #[.val (.int x0), .val (.int (4 : Int32)), .unset, .unset, .unset] [(.ref oa4_)])) target
      refine XS.astoreN X_49.here hx rfl (hb hby at_12) rfl rfl (l' := #[.val (.int x0), .val (.int (4 : Int32)), .val (.ref oa4_), .unset, .unset]) rfl ?_
      show Steps p.tables e below (T_49.setTop (mkF m 13 #[.val (.int x0), .val (.int (4 : Int32)), .val (.ref oa4_), .unset, .unset] [])) target
      refine XS.aloadN X_49.here hx rfl (hb hby at_13) rfl rfl ?_
      show Steps p.tables e below (T_49.setTop (mkF m 14 #[.val (.int x0), .val (.int (4 : Int32)), .val (.ref oa4_), .unset, .unset] [(.ref oa4_)])) target
      refine st_50.trans ?_
      show Steps p.tables e below (T_50.setTop (mkF m 17 #[.val (.int x0), .val (.int (4 : Int32)), .val (.ref oa4_), .unset, .unset] [(.int (0 : Int32))])) target
      refine XS.istoreN X_50.here hx rfl (hb hby at_17) rfl (l' := #[.val (.int x0), .val (.int (4 : Int32)), .val (.ref oa4_), .val (.int (0 : Int32)), .unset]) rfl ?_
      show Steps p.tables e below (T_50.setTop (mkF m 18 #[.val (.int x0), .val (.int (4 : Int32)), .val (.ref oa4_), .val (.int (0 : Int32)), .unset] [])) target
      refine XS.iloadN X_50.here hx rfl (hb hby at_18) rfl ?_
      show Steps p.tables e below (T_50.setTop (mkF m 19 #[.val (.int x0), .val (.int (4 : Int32)), .val (.ref oa4_), .val (.int (0 : Int32)), .unset] [(.int (4 : Int32))])) target
      refine XS.ifYes X_50.here hx rfl (pc0 := 19) (pc' := 26) rfl (hb hby at_19) rfl ((if0 _ _).trans (feq (by decide : ¬ ((4 : Int32) = (0 : Int32)))).2) (by decide) (by decide) ?_
      show Steps p.tables e below (T_50.setTop (mkF m 26 #[.val (.int x0), .val (.int (4 : Int32)), .val (.ref oa4_), .val (.int (0 : Int32)), .unset] [])) target
      refine XS.iconst X_50.here hx rfl (hb hby at_26) ?_
      show Steps p.tables e below (T_50.setTop (mkF m 27 #[.val (.int x0), .val (.int (4 : Int32)), .val (.ref oa4_), .val (.int (0 : Int32)), .unset] [(.int (0 : Int32))])) target
      refine XS.istore X_50.here hx rfl (hb hby at_27) rfl (l' := #[.val (.int x0), .val (.int (4 : Int32)), .val (.ref oa4_), .val (.int (0 : Int32)), .val (.int (0 : Int32))]) rfl ?_
      show Steps p.tables e below (T_50.setTop (mkF m 29 #[.val (.int x0), .val (.int (4 : Int32)), .val (.ref oa4_), .val (.int (0 : Int32)), .val (.int (0 : Int32))] [])) target
      refine XS.iloadN X_50.here hx rfl (hb hby at_29) rfl ?_
      show Steps p.tables e below (T_50.setTop (mkF m 30 #[.val (.int x0), .val (.int (4 : Int32)), .val (.ref oa4_), .val (.int (0 : Int32)), .val (.int (0 : Int32))] [(.int (0 : Int32))])) target
      refine XS.iload X_50.here hx rfl (hb hby at_30) rfl ?_
      show Steps p.tables e below (T_50.setTop (mkF m 32 #[.val (.int x0), .val (.int (4 : Int32)), .val (.ref oa4_), .val (.int (0 : Int32)), .val (.int (0 : Int32))] [(.int (0 : Int32)), (.int (0 : Int32))])) target
      refine XS.icmpNo X_50.here hx rfl (hb hby at_32) rfl (teq (by decide : (0 : Int32) = (0 : Int32))).2 ?_
      show Steps p.tables e below (T_50.setTop (mkF m 35 #[.val (.int x0), .val (.int (4 : Int32)), .val (.ref oa4_), .val (.int (0 : Int32)), .val (.int (0 : Int32))] [])) target
      refine XS.iloadN X_50.here hx rfl (hb hby at_35) rfl ?_
      show Steps p.tables e below (T_50.setTop (mkF m 36 #[.val (.int x0), .val (.int (4 : Int32)), .val (.ref oa4_), .val (.int (0 : Int32)), .val (.int (0 : Int32))] [(.int (0 : Int32))])) target
      refine XS.aloadN X_50.here hx rfl (hb hby at_36) rfl rfl ?_
      show Steps p.tables e below (T_50.setTop (mkF m 37 #[.val (.int x0), .val (.int (4 : Int32)), .val (.ref oa4_), .val (.int (0 : Int32)), .val (.int (0 : Int32))] [(.ref oa4_), (.int (0 : Int32))])) target
      refine st_51.trans ?_
      show Steps p.tables e below (T_51.setTop (mkF m 40 #[.val (.int x0), .val (.int (4 : Int32)), .val (.ref oa4_), .val (.int (0 : Int32)), .val (.int (0 : Int32))] [(.ref oc4_), (.int (0 : Int32))])) target
      refine st_52 _ ?_
      show Steps p.tables e below (T_52.setTop (mkF m 42 #[.val (.int x0), .val (.int (4 : Int32)), .val (.ref oa4_), .val (.int (0 : Int32)), .val (.int (0 : Int32))] [(.ref as_52), (.ref oc4_), (.int (0 : Int32))])) target
      refine st_55.trans ?_
      show Steps p.tables e below (T_55.setTop (mkF m 45 #[.val (.int x0), .val (.int (4 : Int32)), .val (.ref oa4_), .val (.int (0 : Int32)), .val (.int (0 : Int32))] [(.int (own_eqs oc4_ as_52 (49 : Int32) (48 : Int32) (52 : Int32) (48 : Int32) (48 : Int32) (48 : Int32))), (.int (0 : Int32))])) target
      refine XS.icmpNo X_55.here hx rfl (hb hby at_45) rfl (teq ((own_eqF (Fld.ne f_58 Fv_52 (fun q => own_arvne f_59 V_52 (by decide) (Value.ref.inj q)))).symm : (0 : Int32) = (own_eqs oc4_ as_52 (49 : Int32) (48 : Int32) (52 : Int32) (48 : Int32) (48 : Int32) (48 : Int32)))).2 ?_
      show Steps p.tables e below (T_55.setTop (mkF m 48 #[.val (.int x0), .val (.int (4 : Int32)), .val (.ref oa4_), .val (.int (0 : Int32)), .val (.int (0 : Int32))] [])) target
      refine XS.iconst X_55.here hx rfl (hb hby at_48) ?_
      show Steps p.tables e below (T_55.setTop (mkF m 49 #[.val (.int x0), .val (.int (4 : Int32)), .val (.ref oa4_), .val (.int (0 : Int32)), .val (.int (0 : Int32))] [(.int (1 : Int32))])) target
      refine XS.goto X_55.here hx rfl (pc0 := 49) (pc' := 53) rfl (hb hby at_49) (by decide) (by decide) ?_
      show Steps p.tables e below (T_55.setTop (mkF m 53 #[.val (.int x0), .val (.int (4 : Int32)), .val (.ref oa4_), .val (.int (0 : Int32)), .val (.int (0 : Int32))] [(.int (1 : Int32))])) target
      exact kt
    obtain ⟨fs, hr, hrun, hended, hEnd⟩ := X_55.leaveW hS_52 (by rw [p_55_0]; exact hk_52) (v := some (.int (1 : Int32))) (fun h => by rw [Bd.returns] at h; cases h)
    refine ⟨_, _, retN X_55 hx (t := .boolean) Bd.returns (by simp) (hb hby at_53) hr, hrun, hended, _, _, rfl, ?_, hEnd.1, hEnd.2.1, hEnd.2.2.1, hEnd.2.2.2.mono (by decide) (by decide)⟩
    show Q_law Z x0 oa0_ oa1_ oa2_ oa3_ oa4_ oa5_ oc0_ oc1_ oc2_ oc3_ oc4_ oc5_ ov0_ ov1_ ov2_ ov3_ ov4_ ov5_ ok0_ ok1_ ok2_ ok3_ ok4_ ok5_ w1 h0 n0 _ T_55.heap _
    rw [p_55_0]
    exact ⟨rfl, N_55⟩
  · skip
    rw [erem]
    obtain ⟨_, _, ⟨T_61, L_61, k_61, n_61⟩, -, X_61, ⟨Lc_61, hQ_61, l_61, y_61, z_61⟩, st_61⟩ := Jvm.LawKit.callS X0 hx (y := (⟨"com/example/cardwarden/cardwarden/wire/ErrorCodeIsSuccessPinLaw", "pick", "(I)Lcom/example/cardwarden/cardwarden/wire/ErrorCode;"⟩ : MethodName)) hown (mvT hZ (hw _ (List.mem_of_getElem? (i := 1) rfl))) (mvT hZ (hw _ (List.mem_of_getElem? (i := 2) rfl))) (mvT hZ (hw _ (List.mem_of_getElem? (i := 3) rfl))) (mvT hZ (hw _ (List.mem_of_getElem? (i := 4) rfl))) (by decide) (backOf (W := 0) (rm_pick5 l Z a0 hw []  oa5_ h0 n0 Z0 S5_) hZ (hw _ (List.mem_of_getElem? (i := 4) rfl)) (hw _ (List.mem_of_getElem? (i := 3) rfl)) (by decide) (by decide)) (g := (mkF m 9 #[.val (.int x0), .val (.int (5 : Int32)), .unset, .unset, .unset] [(.int (5 : Int32))])) rfl (by rw [hml]; rfl) (argsL := [(.int (5 : Int32))]) (rest := []) (lenOf pd_I_LcomexamplecardwardencardwardenwireErrorCode rfl) rfl (by show 2 * 0 + _ ≤ _; exact Nat.le_of_eq rfl) (hb hby at_9) (fun _ _ => ⟨rfl, e0, (by decide : 0 + 0 ≤ _), (by decide : 0 + 0 ≤ _)⟩)
    dsimp only [Pt.U, Pt.locs, Pt.cells, Pt.slots] at X_61 l_61 y_61 z_61 st_61 hQ_61
    subst y_61 z_61
    obtain ⟨rfl, N_61q, p_61_0⟩ := hQ_61
    have N_61 : Fr n0 L_61 := by rw [l_61]; exact Fr.app N0 N_61q
    clear l_61
    obtain ⟨cq_62, kq_62, q_62a, q_62b, q_62c⟩ := isOf hZ p_61_0 EA5
    obtain ⟨_, _, ⟨T_62, L_62, k_62, n_62⟩, -, X_62, ⟨Lc_62, hQ_62, l_62, y_62, z_62⟩, st_62⟩ := X_61.virtualBack hx (y := (⟨"com/example/cardwarden/cardwarden/wire/ErrorCode", "isSuccess", "()Z"⟩ : MethodName)) (z := (⟨"com/example/cardwarden/cardwarden/wire/ErrorCode", "isSuccess", "()Z"⟩ : MethodName)) hown (mvT hZ (hw _ (List.mem_of_getElem? (i := 8) rfl))) (mvT hZ (hw _ (List.mem_of_getElem? (i := 9) rfl))) (notFace_of_selects (args := #[]) (mvT hZ (hw _ (List.mem_of_getElem? (i := 11) rfl)))) (mvT hZ (hw _ (List.mem_of_getElem? (i := 11) rfl))) (mvT hZ (hw _ (List.mem_of_getElem? (i := 10) rfl))) (by decide) (backOf (W := 0) (rm_is0 l Z a0 hw [] oa5_ oa0_ h0 n0 Z0 S0_ NE5) hZ (hw _ (List.mem_of_getElem? (i := 12) rfl)) (hw _ (List.mem_of_getElem? (i := 6) rfl)) (by decide) (by decide)) q_62a q_62c (g := (mkF m 14 #[.val (.int x0), .val (.int (5 : Int32)), .val (.ref oa5_), .unset, .unset] [(.ref oa5_)])) rfl (by rw [hml]; rfl) (Steps.refl _) (argsL := []) (rest := []) (lenOf pd__Z rfl) rfl (by show 2 * 0 + _ ≤ _; exact Nat.le_of_eq rfl) (hb hby at_14) (fun _ _ => ⟨rfl, p_61_0, (by decide : 0 + 0 ≤ _), (by decide : 0 + 0 ≤ _)⟩)
    dsimp only [Pt.U, Pt.locs, Pt.cells, Pt.slots] at X_62 l_62 y_62 z_62 st_62 hQ_62
    subst y_62 z_62
    obtain ⟨rfl, N_62q, p_62_0⟩ := hQ_62
    have N_62 : Fr n0 L_62 := by rw [l_62]; exact Fr.app N_61 N_62q
    clear l_62
    obtain ⟨cq_63, kq_63, q_63a, q_63b, q_63c⟩ := isOf hZ p_62_0 EA5
    obtain ⟨_, _, ⟨T_63, L_63, k_63, n_63⟩, -, X_63, ⟨Lc_63, hQ_63, l_63, y_63, z_63⟩, st_63⟩ := X_62.virtualBack hx (y := (⟨"com/example/cardwarden/cardwarden/wire/ErrorCode", "code", "()Ljava/lang/String;"⟩ : MethodName)) (z := (⟨"com/example/cardwarden/cardwarden/wire/ErrorCode", "code", "()Ljava/lang/String;"⟩ : MethodName)) hown (mvT hZ (hw _ (List.mem_of_getElem? (i := 14) rfl))) (mvT hZ (hw _ (List.mem_of_getElem? (i := 15) rfl))) (notFace_of_selects (args := #[]) (mvT hZ (hw _ (List.mem_of_getElem? (i := 17) rfl)))) (mvT hZ (hw _ (List.mem_of_getElem? (i := 17) rfl))) (mvT hZ (hw _ (List.mem_of_getElem? (i := 16) rfl))) (by decide) (backOf (W := 1) (rm_cod l Z a0 hw [] oa5_ oc5_ h0 n0 Z0 FC5) hZ (hw _ (List.mem_of_getElem? (i := 18) rfl)) (hw _ (List.mem_of_getElem? (i := 6) rfl)) (by decide) (by decide)) q_63a q_63c (g := (mkF m 37 #[.val (.int x0), .val (.int (5 : Int32)), .val (.ref oa5_), .val (.int (0 : Int32)), .val (.int (0 : Int32))] [(.ref oa5_), (.int (0 : Int32))])) rfl (by rw [hml]; rfl) (Steps.refl _) (argsL := []) (rest := [(.int (0 : Int32))]) (lenOf pd__LjavalangString rfl) rfl (by show 2 * 0 + _ ≤ _; exact Nat.le_of_eq rfl) (hb hby at_37) (fun _ _ => ⟨rfl, p_62_0, (by decide : 0 + 0 ≤ _), (by decide : 0 + 0 ≤ _)⟩)
    dsimp only [Pt.U, Pt.locs, Pt.cells, Pt.slots] at X_63 l_63 y_63 z_63 st_63 hQ_63
    subst y_63 z_63
    obtain ⟨rfl, N_63q, p_63_0⟩ := hQ_63
    have N_63 : Fr n0 L_63 := by rw [l_63]; exact Fr.app N_62 N_63q
    clear l_63
    have wS : ∀ d ∈ Bundle.stringAtoms, d.before a0 Z = true := by
      intro d hd
      simp only [Bundle.stringAtoms, List.mem_cons, List.not_mem_nil, or_false] at hd
      rcases hd with rfl | rfl | rfl | rfl | rfl | rfl | rfl
      · exact hw _ (List.mem_of_getElem? (i := 22) rfl)
      · exact hw _ (List.mem_of_getElem? (i := 23) rfl)
      · exact hw _ (List.mem_of_getElem? (i := 24) rfl)
      · exact hw _ (List.mem_of_getElem? (i := 25) rfl)
      · exact hw _ (List.mem_of_getElem? (i := 26) rfl)
      · exact hw _ (List.mem_of_getElem? (i := 27) rfl)
      · exact hw _ (List.mem_of_getElem? (i := 28) rfl)
    have hS0 : s.Since s.vm 0 := ⟨State.Warmed39.refl s, fun j q hj hq => absurd (Array.getElem?_eq_some_iff.mp hq).1 (Nat.not_lt.mpr hj)⟩
    obtain ⟨as_64, T_64, h_64, k1_64, bs_64, kb_64, X_64, e_64, E_64, hS_64, hk_64, hZ_64, hown_64, A_64, Fc_64, Fv_64, V_64, -, -, -, st_64⟩ := ldcSV (s := s) (vm0 := s.vm) (own := "com/example/cardwarden/cardwarden/wire/ErrorCodeIsSuccessPinLaw") (text := "000") X_63 hx hZ hown (hw _ (List.mem_of_getElem? (i := 21) rfl)) wS p_63_0 (k0 := 0) hS0 (Nat.zero_le _) (by rw [hh, ← hn0]; exact N_63) (fun b cl q => by rw [hh, ← hZh]; exact q) (Ts := []) (by rw [hZs]; exact IB.start) (by simp) hheld hcw (vs := [(.int (48 : Int32)), (.int (48 : Int32)), (.int (48 : Int32))]) (z := (3 : Int32)) ⟨by decide, by decide⟩ (by decide) rfl (g := (mkF m 40 #[.val (.int x0), .val (.int (5 : Int32)), .val (.ref oa5_), .val (.int (0 : Int32)), .val (.int (0 : Int32))] [(.ref oc5_), (.int (0 : Int32))])) rfl (hb hby at_40) (n := 12) (by decide) (by decide) (by decide) (by decide)
    have hZ := hZ_64
    have hown := hown_64
    have Z_65 : n0 ≤ h_64.size := Nat.le_trans Z0 E_64.1
    have f_68 := (ES5.ext E_64)
    have f_69 := (CO5.ext E_64)
    have f_70 := (VA5.ext E_64)
    have f_71 := (AV5.ext E_64)
    have f_72 := (SC.ext E_64)
    obtain ⟨cq_67, kq_67, q_67a, q_67b, q_67c⟩ := isOf hZ e_64 f_68
    obtain ⟨_, _, ⟨T_67, L_67, k_67, n_67⟩, -, X_67, ⟨Lc_67, hQ_67, l_67, y_67, z_67⟩, st_67⟩ := X_64.virtualBack hx (y := (⟨"java/lang/String", "equals", "(Ljava/lang/Object;)Z"⟩ : MethodName)) (z := (⟨"java/lang/String", "equals", "(Ljava/lang/Object;)Z"⟩ : MethodName)) hown (mvT hZ (hw _ (List.mem_of_getElem? (i := 29) rfl))) (mvT hZ (hw _ (List.mem_of_getElem? (i := 30) rfl))) (notFace_of_selects (args := #[]) (mvT hZ (hw _ (List.mem_of_getElem? (i := 32) rfl)))) (mvT hZ (hw _ (List.mem_of_getElem? (i := 32) rfl))) (mvT hZ (hw _ (List.mem_of_getElem? (i := 31) rfl))) (by decide) (backOf (W := 1) (rm_eqs l Z a0 hw [] oc5_ as_64 ov5_ bs_64 ok5_ kb_64 (49 : Int32) (48 : Int32) (53 : Int32) (48 : Int32) (48 : Int32) (48 : Int32) w1 h_64 n0 Z_65 f_68 A_64 f_69 Fc_64 f_70 Fv_64 f_71 V_64 f_72 hw1) hZ (hw _ (List.mem_of_getElem? (i := 33) rfl)) (hw _ (List.mem_of_getElem? (i := 22) rfl)) (by decide) (by decide)) q_67a q_67c (g := (mkF m 42 #[.val (.int x0), .val (.int (5 : Int32)), .val (.ref oa5_), .val (.int (0 : Int32)), .val (.int (0 : Int32))] [(.ref as_64), (.ref oc5_), (.int (0 : Int32))])) rfl (by rw [hml]; rfl) (Steps.refl _) (argsL := [(.ref as_64)]) (rest := [(.int (0 : Int32))]) (lenOf pd_LjavalangObject_Z rfl) rfl (by show 2 * 0 + _ ≤ _; exact Nat.le_of_eq rfl) (hb hby at_42) (fun _ _ => ⟨rfl, e_64, (by decide : 2 + 0 ≤ _), (by decide : 16 + 0 ≤ _)⟩)
    dsimp only [Pt.U, Pt.locs, Pt.cells, Pt.slots] at X_67 l_67 y_67 z_67 st_67 hQ_67
    subst y_67 z_67
    obtain ⟨rfl, N_67q, p_67_0⟩ := hQ_67
    have N_67 : Fr n0 L_67 := by rw [l_67]; exact Fr.app N_63 N_67q
    clear l_67
    refine own_go (S' := T_67.setTop (mkF m 53 #[.val (.int x0), .val (.int (5 : Int32)), .val (.ref oa5_), .val (.int (0 : Int32)), .val (.int (0 : Int32))] [(.int (1 : Int32))])) (fun target kt => ?_) ?_
    · show Steps p.tables e below (s₁.setTop (mkF m 8 #[.val (.int x0), .val (.int (5 : Int32)), .unset, .unset, .unset] [])) target
      refine XS.iloadN X0.here hx rfl (hb hby at_8) rfl ?_
      show Steps p.tables e below (s₁.setTop (mkF m 9 #[.val (.int x0), .val (.int (5 : Int32)), .unset, .unset, .unset] [(.int (5 : Int32))])) target
      refine st_61 _ ?_
      show Steps p.tables e below (T_61.setTop (mkF m 12 #[.val (.int x0), .val (.int (5 : Int32)), .unset, .unset, .unset] [(.ref oa5_)])) target
      refine XS.astoreN X_61.here hx rfl (hb hby at_12) rfl rfl (l' := #[.val (.int x0), .val (.int (5 : Int32)), .val (.ref oa5_), .unset, .unset]) rfl ?_
      show Steps p.tables e below (T_61.setTop (mkF m 13 #[.val (.int x0), .val (.int (5 : Int32)), .val (.ref oa5_), .unset, .unset] [])) target
      refine XS.aloadN X_61.here hx rfl (hb hby at_13) rfl rfl ?_
      show Steps p.tables e below (T_61.setTop (mkF m 14 #[.val (.int x0), .val (.int (5 : Int32)), .val (.ref oa5_), .unset, .unset] [(.ref oa5_)])) target
      refine st_62.trans ?_
      show Steps p.tables e below (T_62.setTop (mkF m 17 #[.val (.int x0), .val (.int (5 : Int32)), .val (.ref oa5_), .unset, .unset] [(.int (0 : Int32))])) target
      refine XS.istoreN X_62.here hx rfl (hb hby at_17) rfl (l' := #[.val (.int x0), .val (.int (5 : Int32)), .val (.ref oa5_), .val (.int (0 : Int32)), .unset]) rfl ?_
      show Steps p.tables e below (T_62.setTop (mkF m 18 #[.val (.int x0), .val (.int (5 : Int32)), .val (.ref oa5_), .val (.int (0 : Int32)), .unset] [])) target
      refine XS.iloadN X_62.here hx rfl (hb hby at_18) rfl ?_
      show Steps p.tables e below (T_62.setTop (mkF m 19 #[.val (.int x0), .val (.int (5 : Int32)), .val (.ref oa5_), .val (.int (0 : Int32)), .unset] [(.int (5 : Int32))])) target
      refine XS.ifYes X_62.here hx rfl (pc0 := 19) (pc' := 26) rfl (hb hby at_19) rfl ((if0 _ _).trans (feq (by decide : ¬ ((5 : Int32) = (0 : Int32)))).2) (by decide) (by decide) ?_
      show Steps p.tables e below (T_62.setTop (mkF m 26 #[.val (.int x0), .val (.int (5 : Int32)), .val (.ref oa5_), .val (.int (0 : Int32)), .unset] [])) target
      refine XS.iconst X_62.here hx rfl (hb hby at_26) ?_
      show Steps p.tables e below (T_62.setTop (mkF m 27 #[.val (.int x0), .val (.int (5 : Int32)), .val (.ref oa5_), .val (.int (0 : Int32)), .unset] [(.int (0 : Int32))])) target
      refine XS.istore X_62.here hx rfl (hb hby at_27) rfl (l' := #[.val (.int x0), .val (.int (5 : Int32)), .val (.ref oa5_), .val (.int (0 : Int32)), .val (.int (0 : Int32))]) rfl ?_
      show Steps p.tables e below (T_62.setTop (mkF m 29 #[.val (.int x0), .val (.int (5 : Int32)), .val (.ref oa5_), .val (.int (0 : Int32)), .val (.int (0 : Int32))] [])) target
      refine XS.iloadN X_62.here hx rfl (hb hby at_29) rfl ?_
      show Steps p.tables e below (T_62.setTop (mkF m 30 #[.val (.int x0), .val (.int (5 : Int32)), .val (.ref oa5_), .val (.int (0 : Int32)), .val (.int (0 : Int32))] [(.int (0 : Int32))])) target
      refine XS.iload X_62.here hx rfl (hb hby at_30) rfl ?_
      show Steps p.tables e below (T_62.setTop (mkF m 32 #[.val (.int x0), .val (.int (5 : Int32)), .val (.ref oa5_), .val (.int (0 : Int32)), .val (.int (0 : Int32))] [(.int (0 : Int32)), (.int (0 : Int32))])) target
      refine XS.icmpNo X_62.here hx rfl (hb hby at_32) rfl (teq (by decide : (0 : Int32) = (0 : Int32))).2 ?_
      show Steps p.tables e below (T_62.setTop (mkF m 35 #[.val (.int x0), .val (.int (5 : Int32)), .val (.ref oa5_), .val (.int (0 : Int32)), .val (.int (0 : Int32))] [])) target
      refine XS.iloadN X_62.here hx rfl (hb hby at_35) rfl ?_
      show Steps p.tables e below (T_62.setTop (mkF m 36 #[.val (.int x0), .val (.int (5 : Int32)), .val (.ref oa5_), .val (.int (0 : Int32)), .val (.int (0 : Int32))] [(.int (0 : Int32))])) target
      refine XS.aloadN X_62.here hx rfl (hb hby at_36) rfl rfl ?_
      show Steps p.tables e below (T_62.setTop (mkF m 37 #[.val (.int x0), .val (.int (5 : Int32)), .val (.ref oa5_), .val (.int (0 : Int32)), .val (.int (0 : Int32))] [(.ref oa5_), (.int (0 : Int32))])) target
      refine st_63.trans ?_
      show Steps p.tables e below (T_63.setTop (mkF m 40 #[.val (.int x0), .val (.int (5 : Int32)), .val (.ref oa5_), .val (.int (0 : Int32)), .val (.int (0 : Int32))] [(.ref oc5_), (.int (0 : Int32))])) target
      refine st_64 _ ?_
      show Steps p.tables e below (T_64.setTop (mkF m 42 #[.val (.int x0), .val (.int (5 : Int32)), .val (.ref oa5_), .val (.int (0 : Int32)), .val (.int (0 : Int32))] [(.ref as_64), (.ref oc5_), (.int (0 : Int32))])) target
      refine st_67.trans ?_
      show Steps p.tables e below (T_67.setTop (mkF m 45 #[.val (.int x0), .val (.int (5 : Int32)), .val (.ref oa5_), .val (.int (0 : Int32)), .val (.int (0 : Int32))] [(.int (own_eqs oc5_ as_64 (49 : Int32) (48 : Int32) (53 : Int32) (48 : Int32) (48 : Int32) (48 : Int32))), (.int (0 : Int32))])) target
      refine XS.icmpNo X_67.here hx rfl (hb hby at_45) rfl (teq ((own_eqF (Fld.ne f_70 Fv_64 (fun q => own_arvne f_71 V_64 (by decide) (Value.ref.inj q)))).symm : (0 : Int32) = (own_eqs oc5_ as_64 (49 : Int32) (48 : Int32) (53 : Int32) (48 : Int32) (48 : Int32) (48 : Int32)))).2 ?_
      show Steps p.tables e below (T_67.setTop (mkF m 48 #[.val (.int x0), .val (.int (5 : Int32)), .val (.ref oa5_), .val (.int (0 : Int32)), .val (.int (0 : Int32))] [])) target
      refine XS.iconst X_67.here hx rfl (hb hby at_48) ?_
      show Steps p.tables e below (T_67.setTop (mkF m 49 #[.val (.int x0), .val (.int (5 : Int32)), .val (.ref oa5_), .val (.int (0 : Int32)), .val (.int (0 : Int32))] [(.int (1 : Int32))])) target
      refine XS.goto X_67.here hx rfl (pc0 := 49) (pc' := 53) rfl (hb hby at_49) (by decide) (by decide) ?_
      show Steps p.tables e below (T_67.setTop (mkF m 53 #[.val (.int x0), .val (.int (5 : Int32)), .val (.ref oa5_), .val (.int (0 : Int32)), .val (.int (0 : Int32))] [(.int (1 : Int32))])) target
      exact kt
    obtain ⟨fs, hr, hrun, hended, hEnd⟩ := X_67.leaveW hS_64 (by rw [p_67_0]; exact hk_64) (v := some (.int (1 : Int32))) (fun h => by rw [Bd.returns] at h; cases h)
    refine ⟨_, _, retN X_67 hx (t := .boolean) Bd.returns (by simp) (hb hby at_53) hr, hrun, hended, _, _, rfl, ?_, hEnd.1, hEnd.2.1, hEnd.2.2.1, hEnd.2.2.2.mono (by decide) (by decide)⟩
    show Q_law Z x0 oa0_ oa1_ oa2_ oa3_ oa4_ oa5_ oc0_ oc1_ oc2_ oc3_ oc4_ oc5_ ov0_ ov1_ ov2_ ov3_ ov4_ ov5_ ok0_ ok1_ ok2_ ok3_ ok4_ ok5_ w1 h0 n0 _ T_67.heap _
    rw [p_67_0]
    exact ⟨rfl, N_67⟩
set_option maxRecDepth 65536 in
set_option maxHeartbeats 40000000 in
theorem comes_1 {Post : Tables → Env → Array Value → State → Outcome → State → Prop} (hpost : ∀ tb e args s v u, (limb_1_1.after args s (.returned v) u = true ∧ limb_1_2.after args s (.returned v) u = true ∧ True) → Jvm.D.FramedW s (.returned v) u (Jvm.fieldLocs frame_1_writes args s ++ Jvm.arrayLocs frame_1_arrays args s ++ Jvm.staticLocs frame_1_statics s) 8 1088 → Post tb e args s (.returned v) u) :
    ArmFor flags0 classFile x code maxLocals ret World_1 tables_1 room_1 Calls_1 rest_1 Pre_1 Post := by
  intro l hfl _ _ p e ha hc hk s m args below hf hA hF happ hP
  obtain ⟨hcalls, hrest, hpre⟩ := hP
  obtain ⟨-, -, -, hnamed, -, -, -, hat⟩ := (Spec.applies_iff hf).mp happ
  obtain ⟨hg, hn⟩ := and_e (Cond.before_iff.mp (show (Jvm.Cond.and given_1 narrow_1).before args s = true from hpre))
  obtain ⟨gc0, gd0⟩ := and_e hg
  obtain ⟨w0, rfl⟩ : ∃ w0 : Value, args = #[w0] := by
    have hs : args.size = 1 := by simpa [Cond.value, given_1] using gc0
    obtain ⟨L⟩ := args
    match L, hs with
    | [w0], _ => exact ⟨w0, rfl⟩
  have hw := fun d (hd : d ∈ tables_1) => atoms_spec (ws := Jvm.Cond.code x code maxLocals ret :: tables_1) hat d (List.mem_cons_of_mem _ hd)
  have hfit : Fit s := fun {y c} hc i hi => by
    obtain ⟨ha, rfl⟩ := Array.getElem?_eq_some_iff.mp hc
    have q := List.all_eq_true.mp ((Array.all_eq_true_iff_forall_mem.mp hF) _ (Array.getElem_mem ha)) i (List.mem_range.mpr hi)
    simpa [Array.getElem?_eq_getElem hi] using q
  obtain ⟨hsets, hown0⟩ := atoms_of _ (rest_1_c_eq ▸ (show rest_1_c.before _ s = true from hrest))
  obtain ⟨i0, ei0⟩ := is_v gd0
  obtain rfl : w0 = (.int i0) := Option.some.inj ei0
  obtain ⟨ha1, hb1⟩ := and_e hn
  obtain ⟨ha2, hb2⟩ := and_e hb1
  obtain ⟨ha3, hb3⟩ := and_e hb2
  obtain ⟨ha4, hb4⟩ := and_e hb3
  obtain ⟨ha5, hb5⟩ := and_e hb4
  obtain ⟨ha6, hb6⟩ := and_e hb5
  obtain ⟨ha7, hb7⟩ := and_e hb6
  obtain ⟨ha8, hb8⟩ := and_e hb7
  obtain ⟨ha9, hb9⟩ := and_e hb8
  obtain ⟨ha10, hb10⟩ := and_e hb9
  obtain ⟨ha11, hb11⟩ := and_e hb10
  obtain ⟨ha12, hb12⟩ := and_e hb11
  obtain ⟨ha13, hb13⟩ := and_e hb12
  obtain ⟨ha14, hb14⟩ := and_e hb13
  obtain ⟨ha15, hb15⟩ := and_e hb14
  obtain ⟨ha16, hb16⟩ := and_e hb15
  obtain ⟨ha17, hb17⟩ := and_e hb16
  obtain ⟨ha18, hb18⟩ := and_e hb17
  obtain ⟨ha19, hb19⟩ := and_e hb18
  obtain ⟨ha20, hb20⟩ := and_e hb19
  obtain ⟨ha21, hb21⟩ := and_e hb20
  obtain ⟨ha22, hb22⟩ := and_e hb21
  obtain ⟨ha23, hb23⟩ := and_e hb22
  obtain ⟨ha24, hb24⟩ := and_e hb23
  obtain ⟨ha25, hb25⟩ := and_e hb24
  obtain ⟨ha26, hb26⟩ := and_e hb25
  obtain ⟨ha27, hb27⟩ := and_e hb26
  obtain ⟨ha28, hb28⟩ := and_e hb27
  obtain ⟨ha29, hb29⟩ := and_e hb28
  obtain ⟨ha30, hb30⟩ := and_e hb29
  obtain ⟨ha31, hb31⟩ := and_e hb30
  obtain ⟨ha32, hb32⟩ := and_e hb31
  obtain ⟨ha33, hb33⟩ := and_e hb32
  obtain ⟨ha34, hb34⟩ := and_e hb33
  obtain ⟨ha35, hb35⟩ := and_e hb34
  obtain ⟨ha36, hb36⟩ := and_e hb35
  obtain ⟨ha37, hb37⟩ := and_e hb36
  obtain ⟨ha38, hb38⟩ := and_e hb37
  obtain ⟨ha39, hb39⟩ := and_e hb38
  obtain ⟨ha40, hb40⟩ := and_e hb39
  obtain ⟨ha41, hb41⟩ := and_e hb40
  obtain ⟨ha42, hb42⟩ := and_e hb41
  obtain ⟨ha43, hb43⟩ := and_e hb42
  obtain ⟨ha44, hb44⟩ := and_e hb43
  obtain ⟨ha45, hb45⟩ := and_e hb44
  obtain ⟨ha46, hb46⟩ := and_e hb45
  obtain ⟨ha47, hb47⟩ := and_e hb46
  obtain ⟨ha48, hb48⟩ := and_e hb47
  obtain ⟨ha49, hb49⟩ := and_e hb48
  obtain ⟨ha50, hb50⟩ := and_e hb49
  obtain ⟨ha51, hb51⟩ := and_e hb50
  obtain ⟨ha52, hb52⟩ := and_e hb51
  obtain ⟨ha53, hb53⟩ := and_e hb52
  obtain ⟨oa0, oc0, ov0, ok0, ev0, S0, EA0, FC0, ES0, CO0, VA0, AV0⟩ := own_err hfit (hw _ (List.mem_of_getElem? (i := 6) rfl)) (hw _ (List.mem_of_getElem? (i := 7) rfl)) ha1 ha2 ha3 ha4 ha5 ha6 ha7 ha8
  have OR0 := own_ord ev0 ha11
  obtain ⟨oa1, oc1, ov1, ok1, ev1, S1, EA1, FC1, ES1, CO1, VA1, AV1⟩ := own_err hfit (hw _ (List.mem_of_getElem? (i := 6) rfl)) (hw _ (List.mem_of_getElem? (i := 48) rfl)) ha24 ha26 ha27 ha28 ha29 ha30 ha49 ha50
  have OR1 := own_ord ev1 ha25
  have NE1 : oa1 ≠ oa0 := Fld.ne OR1 OR0 (by decide)
  obtain ⟨oa2, oc2, ov2, ok2, ev2, S2, EA2, FC2, ES2, CO2, VA2, AV2⟩ := own_err hfit (hw _ (List.mem_of_getElem? (i := 6) rfl)) (hw _ (List.mem_of_getElem? (i := 46) rfl)) ha17 ha19 ha20 ha21 ha22 ha23 ha47 ha48
  have OR2 := own_ord ev2 ha18
  have NE2 : oa2 ≠ oa0 := Fld.ne OR2 OR0 (by decide)
  obtain ⟨oa3, oc3, ov3, ok3, ev3, S3, EA3, FC3, ES3, CO3, VA3, AV3⟩ := own_err hfit (hw _ (List.mem_of_getElem? (i := 6) rfl)) (hw _ (List.mem_of_getElem? (i := 44) rfl)) ha9 ha12 ha13 ha14 ha15 ha16 ha45 ha46
  have OR3 := own_ord ev3 ha10
  have NE3 : oa3 ≠ oa0 := Fld.ne OR3 OR0 (by decide)
  obtain ⟨oa4, oc4, ov4, ok4, ev4, S4, EA4, FC4, ES4, CO4, VA4, AV4⟩ := own_err hfit (hw _ (List.mem_of_getElem? (i := 6) rfl)) (hw _ (List.mem_of_getElem? (i := 52) rfl)) ha38 ha40 ha41 ha42 ha43 ha44 ha53 hb53
  have OR4 := own_ord ev4 ha39
  have NE4 : oa4 ≠ oa0 := Fld.ne OR4 OR0 (by decide)
  obtain ⟨oa5, oc5, ov5, ok5, ev5, S5, EA5, FC5, ES5, CO5, VA5, AV5⟩ := own_err hfit (hw _ (List.mem_of_getElem? (i := 6) rfl)) (hw _ (List.mem_of_getElem? (i := 50) rfl)) ha31 ha33 ha34 ha35 ha36 ha37 ha51 ha52
  have OR5 := own_ord ev5 ha32
  have NE5 : oa5 ≠ oa0 := Fld.ne OR5 OR0 (by decide)
  obtain ⟨w1, ew1⟩ := is_v (Cond.before_iff.mp (hsets _ (List.mem_of_getElem? (i := 1) rfl)))
  have SC := Sta.start ew1 (Or.inl (hsets _ (List.mem_of_getElem? (i := 0) rfl)))
  have hcw := hsets _ (List.mem_of_getElem? (i := 2) rfl)
  have hw1 : ¬ w1 = (0 : Int32) := own_nz ew1 (Cond.before_iff.mp hcw)
  obtain ⟨n, o, h1, h2, h3, _, L, rfl, ⟨rfl, N⟩, hq⟩ := rm_law l s _ hw tables_1 i0 oa0 oa1 oa2 oa3 oa4 oa5 oc0 oc1 oc2 oc3 oc4 oc5 ov0 ov1 ov2 ov3 ov4 ov5 ok0 ok1 ok2 ok3 ok4 ok5 w1 s.heap s.heap.size (Nat.le_refl _) S0 EA0 FC0 ES0 CO0 VA0 AV0 S1 EA1 FC1 ES1 CO1 VA1 AV1 NE1 S2 EA2 FC2 ES2 CO2 VA2 AV2 NE2 S3 EA3 FC3 ES3 CO3 VA3 AV3 NE3 S4 EA4 FC4 ES4 CO4 VA4 AV4 NE4 S5 EA5 FC5 ES5 CO5 VA5 AV5 NE5 SC hw1 hcw (hcalls.1 ("com/example/cardwarden/cardwarden/wire/ErrorCodeIsSuccessPinLaw", 43) (List.mem_singleton.mpr rfl)) rfl rfl p e ha hc hk s m _ below hf ((Spec.applies_iff_loose hf).mp happ).1 ⟨rfl, ⟨State.Warmed39.refl s, rfl⟩, rfl⟩ trivial
  refine ⟨n, _, h1, h2, h3, hpost _ _ _ _ _ _ ⟨Cond.after_iff.mpr rfl, Cond.after_iff.mpr (eq_i res_at (Term.int_eval (1)) rfl), trivial⟩ ⟨hq.1, hq.2.1, hq.2.2.1, (hq.2.2.2.sift fun y hy => Or.inr (N y hy)).mono (by decide) (by decide)⟩⟩
theorem main_1_1 : Claimed_1_1 := comes_1 fun _ _ _ _ _ _ h hF => ⟨h.1, hF⟩
theorem main_1_2 : Claimed_1_2 := comes_1 fun _ _ _ _ _ _ h hF => ⟨h.2.1, hF⟩
end Jvm.Pilot.@@N@@
namespace Jvm.Pilot.@@N@@
open Jvm Jvm.ClassFile Sem Op Lib Jvm.Free Jvm.Stand Jvm.Pilot.@@N@@.Jvm.D
/-! MADE BY PROGRAM (witnessworld.py) out of the Statement's table words and the real class files: 18 classes; the members and pool entries that the words name. The judged class is class 1, her method 2. -/
namespace start1
open Jvm.ClassFile
def u (s : String) : CpInfo := .utf8 (stringToUtf16 s)
/-- a pool by its gaps: so many unusable entries, then the entry; so many at the end -/
def gap : Nat → List CpInfo → List CpInfo
  | 0, r => r
  | n + 1, r => .unusable :: gap n r
def poolList (es : List (Nat × CpInfo)) (last : Nat) : List CpInfo := es.foldr (fun e r => gap e.1 (e.2 :: r)) (gap last [])
def pool (es : List (Nat × CpInfo)) (last : Nat) : Array CpInfo := ⟨poolList es last⟩
def fileOf (pool : Array CpInfo) (this : Nat) (attrs : Array Attribute := #[]) (ms : Array MethodInfo := #[]) (fl : Nat := 33) (sup : Nat := 0) (ifs : Array Nat := #[]) (fds : Array FieldInfo := #[]) : ClassFile where
  minorVersion := 0
  majorVersion := 65
  constantPool := pool
  accessFlags := fl
  thisClass := this
  superClass := sup
  interfaces := ifs
  fields := fds
  methods := ms
  attributes := attrs
def plain (name : String) (sup : Option ClassId) : Class where
  name := name
  kind := .ordinary
  loader := none
  accessFlags := 33
  super := sup
  interfaces := #[]
  cf := none
  fields := #[]
  methods := #[]
  instanceTypes := #[]
  staticTypes := #[]
  resolved := #[]
  callSites := []
  init := .initialized
  statics := none
  mirror := none

def pool0 : Array CpInfo := pool [(5, u "<init>"), (0, u "()V"), (1, .class_ 10), (1, u "java/lang/Object")] 113

def k0m0 : Method := { name := "<init>", desc := "()V", sig := { parameters := [], returnType := none }, accessFlags := 1, code := none }
/-- java/lang/Object -/
def k0 : Class := { plain "java/lang/Object" none with
  accessFlags := 33
  interfaces := #[]
  cf := some (fileOf pool0 8 #[] #[{ accessFlags := 1, nameIndex := 5, descriptorIndex := 6, attributes := #[] }] 33 0 #[] #[])
  fields := #[]
  methods := #[k0m0]
  instanceTypes := #[]
  staticTypes := #[]
  resolved := Array.replicate 124 none
  statics := none }

def pool1 : Array CpInfo := pool [(2, .class_ 4), (1, u "java/lang/Object"), (0, u "<init>"), (0, u "()V"), (0, .fieldref 8 9), (0, .class_ 10), (0, .nameAndType 11 12), (0, u "com/example/cardwarden/cardwarden/wire/ErrorCode"), (0, u "SUCCESS"), (0, u "Lcom/example/cardwarden/cardwarden/wire/ErrorCode;"), (0, .fieldref 8 14), (0, .nameAndType 15 12), (0, u "DUPLICATE_MESSAGE_ID"), (0, .fieldref 8 17), (0, .nameAndType 18 12), (0, u "INVALID_HEADER_FIELD"), (0, .fieldref 8 20), (0, .nameAndType 21 12), (0, u "INVALID_BODY_FIELD"), (0, .fieldref 8 23), (0, .nameAndType 24 12), (0, u "MALFORMED_REQUEST"), (0, .fieldref 8 26), (0, .nameAndType 27 12), (0, u "WRONG_MESSAGE_FUNCTION"), (0, .integer 2147483647), (0, .methodref 30 31), (0, .class_ 32), (0, .nameAndType 33 34), (0, u "com/example/cardwarden/cardwarden/wire/ErrorCodeIsSuccessPinLaw"), (0, u "pick"), (0, u "(I)Lcom/example/cardwarden/cardwarden/wire/ErrorCode;"), (0, .methodref 8 36), (0, .nameAndType 37 38), (0, u "isSuccess"), (0, u "()Z"), (0, .methodref 8 40), (0, .nameAndType 41 42), (0, u "code"), (0, u "()Ljava/lang/String;"), (0, .string 44), (0, u "000"), (0, .methodref 46 47), (0, .class_ 48), (0, .nameAndType 49 50), (0, u "java/lang/String"), (0, u "equals"), (0, u "(Ljava/lang/Object;)Z"), (3, u "law"), (0, u "(I)Z")] 2

def k1m0 : Method := { name := "<init>", desc := "()V", sig := { parameters := [], returnType := none }, accessFlags := 1, code := none }
def k1c1 : Code := { maxStack := 2, maxLocals := 1, code := method_2_code, exceptionTable := #[], attributes := #[] }
def k1m1 : Method := { name := "pick", desc := "(I)Lcom/example/cardwarden/cardwarden/wire/ErrorCode;", sig := { parameters := [.int], returnType := some (.object "com/example/cardwarden/cardwarden/wire/ErrorCode") }, accessFlags := 10, code := some k1c1 }
def k1c2 : Code := { maxStack := 3, maxLocals := 5, code := code, exceptionTable := #[], attributes := #[] }
def k1m2 : Method := { name := "law", desc := "(I)Z", sig := { parameters := [.int], returnType := some .boolean }, accessFlags := 9, code := some k1c2 }
/-- com/example/cardwarden/cardwarden/wire/ErrorCodeIsSuccessPinLaw -/
def k1 : Class := { plain "com/example/cardwarden/cardwarden/wire/ErrorCodeIsSuccessPinLaw" (some 0) with
  accessFlags := 49
  interfaces := #[]
  cf := some (fileOf pool1 30 #[] #[{ accessFlags := 1, nameIndex := 5, descriptorIndex := 6, attributes := #[] }, { accessFlags := 10, nameIndex := 33, descriptorIndex := 34, attributes := #[] }, { accessFlags := 9, nameIndex := 54, descriptorIndex := 55, attributes := #[] }] 49 2 #[] #[])
  fields := #[]
  methods := #[k1m0, k1m1, k1m2]
  instanceTypes := #[]
  staticTypes := #[]
  resolved := Array.replicate 58 none
  statics := none }

def pool2 : Array CpInfo := pool [(1, .class_ 2), (0, u "java/lang/constant/Constable"), (0, .class_ 4), (0, u "java/lang/Object")] 6

/-- java/lang/constant/Constable -/
def k2 : Class := { plain "java/lang/constant/Constable" (some 0) with
  accessFlags := 1537
  interfaces := #[]
  cf := some (fileOf pool2 1 #[] #[] 1537 3 #[] #[])
  fields := #[]
  methods := #[]
  instanceTypes := #[]
  staticTypes := #[]
  resolved := Array.replicate 11 none
  statics := none }

def pool3 : Array CpInfo := pool [(1, .class_ 2), (0, u "java/lang/Comparable"), (0, .class_ 4), (0, u "java/lang/Object")] 7

/-- java/lang/Comparable -/
def k3 : Class := { plain "java/lang/Comparable" (some 0) with
  accessFlags := 1537
  interfaces := #[]
  cf := some (fileOf pool3 1 #[] #[] 1537 3 #[] #[])
  fields := #[]
  methods := #[]
  instanceTypes := #[]
  staticTypes := #[]
  resolved := Array.replicate 12 none
  statics := none }

def pool4 : Array CpInfo := pool [(1, .class_ 2), (0, u "java/io/Serializable"), (0, .class_ 4), (0, u "java/lang/Object")] 2

/-- java/io/Serializable -/
def k4 : Class := { plain "java/io/Serializable" (some 0) with
  accessFlags := 1537
  interfaces := #[]
  cf := some (fileOf pool4 1 #[] #[] 1537 3 #[] #[])
  fields := #[]
  methods := #[]
  instanceTypes := #[]
  staticTypes := #[]
  resolved := Array.replicate 7 none
  statics := none }

def pool5 : Array CpInfo := pool [(2, .class_ 4), (1, u "java/lang/Enum"), (0, u "name"), (0, u "Ljava/lang/String;"), (2, u "ordinal"), (0, u "I"), (1, .class_ 14), (1, u "java/lang/Object"), (4, u "hash"), (86, .class_ 108), (1, u "java/lang/Enum$EnumDesc"), (2, .class_ 112), (0, u "java/lang/constant/Constable"), (0, .class_ 114), (0, u "java/lang/Comparable"), (0, .class_ 116), (0, u "java/io/Serializable")] 87

/-- java/lang/Enum -/
def k5 : Class := { plain "java/lang/Enum" (some 0) with
  accessFlags := 1057
  interfaces := #[2, 3, 4]
  cf := some (fileOf pool5 2 #[.nestMembers #[106]] #[] 1057 12 #[111, 113, 115] #[{ accessFlags := 18, nameIndex := 5, descriptorIndex := 6, attributes := #[] }, { accessFlags := 18, nameIndex := 9, descriptorIndex := 10, attributes := #[] }, { accessFlags := 2, nameIndex := 19, descriptorIndex := 10, attributes := #[] }])
  fields := #[{ name := "name", type := (.object "java/lang/String"), accessFlags := 18, slot := 0, constantValue := 0 }, { name := "ordinal", type := .int, accessFlags := 18, slot := 1, constantValue := 0 }, { name := "hash", type := .int, accessFlags := 2, slot := 2, constantValue := 0 }]
  methods := #[]
  instanceTypes := #[(.object "java/lang/String"), .int, .int]
  staticTypes := #[]
  resolved := Array.replicate 204 none
  statics := none }

def pool6 : Array CpInfo := pool [(1, .class_ 2), (0, u "com/example/cardwarden/cardwarden/wire/ErrorCode"), (0, .fieldref 1 4), (0, .nameAndType 5 6), (0, u "SUCCESS"), (0, u "Lcom/example/cardwarden/cardwarden/wire/ErrorCode;"), (2, u "DUPLICATE_MESSAGE_ID"), (2, u "INVALID_HEADER_FIELD"), (2, u "INVALID_BODY_FIELD"), (2, u "MALFORMED_REQUEST"), (2, u "WRONG_MESSAGE_FUNCTION"), (2, u "$VALUES"), (0, u "[Lcom/example/cardwarden/cardwarden/wire/ErrorCode;"), (6, .class_ 34), (1, u "java/lang/Enum"), (6, .fieldref 1 42), (0, .nameAndType 43 44), (0, u "code"), (0, u "Ljava/lang/String;"), (2, u "description"), (44, u "()Ljava/lang/String;"), (0, u "isSuccess"), (0, u "()Z")] 6

def k6c0 : Code := { maxStack := 1, maxLocals := 1, code := prog_64_method_4_code, exceptionTable := #[], attributes := #[] }
def k6m0 : Method := { name := "code", desc := "()Ljava/lang/String;", sig := { parameters := [], returnType := some (.object "java/lang/String") }, accessFlags := 1, code := some k6c0 }
def k6c1 : Code := { maxStack := 2, maxLocals := 1, code := prog_64_method_6_code, exceptionTable := #[], attributes := #[] }
def k6m1 : Method := { name := "isSuccess", desc := "()Z", sig := { parameters := [], returnType := some .boolean }, accessFlags := 1, code := some k6c1 }
/-- com/example/cardwarden/cardwarden/wire/ErrorCode -/
def k6 : Class := { plain "com/example/cardwarden/cardwarden/wire/ErrorCode" (some 5) with
  accessFlags := 16433
  interfaces := #[]
  cf := some (fileOf pool6 1 #[] #[{ accessFlags := 1, nameIndex := 43, descriptorIndex := 92, attributes := #[] }, { accessFlags := 1, nameIndex := 93, descriptorIndex := 94, attributes := #[] }] 16433 32 #[] #[{ accessFlags := 16409, nameIndex := 5, descriptorIndex := 6, attributes := #[] }, { accessFlags := 16409, nameIndex := 9, descriptorIndex := 6, attributes := #[] }, { accessFlags := 16409, nameIndex := 12, descriptorIndex := 6, attributes := #[] }, { accessFlags := 16409, nameIndex := 15, descriptorIndex := 6, attributes := #[] }, { accessFlags := 16409, nameIndex := 18, descriptorIndex := 6, attributes := #[] }, { accessFlags := 16409, nameIndex := 21, descriptorIndex := 6, attributes := #[] }, { accessFlags := 18, nameIndex := 43, descriptorIndex := 44, attributes := #[] }, { accessFlags := 18, nameIndex := 47, descriptorIndex := 44, attributes := #[] }, { accessFlags := 4122, nameIndex := 24, descriptorIndex := 25, attributes := #[] }])
  fields := #[{ name := "SUCCESS", type := (.object "com/example/cardwarden/cardwarden/wire/ErrorCode"), accessFlags := 16409, slot := 0, constantValue := 0 }, { name := "DUPLICATE_MESSAGE_ID", type := (.object "com/example/cardwarden/cardwarden/wire/ErrorCode"), accessFlags := 16409, slot := 1, constantValue := 0 }, { name := "INVALID_HEADER_FIELD", type := (.object "com/example/cardwarden/cardwarden/wire/ErrorCode"), accessFlags := 16409, slot := 2, constantValue := 0 }, { name := "INVALID_BODY_FIELD", type := (.object "com/example/cardwarden/cardwarden/wire/ErrorCode"), accessFlags := 16409, slot := 3, constantValue := 0 }, { name := "MALFORMED_REQUEST", type := (.object "com/example/cardwarden/cardwarden/wire/ErrorCode"), accessFlags := 16409, slot := 4, constantValue := 0 }, { name := "WRONG_MESSAGE_FUNCTION", type := (.object "com/example/cardwarden/cardwarden/wire/ErrorCode"), accessFlags := 16409, slot := 5, constantValue := 0 }, { name := "code", type := (.object "java/lang/String"), accessFlags := 18, slot := 3, constantValue := 0 }, { name := "description", type := (.object "java/lang/String"), accessFlags := 18, slot := 4, constantValue := 0 }, { name := "$VALUES", type := (.array (.object "com/example/cardwarden/cardwarden/wire/ErrorCode")), accessFlags := 4122, slot := 6, constantValue := 0 }]
  methods := #[k6m0, k6m1]
  instanceTypes := #[(.object "java/lang/String"), .int, .int, (.object "java/lang/String"), (.object "java/lang/String")]
  staticTypes := #[(.object "com/example/cardwarden/cardwarden/wire/ErrorCode"), (.object "com/example/cardwarden/cardwarden/wire/ErrorCode"), (.object "com/example/cardwarden/cardwarden/wire/ErrorCode"), (.object "com/example/cardwarden/cardwarden/wire/ErrorCode"), (.object "com/example/cardwarden/cardwarden/wire/ErrorCode"), (.object "com/example/cardwarden/cardwarden/wire/ErrorCode"), (.array (.object "com/example/cardwarden/cardwarden/wire/ErrorCode"))]
  resolved := Array.replicate 101 none
  statics := some 0 }

def pool7 : Array CpInfo := pool [(2, .class_ 4), (1, u "java/lang/CharSequence"), (42, .class_ 48), (0, u "java/lang/CharSequence$1CodePointIterator"), (10, .class_ 60), (0, u "java/lang/CharSequence$1CharIterator"), (5, .class_ 67), (0, u "java/lang/Object")] 63

/-- java/lang/CharSequence -/
def k7 : Class := { plain "java/lang/CharSequence" (some 0) with
  accessFlags := 1537
  interfaces := #[]
  cf := some (fileOf pool7 2 #[.nestMembers #[47, 59]] #[] 1537 66 #[] #[])
  fields := #[]
  methods := #[]
  instanceTypes := #[]
  staticTypes := #[]
  resolved := Array.replicate 131 none
  statics := none }

def pool8 : Array CpInfo := pool [(1, .class_ 2), (0, u "java/lang/constant/ConstantDesc"), (0, .class_ 4), (0, u "java/lang/Object")] 32

/-- java/lang/constant/ConstantDesc -/
def k8 : Class := { plain "java/lang/constant/ConstantDesc" (some 0) with
  accessFlags := 1537
  interfaces := #[]
  cf := some (fileOf pool8 1 #[] #[] 1537 3 #[] #[])
  fields := #[]
  methods := #[]
  instanceTypes := #[]
  staticTypes := #[]
  resolved := Array.replicate 37 none
  statics := none }

def pool9 : Array CpInfo := pool [(2, .class_ 4), (1, u "java/lang/Object"), (0, u "<init>"), (0, u "()V"), (2, .fieldref 10 11), (0, .class_ 12), (0, .nameAndType 13 14), (0, u "java/lang/String"), (0, u "value"), (0, u "[B"), (0, .fieldref 10 16), (0, .nameAndType 17 18), (0, u "coder"), (0, u "B"), (2, u "hash"), (0, u "I"), (2, u "hashIsZero"), (0, u "Z"), (11, .fieldref 10 39), (0, .nameAndType 40 26), (0, u "COMPACT_STRINGS"), (66, .class_ 109), (1, u "java/lang/StringLatin1"), (431, .methodref 107 542), (0, .nameAndType 543 544), (0, u "equals"), (0, u "([B[B)Z"), (28, u "(Ljava/lang/Object;)Z"), (1, .class_ 576), (0, u "java/lang/CharSequence"), (22, u "CASE_INSENSITIVE_ORDER"), (0, u "Ljava/util/Comparator;"), (500, u "serialPersistentFields"), (0, u "[Ljava/io/ObjectStreamField;"), (0, .class_ 1104), (0, u "java/lang/String$CaseInsensitiveComparator"), (1, .class_ 1107), (0, u "java/io/Serializable"), (0, .class_ 1109), (0, u "java/lang/Comparable"), (0, .class_ 1111), (0, u "java/lang/constant/Constable"), (0, .class_ 1113), (0, u "java/lang/constant/ConstantDesc"), (2, u "serialVersionUID"), (0, u "J"), (3, u "REPL"), (0, u "C"), (2, u "LATIN1"), (1, u "UTF16")] 323

def k9m0 : Method := { name := "<init>", desc := "()V", sig := { parameters := [], returnType := none }, accessFlags := 1, code := none }
def k9c1 : Code := { maxStack := 2, maxLocals := 3, code := jdk_42_method_66_code, exceptionTable := #[], attributes := #[] }
def k9m1 : Method := { name := "equals", desc := "(Ljava/lang/Object;)Z", sig := { parameters := [(.object "java/lang/Object")], returnType := some .boolean }, accessFlags := 1, code := some k9c1 }
/-- java/lang/String -/
def k9 : Class := { plain "java/lang/String" (some 0) with
  accessFlags := 49
  interfaces := #[4, 3, 7, 2, 8]
  cf := some (fileOf pool9 10 #[.nestMembers #[1103]] #[{ accessFlags := 1, nameIndex := 5, descriptorIndex := 6, attributes := #[] }, { accessFlags := 1, nameIndex := 543, descriptorIndex := 573, attributes := #[] }] 49 2 #[1106, 1108, 575, 1110, 1112] #[{ accessFlags := 18, nameIndex := 13, descriptorIndex := 14, attributes := #[] }, { accessFlags := 18, nameIndex := 17, descriptorIndex := 18, attributes := #[] }, { accessFlags := 2, nameIndex := 21, descriptorIndex := 22, attributes := #[] }, { accessFlags := 2, nameIndex := 25, descriptorIndex := 26, attributes := #[] }, { accessFlags := 26, nameIndex := 1116, descriptorIndex := 1117, attributes := #[] }, { accessFlags := 24, nameIndex := 40, descriptorIndex := 26, attributes := #[] }, { accessFlags := 26, nameIndex := 1101, descriptorIndex := 1102, attributes := #[] }, { accessFlags := 26, nameIndex := 1121, descriptorIndex := 1122, attributes := #[] }, { accessFlags := 25, nameIndex := 599, descriptorIndex := 600, attributes := #[] }, { accessFlags := 24, nameIndex := 1125, descriptorIndex := 18, attributes := #[] }, { accessFlags := 24, nameIndex := 1127, descriptorIndex := 18, attributes := #[] }])
  fields := #[{ name := "value", type := (.array .byte), accessFlags := 18, slot := 0, constantValue := 0 }, { name := "coder", type := .byte, accessFlags := 18, slot := 1, constantValue := 0 }, { name := "hash", type := .int, accessFlags := 2, slot := 2, constantValue := 0 }, { name := "hashIsZero", type := .boolean, accessFlags := 2, slot := 3, constantValue := 0 }, { name := "serialVersionUID", type := .long, accessFlags := 26, slot := 0, constantValue := 0 }, { name := "COMPACT_STRINGS", type := .boolean, accessFlags := 24, slot := 1, constantValue := 0 }, { name := "serialPersistentFields", type := (.array (.object "java/io/ObjectStreamField")), accessFlags := 26, slot := 2, constantValue := 0 }, { name := "REPL", type := .char, accessFlags := 26, slot := 3, constantValue := 0 }, { name := "CASE_INSENSITIVE_ORDER", type := (.object "java/util/Comparator"), accessFlags := 25, slot := 4, constantValue := 0 }, { name := "LATIN1", type := .byte, accessFlags := 24, slot := 5, constantValue := 0 }, { name := "UTF16", type := .byte, accessFlags := 24, slot := 6, constantValue := 0 }]
  methods := #[k9m0, k9m1]
  instanceTypes := #[(.array .byte), .byte, .int, .boolean]
  staticTypes := #[.long, .boolean, (.array (.object "java/io/ObjectStreamField")), .char, (.object "java/util/Comparator"), .byte, .byte]
  resolved := Array.replicate 1451 none
  statics := some 1 }

def pool10 : Array CpInfo := pool [(4, .class_ 6), (1, u "java/lang/Object"), (0, u "<init>"), (0, u "()V"), (5, .class_ 16), (1, u "java/lang/StringLatin1"), (104, u "$assertionsDisabled"), (0, u "Z"), (98, .class_ 223), (1, u "java/lang/StringLatin1$LinesSpliterator"), (57, u "equals"), (0, u "([B[B)Z"), (107, .class_ 391), (0, u "java/lang/StringLatin1$CharsSpliterator")] 3

def k10m0 : Method := { name := "<init>", desc := "()V", sig := { parameters := [], returnType := none }, accessFlags := 0, code := none }
def k10c1 : Code := { maxStack := 3, maxLocals := 3, code := jdk_43_method_13_code, exceptionTable := #[], attributes := #[] }
def k10m1 : Method := { name := "equals", desc := "([B[B)Z", sig := { parameters := [(.array .byte), (.array .byte)], returnType := some .boolean }, accessFlags := 9, code := some k10c1 }
/-- java/lang/StringLatin1 -/
def k10 : Class := { plain "java/lang/StringLatin1" (some 0) with
  accessFlags := 48
  interfaces := #[]
  cf := some (fileOf pool10 14 #[.nestMembers #[390, 221]] #[{ accessFlags := 0, nameIndex := 7, descriptorIndex := 8, attributes := #[] }, { accessFlags := 9, nameIndex := 281, descriptorIndex := 282, attributes := #[] }] 48 4 #[] #[{ accessFlags := 4120, nameIndex := 121, descriptorIndex := 122, attributes := #[] }])
  fields := #[{ name := "$assertionsDisabled", type := .boolean, accessFlags := 4120, slot := 0, constantValue := 0 }]
  methods := #[k10m0, k10m1]
  instanceTypes := #[]
  staticTypes := #[.boolean]
  resolved := Array.replicate 395 none
  statics := none }

def pool11 : Array CpInfo := pool [(2, .class_ 4), (1, u "java/lang/Object"), (0, u "<init>"), (0, u "()V"), (17, .class_ 26), (1, u "jdk/internal/util/Preconditions"), (28, .class_ 56), (0, u "jdk/internal/util/Preconditions$4"), (57, .class_ 115), (0, u "jdk/internal/util/Preconditions$1"), (7, u "SIOOBE_FORMATTER"), (0, u "Ljava/util/function/BiFunction;"), (0, .class_ 126), (0, u "jdk/internal/util/Preconditions$2"), (3, u "AIOOBE_FORMATTER"), (0, .class_ 132), (0, u "jdk/internal/util/Preconditions$3"), (3, u "IOOBE_FORMATTER")] 57

def k11m0 : Method := { name := "<init>", desc := "()V", sig := { parameters := [], returnType := none }, accessFlags := 1, code := none }
/-- jdk/internal/util/Preconditions -/
def k11 : Class := { plain "jdk/internal/util/Preconditions" (some 0) with
  accessFlags := 33
  interfaces := #[]
  cf := some (fileOf pool11 24 #[.nestMembers #[55, 131, 125, 114]] #[{ accessFlags := 1, nameIndex := 5, descriptorIndex := 6, attributes := #[] }] 33 2 #[] #[{ accessFlags := 25, nameIndex := 123, descriptorIndex := 124, attributes := #[] }, { accessFlags := 25, nameIndex := 130, descriptorIndex := 124, attributes := #[] }, { accessFlags := 25, nameIndex := 136, descriptorIndex := 124, attributes := #[] }])
  fields := #[{ name := "SIOOBE_FORMATTER", type := (.object "java/util/function/BiFunction"), accessFlags := 25, slot := 0, constantValue := 0 }, { name := "AIOOBE_FORMATTER", type := (.object "java/util/function/BiFunction"), accessFlags := 25, slot := 1, constantValue := 0 }, { name := "IOOBE_FORMATTER", type := (.object "java/util/function/BiFunction"), accessFlags := 25, slot := 2, constantValue := 0 }]
  methods := #[k11m0]
  instanceTypes := #[]
  staticTypes := #[(.object "java/util/function/BiFunction"), (.object "java/util/function/BiFunction"), (.object "java/util/function/BiFunction")]
  resolved := Array.replicate 194 none
  statics := some 2 }

def pool12 : Array CpInfo := pool [(9, u "<init>"), (6, .class_ 18), (1, u "java/lang/Object"), (0, u "()V"), (1, .class_ 23), (1, u "jdk/internal/util/ArraysSupport"), (0, u "LOG2_ARRAY_LONG_INDEX_SCALE"), (0, u "I"), (2, u "U"), (0, u "Ljdk/internal/misc/Unsafe;"), (8, u "BIG_ENDIAN"), (0, u "Z"), (8, u "LOG2_BYTE_BIT_SIZE"), (4, u "LOG2_ARRAY_INT_INDEX_SCALE"), (54, u "JLA"), (0, u "Ljdk/internal/access/JavaLangAccess;"), (11, u "LOG2_ARRAY_BOOLEAN_INDEX_SCALE"), (9, u "LOG2_ARRAY_BYTE_INDEX_SCALE"), (5, u "LOG2_ARRAY_CHAR_INDEX_SCALE"), (5, u "LOG2_ARRAY_SHORT_INDEX_SCALE"), (18, u "LOG2_ARRAY_FLOAT_INDEX_SCALE"), (24, u "LOG2_ARRAY_DOUBLE_INDEX_SCALE"), (89, u "T_BOOLEAN"), (2, u "T_CHAR"), (1, u "T_FLOAT"), (1, u "T_DOUBLE"), (1, u "T_BYTE"), (1, u "T_SHORT"), (1, u "T_INT"), (1, u "T_LONG"), (1, u "SOFT_MAX_ARRAY_LENGTH")] 83

def k12m0 : Method := { name := "<init>", desc := "()V", sig := { parameters := [], returnType := none }, accessFlags := 2, code := none }
/-- jdk/internal/util/ArraysSupport -/
def k12 : Class := { plain "jdk/internal/util/ArraysSupport" (some 0) with
  accessFlags := 33
  interfaces := #[]
  cf := some (fileOf pool12 21 #[] #[{ accessFlags := 2, nameIndex := 9, descriptorIndex := 19, attributes := #[] }] 33 16 #[] #[{ accessFlags := 24, nameIndex := 28, descriptorIndex := 29, attributes := #[] }, { accessFlags := 26, nameIndex := 38, descriptorIndex := 39, attributes := #[] }, { accessFlags := 25, nameIndex := 121, descriptorIndex := 25, attributes := #[] }, { accessFlags := 25, nameIndex := 131, descriptorIndex := 25, attributes := #[] }, { accessFlags := 25, nameIndex := 137, descriptorIndex := 25, attributes := #[] }, { accessFlags := 25, nameIndex := 143, descriptorIndex := 25, attributes := #[] }, { accessFlags := 25, nameIndex := 53, descriptorIndex := 25, attributes := #[] }, { accessFlags := 25, nameIndex := 24, descriptorIndex := 25, attributes := #[] }, { accessFlags := 25, nameIndex := 162, descriptorIndex := 25, attributes := #[] }, { accessFlags := 25, nameIndex := 187, descriptorIndex := 25, attributes := #[] }, { accessFlags := 26, nameIndex := 48, descriptorIndex := 25, attributes := #[] }, { accessFlags := 25, nameIndex := 277, descriptorIndex := 25, attributes := #[] }, { accessFlags := 25, nameIndex := 280, descriptorIndex := 25, attributes := #[] }, { accessFlags := 25, nameIndex := 282, descriptorIndex := 25, attributes := #[] }, { accessFlags := 25, nameIndex := 284, descriptorIndex := 25, attributes := #[] }, { accessFlags := 25, nameIndex := 286, descriptorIndex := 25, attributes := #[] }, { accessFlags := 25, nameIndex := 288, descriptorIndex := 25, attributes := #[] }, { accessFlags := 25, nameIndex := 290, descriptorIndex := 25, attributes := #[] }, { accessFlags := 25, nameIndex := 292, descriptorIndex := 25, attributes := #[] }, { accessFlags := 26, nameIndex := 108, descriptorIndex := 109, attributes := #[] }, { accessFlags := 25, nameIndex := 294, descriptorIndex := 25, attributes := #[] }])
  fields := #[{ name := "U", type := (.object "jdk/internal/misc/Unsafe"), accessFlags := 24, slot := 0, constantValue := 0 }, { name := "BIG_ENDIAN", type := .boolean, accessFlags := 26, slot := 1, constantValue := 0 }, { name := "LOG2_ARRAY_BOOLEAN_INDEX_SCALE", type := .int, accessFlags := 25, slot := 2, constantValue := 0 }, { name := "LOG2_ARRAY_BYTE_INDEX_SCALE", type := .int, accessFlags := 25, slot := 3, constantValue := 0 }, { name := "LOG2_ARRAY_CHAR_INDEX_SCALE", type := .int, accessFlags := 25, slot := 4, constantValue := 0 }, { name := "LOG2_ARRAY_SHORT_INDEX_SCALE", type := .int, accessFlags := 25, slot := 5, constantValue := 0 }, { name := "LOG2_ARRAY_INT_INDEX_SCALE", type := .int, accessFlags := 25, slot := 6, constantValue := 0 }, { name := "LOG2_ARRAY_LONG_INDEX_SCALE", type := .int, accessFlags := 25, slot := 7, constantValue := 0 }, { name := "LOG2_ARRAY_FLOAT_INDEX_SCALE", type := .int, accessFlags := 25, slot := 8, constantValue := 0 }, { name := "LOG2_ARRAY_DOUBLE_INDEX_SCALE", type := .int, accessFlags := 25, slot := 9, constantValue := 0 }, { name := "LOG2_BYTE_BIT_SIZE", type := .int, accessFlags := 26, slot := 10, constantValue := 0 }, { name := "T_BOOLEAN", type := .int, accessFlags := 25, slot := 11, constantValue := 0 }, { name := "T_CHAR", type := .int, accessFlags := 25, slot := 12, constantValue := 0 }, { name := "T_FLOAT", type := .int, accessFlags := 25, slot := 13, constantValue := 0 }, { name := "T_DOUBLE", type := .int, accessFlags := 25, slot := 14, constantValue := 0 }, { name := "T_BYTE", type := .int, accessFlags := 25, slot := 15, constantValue := 0 }, { name := "T_SHORT", type := .int, accessFlags := 25, slot := 16, constantValue := 0 }, { name := "T_INT", type := .int, accessFlags := 25, slot := 17, constantValue := 0 }, { name := "T_LONG", type := .int, accessFlags := 25, slot := 18, constantValue := 0 }, { name := "JLA", type := (.object "jdk/internal/access/JavaLangAccess"), accessFlags := 26, slot := 19, constantValue := 0 }, { name := "SOFT_MAX_ARRAY_LENGTH", type := .int, accessFlags := 25, slot := 20, constantValue := 0 }]
  methods := #[k12m0]
  instanceTypes := #[]
  staticTypes := #[(.object "jdk/internal/misc/Unsafe"), .boolean, .int, .int, .int, .int, .int, .int, .int, .int, .int, .int, .int, .int, .int, .int, .int, .int, .int, (.object "jdk/internal/access/JavaLangAccess"), .int]
  resolved := Array.replicate 378 none
  statics := none }

def pool13 : Array CpInfo := pool [(1, u "java/lang/Cloneable"), (0, .class_ 1), (0, u "java/lang/Object"), (0, .class_ 3)] 3

/-- java/lang/Cloneable -/
def k13 : Class := { plain "java/lang/Cloneable" (some 0) with
  accessFlags := 1537
  interfaces := #[]
  cf := some (fileOf pool13 2 #[] #[] 1537 4 #[] #[])
  fields := #[]
  methods := #[]
  instanceTypes := #[]
  staticTypes := #[]
  resolved := Array.replicate 8 none
  statics := none }

/-- the primitive byte -/
def k14 : Class := { plain "byte" none with kind := .primitive 'B', accessFlags := 0x411 }
/-- [B -/
def k15 : Class := { plain "[B" (some 0) with kind := .array 14 .byte, interfaces := #[13, 4], accessFlags := 1041 }

/-- the primitive int -/
def k16 : Class := { plain "int" none with kind := .primitive 'I', accessFlags := 0x411 }
/-- [I -/
def k17 : Class := { plain "[I" (some 0) with kind := .array 16 .int, interfaces := #[13, 4], accessFlags := 1041 }

def heap : Heap := #[{ cls := 6, slots := #[.ref 5, .ref 8, .ref 11, .ref 14, .ref 17, .ref 20, .null], vm := .statics 6 },
  { cls := 9, slots := #[.long 0, .int 1, .null, .int 0, .null, .int 0, .int 0], vm := .statics 9 },
  { cls := 11, slots := #[.null, .null, .null], vm := .statics 11 },
  { cls := 15, slots := #[.int 48, .int 48, .int 48], vm := .none },
  { cls := 9, slots := #[.ref 3, .int 0, .int 0, .int 0], vm := .none },
  { cls := 6, slots := #[.null, .int 0, .int 0, .ref 4, .null], vm := .none },
  { cls := 15, slots := #[.int 49, .int 48, .int 49], vm := .none },
  { cls := 9, slots := #[.ref 6, .int 0, .int 0, .int 0], vm := .none },
  { cls := 6, slots := #[.null, .int 1, .int 0, .ref 7, .null], vm := .none },
  { cls := 15, slots := #[.int 49, .int 48, .int 50], vm := .none },
  { cls := 9, slots := #[.ref 9, .int 0, .int 0, .int 0], vm := .none },
  { cls := 6, slots := #[.null, .int 2, .int 0, .ref 10, .null], vm := .none },
  { cls := 15, slots := #[.int 49, .int 48, .int 51], vm := .none },
  { cls := 9, slots := #[.ref 12, .int 0, .int 0, .int 0], vm := .none },
  { cls := 6, slots := #[.null, .int 3, .int 0, .ref 13, .null], vm := .none },
  { cls := 15, slots := #[.int 49, .int 48, .int 52], vm := .none },
  { cls := 9, slots := #[.ref 15, .int 0, .int 0, .int 0], vm := .none },
  { cls := 6, slots := #[.null, .int 4, .int 0, .ref 16, .null], vm := .none },
  { cls := 15, slots := #[.int 49, .int 48, .int 53], vm := .none },
  { cls := 9, slots := #[.ref 18, .int 0, .int 0, .int 0], vm := .none },
  { cls := 6, slots := #[.null, .int 5, .int 0, .ref 19, .null], vm := .none }]
def classes : Array Class := #[k0, k1, k2, k3, k4, k5, k6, k7, k8, k9, k10, k11, k12, k13, k14, k15, k16, k17]
def interned : List (Array UInt16 × Addr) := []
def slotsUsed : Nat := 89
def theMethod : MethodId := ⟨1, 2⟩
def args0 : Array Value := #[.int 5]
def aboutOver (below : List Frame) : State where
  vm := { classes := classes, interned := interned.toArray }
  heap := heap
  slotsUsed := slotsUsed
  threads := #[{ frames := .invoking theMethod args0 :: below }]
def below0 : List Frame := [.native { method := ⟨0, 0⟩, args := #[] }]
def about1 : State := aboutOver below0
def p0 : Program := .bare "" "" ""
def e0 : Env := launch0.env 0 0 0
theorem w_frames : about1.frames = Frame.invoking theMethod args0 :: below0 := rfl
set_option maxRecDepth 65536 in
theorem w_args : argsFit about1.vm theMethod args0 = true := by decide +kernel
set_option maxRecDepth 65536 in
theorem w_heap : heapFits about1 = true := by decide +kernel
set_option maxRecDepth 65536 in
theorem w_runnable : about1.curStatus? = some .runnable := by decide +kernel
set_option maxRecDepth 65536 in
theorem w_alone : about1.alone = true := by decide +kernel
set_option maxRecDepth 65536 in
theorem w_named : about1.methodNamed? x = some theMethod := by decide +kernel
set_option maxRecDepth 65536 in
theorem w_hears : about1.hears theMethod below0 = true := by decide +kernel
set_option maxRecDepth 65536 in
theorem w_ripe : about1.ripe theMethod args0 below0 = true := by decide +kernel
theorem w_running : about1.status = .running := rfl
set_option maxRecDepth 65536 in
theorem w_room : about1.hasRoom e0.platform room_1 = true :=
  launch0.hasRoom_least _ room_1 (by decide +kernel) (by decide +kernel) (by decide +kernel) (by decide +kernel) (by decide +kernel) (by decide +kernel)
theorem allAtoms_all (ts : List Jvm.Cond) (a : Array Jvm.Value) (st : Jvm.State) : (allAtoms ts).before a st = ts.all (fun c => c.before a st) := by
  induction ts with
  | nil => rfl
  | cons c t ih =>
    show (Jvm.Cond.and c (allAtoms t)).before a st = _
    rw [Jvm.Cond.before_and, ih, List.all_cons]
def words1 : List Jvm.Cond := Jvm.Cond.code x code maxLocals ret :: tables_1
/-- a 'code' word, met by the world's own term for the bytes: nothing is compared byte by byte -/
theorem code_word {y : MethodName} {bytes : ByteArray} {mx : Nat} {rt : Option FieldType} {a : Array Value} {s : State} {m : MethodId} {meth : Method} {c : Code} (h1 : s.methodNamed? y = some m) (h2 : s.vm.method? m = some meth) (h3 : meth.code = some c) (h4 : c.code = bytes)
    (h5 : (c.maxLocals == mx && c.exceptionTable.isEmpty && decide (c.maxStack ≤ mostOperands) && decide (meth.sig.returnType = rt) && !meth.locks && decide (parseMethodDescriptor y.desc = some meth.sig)) = true) : (Jvm.Cond.code y bytes mx rt).before a s = true := by
  simp only [Bool.and_eq_true, beq_iff_eq, Bool.not_eq_true', decide_eq_true_eq] at h5
  obtain ⟨⟨⟨⟨⟨g1, g2⟩, g3⟩, g4⟩, g5⟩, g6⟩ := h5
  simp [Cond.before, Cond.holds, Cond.value, h1, h2, h3, h4, g1, g2, g3, g4, g5, g6]
def isCode : Jvm.Cond → Bool
  | .code _ _ _ _ => true
  | _ => false
theorem all_split {L : List Jvm.Cond} {P : Jvm.Cond → Bool} (h1 : L.all (fun c => isCode c || P c) = true) (h2 : ∀ c ∈ L.filter isCode, P c = true) : L.all P = true := by
  refine List.all_eq_true.mpr fun c hc => ?_
  have h := List.all_eq_true.mp h1 c hc
  rcases Bool.eq_false_or_eq_true (isCode c) with hi | hi
  · exact h2 c (List.mem_filter.mpr ⟨hc, hi⟩)
  · simpa [hi] using h
set_option maxRecDepth 65536 in
theorem w_c0 : (Jvm.Cond.code x code maxLocals ret).before args0 about1 = true := code_word (m := ⟨1, 2⟩) (meth := k1m2) (c := k1c2) (by decide +kernel) rfl rfl rfl (by decide +kernel)
set_option maxRecDepth 65536 in
theorem w_c1 : (Jvm.Cond.code ({ cls := "com/example/cardwarden/cardwarden/wire/ErrorCodeIsSuccessPinLaw", name := "pick", desc := "(I)Lcom/example/cardwarden/cardwarden/wire/ErrorCode;" } : Jvm.MethodName) method_2_code (1 : Nat) (Option.some (Jvm.ClassFile.FieldType.object "com/example/cardwarden/cardwarden/wire/ErrorCode"))).before args0 about1 = true := code_word (m := ⟨1, 1⟩) (meth := k1m1) (c := k1c1) (by decide +kernel) rfl rfl rfl (by decide +kernel)
set_option maxRecDepth 65536 in
theorem w_c2 : (Jvm.Cond.code ({ cls := "com/example/cardwarden/cardwarden/wire/ErrorCode", name := "isSuccess", desc := "()Z" } : Jvm.MethodName) prog_64_method_6_code (1 : Nat) (Option.some Jvm.ClassFile.FieldType.boolean)).before args0 about1 = true := code_word (m := ⟨6, 1⟩) (meth := k6m1) (c := k6c1) (by decide +kernel) rfl rfl rfl (by decide +kernel)
set_option maxRecDepth 65536 in
theorem w_c3 : (Jvm.Cond.code ({ cls := "com/example/cardwarden/cardwarden/wire/ErrorCode", name := "code", desc := "()Ljava/lang/String;" } : Jvm.MethodName) prog_64_method_4_code (1 : Nat) (Option.some (Jvm.ClassFile.FieldType.object "java/lang/String"))).before args0 about1 = true := code_word (m := ⟨6, 0⟩) (meth := k6m0) (c := k6c0) (by decide +kernel) rfl rfl rfl (by decide +kernel)
set_option maxRecDepth 65536 in
theorem w_c4 : (Jvm.Cond.code ({ cls := "java/lang/String", name := "equals", desc := "(Ljava/lang/Object;)Z" } : Jvm.MethodName) jdk_42_method_66_code (3 : Nat) (Option.some Jvm.ClassFile.FieldType.boolean)).before args0 about1 = true := code_word (m := ⟨9, 1⟩) (meth := k9m1) (c := k9c1) (by decide +kernel) rfl rfl rfl (by decide +kernel)
set_option maxRecDepth 65536 in
theorem w_c5 : (Jvm.Cond.code ({ cls := "java/lang/StringLatin1", name := "equals", desc := "([B[B)Z" } : Jvm.MethodName) jdk_43_method_13_code (3 : Nat) (Option.some Jvm.ClassFile.FieldType.boolean)).before args0 about1 = true := code_word (m := ⟨10, 1⟩) (meth := k10m1) (c := k10c1) (by decide +kernel) rfl rfl rfl (by decide +kernel)
def codes1 : List Jvm.Cond := [Jvm.Cond.code x code maxLocals ret, Jvm.Cond.code ({ cls := "com/example/cardwarden/cardwarden/wire/ErrorCodeIsSuccessPinLaw", name := "pick", desc := "(I)Lcom/example/cardwarden/cardwarden/wire/ErrorCode;" } : Jvm.MethodName) method_2_code (1 : Nat) (Option.some (Jvm.ClassFile.FieldType.object "com/example/cardwarden/cardwarden/wire/ErrorCode")), Jvm.Cond.code ({ cls := "com/example/cardwarden/cardwarden/wire/ErrorCode", name := "isSuccess", desc := "()Z" } : Jvm.MethodName) prog_64_method_6_code (1 : Nat) (Option.some Jvm.ClassFile.FieldType.boolean), Jvm.Cond.code ({ cls := "com/example/cardwarden/cardwarden/wire/ErrorCode", name := "code", desc := "()Ljava/lang/String;" } : Jvm.MethodName) prog_64_method_4_code (1 : Nat) (Option.some (Jvm.ClassFile.FieldType.object "java/lang/String")), Jvm.Cond.code ({ cls := "java/lang/String", name := "equals", desc := "(Ljava/lang/Object;)Z" } : Jvm.MethodName) jdk_42_method_66_code (3 : Nat) (Option.some Jvm.ClassFile.FieldType.boolean), Jvm.Cond.code ({ cls := "java/lang/StringLatin1", name := "equals", desc := "([B[B)Z" } : Jvm.MethodName) jdk_43_method_13_code (3 : Nat) (Option.some Jvm.ClassFile.FieldType.boolean)]
set_option maxRecDepth 65536 in
theorem codes_eq : words1.filter isCode = codes1 := rfl
theorem w_codes : ∀ c ∈ words1.filter isCode, c.before args0 about1 = true := by
  rw [codes_eq]
  intro c hc
  simp only [codes1, List.mem_cons, List.not_mem_nil, or_false] at hc
  rcases hc with rfl | rfl | rfl | rfl | rfl | rfl
  · exact w_c0
  · exact w_c1
  · exact w_c2
  · exact w_c3
  · exact w_c4
  · exact w_c5
set_option maxRecDepth 65536 in
theorem w_t1 : (words1.take 24).all (fun c => isCode c || c.before args0 about1) = true := by decide +kernel
set_option maxRecDepth 65536 in
theorem w_t2 : ((words1.drop 24).take 24).all (fun c => isCode c || c.before args0 about1) = true := by decide +kernel
set_option maxRecDepth 65536 in
theorem w_t3 : ((words1.drop 24).drop 24).all (fun c => isCode c || c.before args0 about1) = true := by decide +kernel
theorem w_tables : (allAtoms (Jvm.Cond.code x code maxLocals ret :: tables_1)).before args0 about1 = true := by
  rw [allAtoms_all]
  show words1.all (fun c => c.before args0 about1) = true
  refine all_split ?_ w_codes
  rw [← List.take_append_drop 24 words1, List.all_append, w_t1, ← List.take_append_drop 24 (words1.drop 24), List.all_append, w_t2, w_t3]
  rfl
set_option maxRecDepth 65536 in
theorem w_rest : rest_1_c.before args0 about1 = true := by decide +kernel
set_option maxRecDepth 65536 in
theorem w_case : (Jvm.Cond.and given_1 narrow_1).before args0 about1 = true := by decide +kernel
set_option maxRecDepth 65536 in
theorem w_consts : constsHeld consts_1 about1 := Jvm.Lit.constsHeldB_iff.mp (by decide +kernel)
theorem w_applies : (headSpec (Jvm.Cond.code x code maxLocals ret :: tables_1) room_1).applies x e0.platform about1 = true :=
  (Spec.applies_iff w_frames).mpr ⟨w_running, w_runnable, w_alone, w_named, w_hears, w_ripe, w_room, w_tables⟩
theorem atStart : AtStart classFile x code maxLocals ret World_1 tables_1 room_1 Calls_1 rest_1 Pre_1 launch0 p0 e0 about1 theMethod args0 below0 :=
  ⟨lists_1, trivial, launch0.admits_env _ _ _, launch0.least_env, fairChoices_fair.cas, fairChoices_fair.clock, w_frames, w_args, w_heap, w_applies, ⟨w_consts, trivial⟩, w_rest, w_case⟩
end start1
theorem witness_1 : WitnessClaimed_1 := ⟨start1.p0, start1.e0, start1.about1, start1.theMethod, start1.args0, start1.below0, start1.atStart⟩
end Jvm.Pilot.@@N@@
