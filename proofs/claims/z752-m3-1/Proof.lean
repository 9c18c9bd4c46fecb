import JvmDerived
import JvmDerived.Pilot.@@N@@Statement
import JvmDerived.Pilot.@@N@@Code
set_option linter.unusedVariables false
set_option linter.unusedSimpArgs false
namespace Jvm.RoadKit
open Sem ClassFile Op Lib Jvm.Stand Jvm.Free Jvm.LawKit
section New
variable {p : Program} {l : Launch} {e : Env} {R : Room} {s : State} {m : MethodId} {args : Array Value} {below : List Frame} {meth : Method} {c : Code} {T : State} {locs : List Loc} {cells slots : Nat}
theorem retI (X : Stand p l e R s m args below meth c T locs cells slots) (hx : p.tables.exec = Jvm.exec) {pc : Nat} {Ls : Array Slot} {z : Int32} {rest : List Value} (hret : meth.sig.returnType = some .int) (hd : decode c.code pc = .ok (.ireturn, 1)) {fs : List Frame}
    (hl : ∀ (f : JFrame) (acts : List Action), f.method = m → f.locked = none → f.entered = [] → (doReturn e (T.setTop f) acts (some (.int z))).1 = T.setFrames fs) : Steps p.tables e below (T.setTop (mkF m pc Ls (.int z :: rest))) (T.setFrames fs) := by
  have hm' : T.vm.method? m = some meth := X.method'
  have hn : narrow .int (.int z) = .int z := rfl
  show Steps p.tables e below (T.setTop { method := m, pc := pc, locals := Ls, stack := _ :: rest, locked := none }) _
  jvm_step X.here [X.here.top, hx, hd, hm', hret, hn]
  first | (intro acts; rw [hl _ acts rfl rfl rfl]) | rw [hl _ _ rfl rfl rfl]
  exact Steps.refl _
end New
end Jvm.RoadKit
namespace Jvm.Pilot.@@N@@
open Jvm Jvm.ClassFile Sem Op Lib Jvm.Free Jvm.Stand Jvm.LawKit Jvm.RoadKit Bundle Jvm.Pilot.@@N@@.Jvm.D
def own_G (tb : Tables) (e : Env) (below : List Frame) (P : State → Outcome → Prop) (S : State) : Prop := ∃ t o, Steps tb e below S t ∧ P t o
theorem own_in {tb : Tables} {e : Env} {below : List Frame} {P : State → Outcome → Prop} {S : State} (h : own_G tb e below P S) : ∃ t o, Steps tb e below S t ∧ P t o := h
theorem own_go {tb : Tables} {e : Env} {below : List Frame} {P : State → Outcome → Prop} {S S' : State} (f : ∀ t, Steps tb e below S' t → Steps tb e below S t) (h : own_G tb e below P S') : own_G tb e below P S := by
  obtain ⟨t, o, st, hp⟩ := h
  exact ⟨t, o, f t st, hp⟩
theorem own_join {α : Type} {tb : Tables} {e : Env} {below : List Frame} {P : State → Outcome → Prop} {S : State} (C : α → Prop) (F : α → State) (J : ∀ a, C a → own_G tb e below P (F a)) (M : (∀ a, C a → own_G tb e below P (F a)) → own_G tb e below P S) : own_G tb e below P S := M J
theorem own_cut {tb : Tables} {e : Env} {below : List Frame} {P : State → Outcome → Prop} {S : State} (J : (State → Outcome → Prop) → Prop) (h : J P) (M : J P → own_G tb e below P S) : own_G tb e below P S := M h
theorem own_loop {α : Type} {tb : Tables} {e : Env} {below : List Frame} {P : State → Outcome → Prop} {S : State} (mu : α → Nat) (C : α → Prop) (F : α → State) (J : ∀ a, C a → (∀ b, C b → mu b < mu a → own_G tb e below P (F b)) → own_G tb e below P (F a)) (M : (∀ a, C a → own_G tb e below P (F a)) → own_G tb e below P S) : own_G tb e below P S := by
  apply M
  have q : ∀ n a, mu a < n → C a → own_G tb e below P (F a) := by
    intro n
    induction n with
    | zero => intro a h; exact absurd h (Nat.not_lt_zero _)
    | succ n ih => intro a h ha; exact J a ha fun b hb hlt => ih b (by omega) hb
  exact fun a ha => q _ a (Nat.lt_succ_self _) ha
theorem own_gen {p : Program} {l : Launch} {e : Env} {R : Room} {s : State} {m : MethodId} {args : Array Value} {below : List Frame} {meth : Method} {c : Code} {T : State} {locs : List Loc} {cells slots n0 : Nat} (X : Stand p l e R s m args below meth c T locs cells slots) (N : Fr n0 locs) : ∃ L, Stand p l e R s m args below meth c T L cells slots ∧ Fr n0 L := ⟨_, X, N⟩
theorem own_psel {s : State} {args : Array Value} {y y' : MethodName} (h : (Jvm.Cond.selects y'.cls y' y').before args s = true) (e : y'.cls = y.cls) (hp : s.PrivateAt y) (hi : (Jvm.Cond.instanceMethod y).before args s = true) (hy : y.cls ≠ "java/lang/invoke/MethodHandle" ∧ y.cls ≠ "java/lang/invoke/VarHandle") : (Jvm.Cond.selects y.cls y y).before args s = true := by
  obtain ⟨c2, r2, m2, -, -, q3, -, kP, hkP, hkPi⟩ := Cond.selects_spec h
  exact selects_self_of_private (e ▸ findClass_of_methodNamed q3) hkP hkPi hp hi hy
theorem own_l1 {a b : Int64} (h : a = b) : lcmpW a b = 0 := by subst h; simp [lcmpW]
theorem own_l2 {a b : Int64} (h : ¬ a = b) : ¬ lcmpW a b = 0 := by
  unfold lcmpW; split
  · decide
  · first | (rw [if_neg h]; decide) | decide
theorem own_l3 {a b : Int64} (h : a < b) : lcmpW a b < 0 := by
  have h1 : ¬ a > b := Int64.not_lt.mpr (Int64.le_of_lt h)
  have h2 : ¬ a = b := fun q => by subst q; exact Int64.lt_irrefl h
  unfold lcmpW; rw [if_neg h1, if_neg h2]; decide
theorem own_l4 {a b : Int64} (h : ¬ a < b) : ¬ lcmpW a b < 0 := by
  unfold lcmpW; split
  · decide
  · split
    · decide
    · rename_i h1 h2
      rw [gt_iff_lt, Int64.lt_iff_toInt_lt] at h1; rw [Int64.lt_iff_toInt_lt] at h; rw [← Int64.toInt_inj] at h2; omega
theorem own_l5 {a b : Int64} (h : b < a) : 0 < lcmpW a b := by unfold lcmpW; rw [if_pos h]; decide
theorem own_l6 {a b : Int64} (h : ¬ b < a) : ¬ 0 < lcmpW a b := by
  unfold lcmpW; rw [if_neg h]; split <;> decide
theorem own_mvR {Z s : State} {a0 args : Array Value} {own : String} {index : Nat} {y : MethodName} (hZ : Z.Warmed39 s.vm) (hi : (Jvm.Cond.instanceMethod y).before a0 Z = true) (hy : y.cls ≠ "java/lang/invoke/MethodHandle" ∧ y.cls ≠ "java/lang/invoke/VarHandle") (h : (Jvm.Cond.methodRef own index y).before a0 Z = true) : (Jvm.Cond.methodRef own index y).before args s = true := by
  obtain ⟨mk, methM, hnamed, -, -, -⟩ := Cond.instanceMethod_spec hi
  have q : (Jvm.Cond.methodRef own index y).before a0 (Z.setVm s.vm) = true := Cond.methodRef_warmed39 hZ hnamed hy h
  exact q
theorem own_specialRef {p : Program} {l : Launch} {e : Env} {R : Room} {s : State} {m : MethodId} {args : Array Value} {below : List Frame} {meth : Method} {c : Code} {T : State} {locs : List Loc} {cells slots : Nat} (X : Stand p l e R s m args below meth c T locs cells slots) (hexec : p.tables.exec = Jvm.exec) {own : String} {index : Nat} {y : MethodName} (hy1 : y.name = "<init>")
    (hown : s.vm.findClass own = some m.cls) (href : (Jvm.Cond.methodRef own index y).before args s = true) (hinst : (Jvm.Cond.instanceMethod y).before args s = true)
    {bytes : ByteArray} {maxL : Nat} (hcode : (Jvm.Cond.code y bytes maxL none).before args s = true)
    (hy : y.cls ≠ "java/lang/invoke/MethodHandle" ∧ y.cls ≠ "java/lang/invoke/VarHandle")
    {W : Nat} {Pre : Pt → Array Value → Prop} {Post : Pt → Array Value → Option Value → Pt → Prop} (hK : Back l R p e below s args y 3 W Pre Post)
    {g : JFrame} (hg : g.method = m) (hsize : g.locals.size = c.maxLocals) {s₀ : State} (hcome : Steps p.tables e below s₀ (T.setTop g)) {a : Addr} {argsL rest : List Value}
    (hlen : ∀ sig, parseMethodDescriptor y.desc = some sig → argsL.length = sig.parameters.length) (hstack : g.stack = argsL.reverse ++ .ref a :: rest) (hW : 2 * g.monitorRoom + (rest.map fun v => v.category).sum ≤ W)
    (hdg : decode c.code g.pc = .ok (.invokespecial index, 3)) (hpre : ∀ vm₁, s.WarmedH vm₁ → Pre ⟨T.setVm vm₁, locs, cells, slots⟩ (.ref a :: argsL).toArray) :
    ∃ (v : Option Value) (vm₁ : Vm) (B : Pt), s.WarmedH vm₁ ∧ Stand p l e R s m args below meth c B.U B.locs B.cells B.slots ∧ Post ⟨T.setVm vm₁, locs, cells, slots⟩ (.ref a :: argsL).toArray v B ∧
      Steps p.tables e below s₀ (B.U.setTop { g with pc := g.pc + 3, stack := v.toList ++ rest }) := by
  obtain ⟨obj, methO, hnO, hmO, hstO, habO⟩ := Cond.instanceMethod_spec hinst
  obtain ⟨methO', cO, hmO', -, -, -, -, -, -, hsigO⟩ := Cond.code_spec hnO hcode
  cases hmO.symm.trans hmO'
  obtain ⟨kO, hkO, hnameO⟩ := className_of_methodNamed hnO
  obtain ⟨hnameMO, hdescO⟩ := name_of_methodNamed hnO hmO
  have hW1 := X.warmed
  have hrT : (Jvm.Cond.methodRef own index y).before args (s.setVm T.vm) = true := Cond.methodRef_warmed hW1 hnO hy href
  have hownT : (s.setVm T.vm).vm.findClass own = some m.cls := by rw [show (s.setVm T.vm).vm = T.vm from rfl, hW1.alike.findClass]; exact hown
  obtain ⟨m', c', hmF, hready, hfind, hnres⟩ := Cond.methodRef_named (s := s.setVm T.vm) e hownT hrT
  have hfo : (s.setVm T.vm).methodFound? y.cls y.name y.desc = some obj := by
    rw [State.methodFound?_setVm_of_named hW1.alike hnO hy]; exact State.methodFound?_of_named hnO hy
  obtain rfl : m' = obj := Option.some.inj (hmF.symm.trans hfo)
  have hcc : c' = m'.cls := by
    have e1 := findClass_of_methodNamed hnO
    rw [show (s.setVm T.vm).vm = T.vm from rfl, hW1.alike.findClass, e1] at hfind
    exact (Option.some.inj hfind).symm
  subst hcc
  obtain ⟨kO₂, hkO₂, heO₂⟩ := hW1.alike.2.2 _ _ hkO
  have hmO₂ : T.vm.method? m' = some methO := by rw [hW1.alike.method?]; exact hmO
  have hfound : lookupSpecial T.vm m'.cls "<init>" methO.desc = .method m' := by
    rw [hW1.alike.lookupSpecial, hdescO, ← hy1]; exact lookupSpecial_of_named hnO hmO hstO
  have hTT : T.setVm T.vm = T := by cases T; rfl
  have hp := hpre T.vm hW1
  rw [hTT] at hp
  obtain ⟨v, B, X', hpost, hsteps⟩ := hK m meth c ⟨T, locs, cells, slots⟩ { g with stack := rest } (.invokespecial index) m' (.ref a :: argsL).toArray X hg hsize hdg hW (X.named hnO) hp
  refine ⟨v, T.vm, B, hW1, X', by rw [hTT]; exact hpost, hcome.trans ?_⟩
  subst hg
  have hst : ∀ target, (∀ acts, Steps p.tables e below (doInvoke e (T.setTop { g with stack := rest }) acts m' (.ref a :: argsL).toArray).1 target) → Steps p.tables e below (T.setTop g) target := fun target hrest => by
    jvm_step X.here [hexec, hdg, invokespecial.wp_init (e := e) (s := T) (k := kO₂) (meth := methO) (m := m') (a := a) (args := argsL) (rest := rest) (f := g) X.here.top hnres hready hkO₂ hmO₂ (by rw [hnameMO]; exact hy1) hstO habO hfound (hlen _ hsigO) hstack]
    exact hrest
  exact (hst _ fun acts => by rw [doInvoke_state]; exact Steps.refl _).trans hsteps
def own_ord (f : Int32) (q : Int64) : Int64 := if f = (0 : Int32) then q else (-9223372036854775808 : Int64)
def own_gb (f1 : Int32) (q1 : Int64) (f2 : Int32) (q2 : Int64) : Int32 := if f1 = (0 : Int32) ∧ ¬ own_ord f1 q1 < own_ord f2 q2 then 1 else 0
def own_e4 (x n : Int32) : Int32 := n - ((x.toUInt32 >>> ((1 : Int32) &&& 31).toUInt32).toInt32)
def own_e3 (x n : Int32) : Int32 := if x < (4 : Int32) then own_e4 x n else own_e4 ((x.toUInt32 >>> ((2 : Int32) &&& 31).toUInt32).toInt32) (n + (-2 : Int32))
def own_e2 (x n : Int32) : Int32 := if x < (16 : Int32) then own_e3 x n else own_e3 ((x.toUInt32 >>> ((4 : Int32) &&& 31).toUInt32).toInt32) (n + (-4 : Int32))
def own_e1 (x n : Int32) : Int32 := if x < (256 : Int32) then own_e2 x n else own_e2 ((x.toUInt32 >>> ((8 : Int32) &&& 31).toUInt32).toInt32) (n + (-8 : Int32))
def own_e0 (x : Int32) : Int32 := if x < (65536 : Int32) then own_e1 x (31 : Int32) else own_e1 ((x.toUInt32 >>> ((16 : Int32) &&& 31).toUInt32).toInt32) (15 : Int32)
def own_nlz (x : Int32) : Int32 := if (0 : Int32) < x then own_e0 x else if x = (0 : Int32) then (32 : Int32) else (0 : Int32)
def own_nlzL (q : Int64) : Int32 := if (((q.toUInt64 >>> ((32 : Int32) &&& 0x3f).toInt64.toUInt64).toInt64).toInt32) = (0 : Int32) then (32 : Int32) + own_nlz q.toInt32 else own_nlz (((q.toUInt64 >>> ((32 : Int32) &&& 0x3f).toInt64.toUInt64).toInt64).toInt32)
def own_d1 (d : Int64) : Int64 := d ^^^ ((d.toUInt64 >>> ((12 : Int32) &&& 0x3f).toInt64.toUInt64).toInt64)
def own_d2 (d : Int64) : Int64 := own_d1 d ^^^ (own_d1 d <<< ((25 : Int32) &&& 0x3f).toInt64)
def own_next (d : Int64) : Int64 := own_d2 d ^^^ (((own_d2 d).toUInt64 >>> ((27 : Int32) &&& 0x3f).toInt64.toUInt64).toInt64)
def own_bits (d : Int64) : Int64 := own_next d * (2685821657736338717 : Int64)
def own_lanes (d : Int64) : Int32 := (1 : Int32) + (own_nlzL (own_bits d ||| (2199023255552 : Int64)) / (2 : Int32))
def own_DD (u0 u1 ev ew ra rb db : Value) (na nb mx my : Addr) : Prop := u0 = .null ∨ (u0 = .ref na ∧ ev = .ref my) ∨ (u0 = .ref na ∧ u1 = .ref nb ∧ ev = .ref mx ∧ ew = .ref mx ∧ ra = .null ∧ rb = .null ∧ db = .ref na)
def own_T (le : Int32) (z e : Addr) : Prop := le = (1 : Int32) ∨ (le = (3 : Int32) ∧ e = z)
def own_H (z e x y : Addr) (le : Int32) : Prop := (z = e ∧ le = (3 : Int32)) ∨ (le = (1 : Int32) ∧ (z = x ∨ z = y))
def own_TT (le : Int32) (z : Addr) (u0 u1 ev ew ra rb db : Value) (na nb : Addr) : Prop := (le = (1 : Int32) ∧ u0 = .ref na ∧ u1 = .ref nb ∧ ev = .ref z ∧ ew = .ref z ∧ ra = .null ∧ rb = .null ∧ db = .ref na) ∨ u0 = .null
theorem own_HT {z e x y : Addr} {le : Int32} (h : own_H z e x y le) : own_T le z e := h.elim (fun q => Or.inr ⟨q.2, q.1.symm⟩) fun q => Or.inl q.1
theorem own_HD {z e x y na nb : Addr} {le : Int32} {u0 u1 ev ew ra rb db : Value} (t : own_TT le z u0 u1 ev ew ra rb db na nb) (h : own_H z e x y le) : own_DD u0 u1 ev ew ra rb db na nb x y := by
  rcases t with ⟨t0, t1, t2, t3, t4, t5, t6, t7⟩ | t
  · rcases h with ⟨-, q⟩ | ⟨-, rfl | rfl⟩
    · rw [t0] at q; exact absurd q (by decide)
    · exact Or.inr (Or.inr ⟨t1, t2, t3, t4, t5, t6, t7⟩)
    · exact Or.inr (Or.inl ⟨t1, t3⟩)
  · exact Or.inl t
theorem own_gb0 {f1 f2 : Int32} {q1 q2 : Int64} (h : ¬ f1 = (0 : Int32)) : own_gb f1 q1 f2 q2 = (0 : Int32) := if_neg fun q => h q.1
theorem own_gb1 {f1 f2 : Int32} {q1 q2 : Int64} (h : f1 = (0 : Int32)) (g : ¬ own_ord f1 q1 < own_ord f2 q2) : ¬ own_gb f1 q1 f2 q2 = (0 : Int32) := by rw [own_gb, if_pos ⟨h, g⟩]; decide
theorem own_gb2 {f1 f2 : Int32} {q1 q2 : Int64} (h : own_ord f1 q1 < own_ord f2 q2) : own_gb f1 q1 f2 q2 = (0 : Int32) := if_neg fun q => q.2 h
def own_max (a b : Int64) : Int64 := if a < b then b else a
theorem own_maxmin (a : Int64) : own_max a (-9223372036854775808 : Int64) = a := by
  unfold own_max; apply if_neg; rw [Int64.lt_iff_toInt_lt]; have := a.le_toInt; have e : (-9223372036854775808 : Int64).toInt = -9223372036854775808 := by decide
  rw [e]; omega
theorem own_nar {v : Value} {C : String} (h : v.isRef = true) : narrow (.object C) v = v := by cases v <;> first | rfl | (simp [Value.isRef] at h)
theorem own_fit {v : Value} {C : String} (h : v.isRef = true) : fits (.object C) v = true := by cases v <;> first | rfl | (simp [Value.isRef] at h)
theorem own_x0 : own_lanes (-7046029254386353131 : Int64) = (3 : Int32) := by decide +kernel
theorem own_x1 : own_lanes (own_next (-7046029254386353131 : Int64)) = (1 : Int32) := by decide +kernel
theorem own_x2 : own_lanes (own_next (own_next (-7046029254386353131 : Int64))) = (1 : Int32) := by decide +kernel
theorem own_x3 : own_lanes (own_next (own_next (own_next (-7046029254386353131 : Int64)))) = (1 : Int32) := by decide +kernel

theorem pd9 : parseMethodDescriptor "()I" = some ⟨[], some .int⟩ := by decide +kernel
theorem pd13 : parseMethodDescriptor "()J" = some ⟨[], some .long⟩ := by decide +kernel
theorem pd17 : parseMethodDescriptor "()Lcom/example/carillon/carillon/Message;" = some ⟨[], some (.object "com/example/carillon/carillon/Message")⟩ := by decide +kernel
theorem pd2 : parseMethodDescriptor "()V" = some ⟨[], none⟩ := by decide +kernel
theorem pd3 : parseMethodDescriptor "()Z" = some ⟨[], some .boolean⟩ := by decide +kernel
theorem pd5 : parseMethodDescriptor "(I)I" = some ⟨[.int], some .int⟩ := by decide +kernel
theorem pd8 : parseMethodDescriptor "(ILcom/example/carillon/carillon/Chain$Node;Lcom/example/carillon/carillon/Chain$Node;)V" = some ⟨[.int, (.object "com/example/carillon/carillon/Chain$Node"), (.object "com/example/carillon/carillon/Chain$Node")], none⟩ := by decide +kernel
theorem pd6 : parseMethodDescriptor "(J)I" = some ⟨[.long], some .int⟩ := by decide +kernel
theorem pd14 : parseMethodDescriptor "(JJ)J" = some ⟨[.long, .long], some .long⟩ := by decide +kernel
theorem pd0 : parseMethodDescriptor "(Lcom/example/carillon/carillon/Message;)J" = some ⟨[(.object "com/example/carillon/carillon/Message")], some .long⟩ := by decide +kernel
theorem pd7 : parseMethodDescriptor "(Lcom/example/carillon/carillon/Message;)Lcom/example/carillon/carillon/Chain$Node;" = some ⟨[(.object "com/example/carillon/carillon/Message")], some (.object "com/example/carillon/carillon/Chain$Node")⟩ := by decide +kernel
theorem pd12 : parseMethodDescriptor "(Lcom/example/carillon/carillon/Message;)V" = some ⟨[(.object "com/example/carillon/carillon/Message")], none⟩ := by decide +kernel
theorem pd4 : parseMethodDescriptor "(Lcom/example/carillon/carillon/Message;)Z" = some ⟨[(.object "com/example/carillon/carillon/Message")], some .boolean⟩ := by decide +kernel
theorem pd10 : parseMethodDescriptor "(Lcom/example/carillon/carillon/Message;I[Lcom/example/carillon/carillon/Chain$Node;)V" = some ⟨[(.object "com/example/carillon/carillon/Message"), .int, (.array (.object "com/example/carillon/carillon/Chain$Node"))], none⟩ := by decide +kernel
theorem pd16 : parseMethodDescriptor "(Lcom/example/carillon/carillon/Message;JZ)V" = some ⟨[(.object "com/example/carillon/carillon/Message"), .long, .boolean], none⟩ := by decide +kernel
theorem pd18 : parseMethodDescriptor "(Lcom/example/carillon/carillon/Message;Lcom/example/carillon/carillon/Message;)Lcom/example/carillon/carillon/Message;" = some ⟨[(.object "com/example/carillon/carillon/Message"), (.object "com/example/carillon/carillon/Message")], some (.object "com/example/carillon/carillon/Message")⟩ := by decide +kernel
theorem pd15 : parseMethodDescriptor "(Lcom/example/carillon/carillon/Message;Lcom/example/carillon/carillon/Message;)V" = some ⟨[(.object "com/example/carillon/carillon/Message"), (.object "com/example/carillon/carillon/Message")], none⟩ := by decide +kernel
theorem pd11 : parseMethodDescriptor "(Lcom/example/carillon/carillon/Message;Lcom/example/carillon/carillon/Message;)Z" = some ⟨[(.object "com/example/carillon/carillon/Message"), (.object "com/example/carillon/carillon/Message")], some .boolean⟩ := by decide +kernel
theorem pd1 : parseMethodDescriptor "([Ljava/lang/Object;Ljava/lang/Object;)V" = some ⟨[(.array (.object "java/lang/Object")), (.object "java/lang/Object")], none⟩ := by decide +kernel
theorem oW {Z : State} {a0 : Array Value} {d : Jvm.Cond} (hw : ∀ d ∈ tables_1, d.before a0 Z = true) (i : Nat) (h : tables_1[i]? = some d) : d.before a0 Z = true := hw _ (List.mem_of_getElem? h)
theorem oT {Z s : State} {a0 args : Array Value} {d : Jvm.Cond} (hZ : Z.Warmed39 s.vm) (hw : ∀ d ∈ tables_1, d.before a0 Z = true) (i : Nat) (h : tables_1[i]? = some d) (hd : (d.onTables && d.keepsFace) = true := by first | rfl | simp [Cond.onTables, Cond.keepsFace, Cond.keeps, Cond.steady]) : d.before args s = true := mvT hZ (oW hw i h) hd
theorem oP {Z s : State} {a0 : Array Value} {y : MethodName} (hZ : Z.Warmed39 s.vm) (hw : ∀ d ∈ tables_1, d.before a0 Z = true) (i : Nat) (h : tables_1[i]? = some (Jvm.Cond.privateMethod y)) : s.PrivateAt y := Cond.privateMethod_at (mvP hZ (oW hw i h) (args := #[]))
theorem oI {x a : Addr} {l : List Addr} (i : Nat) (h : l[i]? = some a) (q : x = a) : x ∈ l := q ▸ List.mem_of_getElem? h
theorem oM1 {x a : Addr} {l : List Addr} (q : x ∈ [a]) (i : Nat) (h : l[i]? = some a) : x ∈ l := oI i h (List.mem_singleton.mp q)
theorem oM {x a : Addr} {l k : List Addr} (q : x ∈ a :: k) (i : Nat) (h : l[i]? = some a) (r : x ∈ k → x ∈ l) : x ∈ l := (List.mem_cons.mp q).elim (oI i h) r
abbrev rO (a b c d : Nat) : Room := { frames := a, cells := b, slots := c, locals := d }
abbrev zr (a : Addr) : Slot := .val (.ref a)
abbrev zi (a : Int32) : Slot := .val (.int a)
abbrev zn : Slot := .val .null
abbrev zu : Slot := .unset
abbrev zs : Slot := .second
abbrev hwT (Z : State) (a0 : Array Value) : Prop := ∀ d ∈ tables_1, d.before a0 Z = true
theorem oV {Z : State} {a0 : Array Value} (hw : hwT Z a0) (i : Nat) {o R n d : String} {k : Nat} (h : tables_1[i]? = some (Jvm.Cond.fieldLink o k R n d)) : (Jvm.Cond.fieldLink o k R n d).before a0 Z = true ∨ (Jvm.Cond.fieldLinkNest o k R n d "").before a0 Z = true := Or.inl (oW hw i h)
theorem oK {x : Addr} {l : List Addr} {P : Prop} (i : Nat) (h : l[i]? = some x) : x ∈ l ∨ P := Or.inl (List.mem_of_getElem? h)
abbrev oSt (p : Program) (e : Env) (below : List Frame) (T : State) (m : MethodId) (pc : Nat) (L : Array Slot) (S : List Value) (t : State) : Prop := Steps p.tables e below (T.setTop (mkF m pc L S)) t
theorem oQ {a b : Nat} (h : 2 * 0 + a = b) : 2 * 0 + a ≤ b := Nat.le_of_eq h
abbrev oMF (l : Launch) (Z : State) (y : MethodName) (cw : Jvm.Cond) (ws : List Jvm.Cond) (R : Room) (A : Array Value) (h0 : Heap) (Q : Option Value → Heap → List Loc → Prop) : Prop := MetFree l y (head1 (cw :: ws) R) (fun a U => a = A ∧ Z.Warmed39 U.vm ∧ U.heap = h0) (fun _ _ _ _ _ => True) (fun _ U o U' => ∃ v L, o = .returned v ∧ Q v U'.heap L ∧ FrameEnd U o U' L R.cells R.slots)
theorem oN {x : Addr} : ¬ x ∈ ([] : List Addr) := List.not_mem_nil
theorem oN1 {x a : Addr} {l : List Addr} (h : x ≠ a) (r : ¬ x ∈ l) : ¬ x ∈ a :: l := fun q => (List.mem_cons.mp q).elim h r
abbrev cd0 : ByteArray := prog_15_method_1_code
abbrev cd1 : ByteArray := method_3_code
abbrev cd2 : ByteArray := prog_2_method_4_code
abbrev cd3 : ByteArray := method_2_code
abbrev cd4 : ByteArray := prog_2_method_5_code
abbrev cd5 : ByteArray := prog_1_method_1_code
abbrev cd6 : ByteArray := prog_1_method_2_code
abbrev cd7 : ByteArray := prog_1_method_5_code
abbrev cd8 : ByteArray := jdk_65_method_117_code
abbrev cd9 : ByteArray := prog_2_method_16_code
abbrev cd10 : ByteArray := prog_2_method_8_code
abbrev cd11 : ByteArray := prog_2_method_9_code
abbrev cd12 : ByteArray := jdk_33_method_47_code
abbrev cd13 : ByteArray := jdk_35_method_48_code
abbrev cd14 : ByteArray := prog_2_method_25_code
abbrev cd15 : ByteArray := prog_3_method_1_code
abbrev cd16 : ByteArray := prog_2_method_24_code
abbrev cd17 : ByteArray := prog_2_method_22_code
abbrev cd18 : ByteArray := prog_2_method_15_code
abbrev cd19 : ByteArray := prog_2_method_13_code
abbrev cd20 : ByteArray := prog_2_method_14_code
abbrev cd21 : ByteArray := prog_2_method_12_code
abbrev cd22 : ByteArray := prog_2_method_11_code
abbrev cd23 : ByteArray := prog_2_method_10_code
abbrev cd24 : ByteArray := prog_2_method_1_code
abbrev cd25 : ByteArray := prog_2_method_2_code
abbrev cd26 : ByteArray := jdk_29_method_66_code
abbrev cd27 : ByteArray := prog_2_method_3_code
abbrev cd28 : ByteArray := prog_2_method_23_code
abbrev cd29 : ByteArray := prog_2_method_18_code
abbrev cd30 : ByteArray := prog_2_method_19_code
abbrev cd31 : ByteArray := prog_2_method_17_code
theorem pf_0 : parseFieldDescriptor "J" = some .long := by decide
theorem pf_1 : parseFieldDescriptor "Z" = some .boolean := by decide
theorem pf_2 : parseFieldDescriptor "Lcom/example/carillon/carillon/Message;" = some (.object "com/example/carillon/carillon/Message") := by decide
theorem pf_3 : parseFieldDescriptor "B" = some .byte := by decide
theorem pf_4 : parseFieldDescriptor "[J" = some (.array .long) := by decide
theorem pf_5 : parseFieldDescriptor "[Lcom/example/carillon/carillon/Message;" = some (.array (.object "com/example/carillon/carillon/Message")) := by decide
theorem pf_6 : parseFieldDescriptor "I" = some .int := by decide
theorem pf_7 : parseFieldDescriptor "[Lcom/example/carillon/carillon/Chain$Node;" = some (.array (.object "com/example/carillon/carillon/Chain$Node")) := by decide
theorem pf_8 : parseFieldDescriptor "Lcom/example/carillon/carillon/Backlog;" = some (.object "com/example/carillon/carillon/Backlog") := by decide
theorem pf_9 : parseFieldDescriptor "Lcom/example/carillon/carillon/Chain$Node;" = some (.object "com/example/carillon/carillon/Chain$Node") := by decide
theorem psl_0 {Z s : State} {a0 args : Array Value} (hZ : Z.Warmed39 s.vm) (hw : hwT Z a0) : (Jvm.Cond.selects ((⟨"com/example/carillon/carillon/Chain", "clearFinger", "()V"⟩ : MethodName)).cls (⟨"com/example/carillon/carillon/Chain", "clearFinger", "()V"⟩ : MethodName) (⟨"com/example/carillon/carillon/Chain", "clearFinger", "()V"⟩ : MethodName)).before args s = true := (own_psel (y' := (⟨"com/example/carillon/carillon/Chain", "insert", "(Lcom/example/carillon/carillon/Message;)V"⟩ : MethodName)) (oT hZ hw 57 rfl) rfl (oP hZ hw 71 rfl) (oT hZ hw 70 rfl) (by decide))
theorem psl_1 {Z s : State} {a0 args : Array Value} (hZ : Z.Warmed39 s.vm) (hw : hwT Z a0) : (Jvm.Cond.selects ((⟨"com/example/carillon/carillon/Chain", "newNode", "(Lcom/example/carillon/carillon/Message;)Lcom/example/carillon/carillon/Chain$Node;"⟩ : MethodName)).cls (⟨"com/example/carillon/carillon/Chain", "newNode", "(Lcom/example/carillon/carillon/Message;)Lcom/example/carillon/carillon/Chain$Node;"⟩ : MethodName) (⟨"com/example/carillon/carillon/Chain", "newNode", "(Lcom/example/carillon/carillon/Message;)Lcom/example/carillon/carillon/Chain$Node;"⟩ : MethodName)).before args s = true := (own_psel (y' := (⟨"com/example/carillon/carillon/Chain", "insert", "(Lcom/example/carillon/carillon/Message;)V"⟩ : MethodName)) (oT hZ hw 57 rfl) rfl (oP hZ hw 127 rfl) (oT hZ hw 126 rfl) (by decide))
theorem psl_2 {Z s : State} {a0 args : Array Value} (hZ : Z.Warmed39 s.vm) (hw : hwT Z a0) : (Jvm.Cond.selects ((⟨"com/example/carillon/carillon/Chain", "linkAfter", "(ILcom/example/carillon/carillon/Chain$Node;Lcom/example/carillon/carillon/Chain$Node;)V"⟩ : MethodName)).cls (⟨"com/example/carillon/carillon/Chain", "linkAfter", "(ILcom/example/carillon/carillon/Chain$Node;Lcom/example/carillon/carillon/Chain$Node;)V"⟩ : MethodName) (⟨"com/example/carillon/carillon/Chain", "linkAfter", "(ILcom/example/carillon/carillon/Chain$Node;Lcom/example/carillon/carillon/Chain$Node;)V"⟩ : MethodName)).before args s = true := (own_psel (y' := (⟨"com/example/carillon/carillon/Chain", "insert", "(Lcom/example/carillon/carillon/Message;)V"⟩ : MethodName)) (oT hZ hw 57 rfl) rfl (oP hZ hw 145 rfl) (oT hZ hw 144 rfl) (by decide))
theorem psl_3 {Z s : State} {a0 args : Array Value} (hZ : Z.Warmed39 s.vm) (hw : hwT Z a0) : (Jvm.Cond.selects ((⟨"com/example/carillon/carillon/Chain", "drawLanes", "()I"⟩ : MethodName)).cls (⟨"com/example/carillon/carillon/Chain", "drawLanes", "()I"⟩ : MethodName) (⟨"com/example/carillon/carillon/Chain", "drawLanes", "()I"⟩ : MethodName)).before args s = true := (own_psel (y' := (⟨"com/example/carillon/carillon/Chain", "insert", "(Lcom/example/carillon/carillon/Message;)V"⟩ : MethodName)) (oT hZ hw 57 rfl) rfl (oP hZ hw 102 rfl) (oT hZ hw 101 rfl) (by decide))
theorem psl_4 {Z s : State} {a0 args : Array Value} (hZ : Z.Warmed39 s.vm) (hw : hwT Z a0) : (Jvm.Cond.selects ((⟨"com/example/carillon/carillon/Chain", "linkNodes", "(Lcom/example/carillon/carillon/Message;I[Lcom/example/carillon/carillon/Chain$Node;)V"⟩ : MethodName)).cls (⟨"com/example/carillon/carillon/Chain", "linkNodes", "(Lcom/example/carillon/carillon/Message;I[Lcom/example/carillon/carillon/Chain$Node;)V"⟩ : MethodName) (⟨"com/example/carillon/carillon/Chain", "linkNodes", "(Lcom/example/carillon/carillon/Message;I[Lcom/example/carillon/carillon/Chain$Node;)V"⟩ : MethodName)).before args s = true := (own_psel (y' := (⟨"com/example/carillon/carillon/Chain", "insert", "(Lcom/example/carillon/carillon/Message;)V"⟩ : MethodName)) (oT hZ hw 57 rfl) rfl (oP hZ hw 123 rfl) (oT hZ hw 122 rfl) (by decide))
theorem psl_5 {Z s : State} {a0 args : Array Value} (hZ : Z.Warmed39 s.vm) (hw : hwT Z a0) : (Jvm.Cond.selects ((⟨"com/example/carillon/carillon/Chain", "append", "(Lcom/example/carillon/carillon/Message;)V"⟩ : MethodName)).cls (⟨"com/example/carillon/carillon/Chain", "append", "(Lcom/example/carillon/carillon/Message;)V"⟩ : MethodName) (⟨"com/example/carillon/carillon/Chain", "append", "(Lcom/example/carillon/carillon/Message;)V"⟩ : MethodName)).before args s = true := (own_psel (y' := (⟨"com/example/carillon/carillon/Chain", "insert", "(Lcom/example/carillon/carillon/Message;)V"⟩ : MethodName)) (oT hZ hw 57 rfl) rfl (oP hZ hw 98 rfl) (oT hZ hw 97 rfl) (by decide))
theorem psl_6 {Z s : State} {a0 args : Array Value} (hZ : Z.Warmed39 s.vm) (hw : hwT Z a0) : (Jvm.Cond.selects ((⟨"com/example/carillon/carillon/Chain", "linkBySearch", "(Lcom/example/carillon/carillon/Message;)V"⟩ : MethodName)).cls (⟨"com/example/carillon/carillon/Chain", "linkBySearch", "(Lcom/example/carillon/carillon/Message;)V"⟩ : MethodName) (⟨"com/example/carillon/carillon/Chain", "linkBySearch", "(Lcom/example/carillon/carillon/Message;)V"⟩ : MethodName)).before args s = true := (own_psel (y' := (⟨"com/example/carillon/carillon/Chain", "insert", "(Lcom/example/carillon/carillon/Message;)V"⟩ : MethodName)) (oT hZ hw 57 rfl) rfl (oP hZ hw 154 rfl) (oT hZ hw 153 rfl) (by decide))
theorem psl_7 {Z s : State} {a0 args : Array Value} (hZ : Z.Warmed39 s.vm) (hw : hwT Z a0) : (Jvm.Cond.selects ((⟨"com/example/carillon/carillon/Chain", "insertBehindFinger", "(Lcom/example/carillon/carillon/Message;)V"⟩ : MethodName)).cls (⟨"com/example/carillon/carillon/Chain", "insertBehindFinger", "(Lcom/example/carillon/carillon/Message;)V"⟩ : MethodName) (⟨"com/example/carillon/carillon/Chain", "insertBehindFinger", "(Lcom/example/carillon/carillon/Message;)V"⟩ : MethodName)).before args s = true := (own_psel (y' := (⟨"com/example/carillon/carillon/Chain", "insert", "(Lcom/example/carillon/carillon/Message;)V"⟩ : MethodName)) (oT hZ hw 57 rfl) rfl (oP hZ hw 92 rfl) (oT hZ hw 91 rfl) (by decide))
theorem psl_8 {Z s : State} {a0 args : Array Value} (hZ : Z.Warmed39 s.vm) (hw : hwT Z a0) : (Jvm.Cond.selects ((⟨"com/example/carillon/carillon/Chain", "link", "(Lcom/example/carillon/carillon/Message;)V"⟩ : MethodName)).cls (⟨"com/example/carillon/carillon/Chain", "link", "(Lcom/example/carillon/carillon/Message;)V"⟩ : MethodName) (⟨"com/example/carillon/carillon/Chain", "link", "(Lcom/example/carillon/carillon/Message;)V"⟩ : MethodName)).before args s = true := (own_psel (y' := (⟨"com/example/carillon/carillon/Chain", "insert", "(Lcom/example/carillon/carillon/Message;)V"⟩ : MethodName)) (oT hZ hw 57 rfl) rfl (oP hZ hw 88 rfl) (oT hZ hw 87 rfl) (by decide))
theorem psl_9 {Z s : State} {a0 args : Array Value} (hZ : Z.Warmed39 s.vm) (hw : hwT Z a0) : (Jvm.Cond.selects ((⟨"com/example/carillon/carillon/Chain", "unlinkNode", "(ILcom/example/carillon/carillon/Chain$Node;Lcom/example/carillon/carillon/Chain$Node;)V"⟩ : MethodName)).cls (⟨"com/example/carillon/carillon/Chain", "unlinkNode", "(ILcom/example/carillon/carillon/Chain$Node;Lcom/example/carillon/carillon/Chain$Node;)V"⟩ : MethodName) (⟨"com/example/carillon/carillon/Chain", "unlinkNode", "(ILcom/example/carillon/carillon/Chain$Node;Lcom/example/carillon/carillon/Chain$Node;)V"⟩ : MethodName)).before args s = true := (own_psel (y' := (⟨"com/example/carillon/carillon/Chain", "insert", "(Lcom/example/carillon/carillon/Message;)V"⟩ : MethodName)) (oT hZ hw 57 rfl) rfl (oP hZ hw 201 rfl) (oT hZ hw 200 rfl) (by decide))
theorem psl_10 {Z s : State} {a0 args : Array Value} (hZ : Z.Warmed39 s.vm) (hw : hwT Z a0) : (Jvm.Cond.selects ((⟨"com/example/carillon/carillon/Chain", "unlinkFromLaneZero", "(Lcom/example/carillon/carillon/Message;Lcom/example/carillon/carillon/Message;)V"⟩ : MethodName)).cls (⟨"com/example/carillon/carillon/Chain", "unlinkFromLaneZero", "(Lcom/example/carillon/carillon/Message;Lcom/example/carillon/carillon/Message;)V"⟩ : MethodName) (⟨"com/example/carillon/carillon/Chain", "unlinkFromLaneZero", "(Lcom/example/carillon/carillon/Message;Lcom/example/carillon/carillon/Message;)V"⟩ : MethodName)).before args s = true := (own_psel (y' := (⟨"com/example/carillon/carillon/Chain", "insert", "(Lcom/example/carillon/carillon/Message;)V"⟩ : MethodName)) (oT hZ hw 57 rfl) rfl (oP hZ hw 175 rfl) (oT hZ hw 174 rfl) (by decide))
theorem psl_11 {Z s : State} {a0 args : Array Value} (hZ : Z.Warmed39 s.vm) (hw : hwT Z a0) : (Jvm.Cond.selects ((⟨"com/example/carillon/carillon/Chain", "unlinkNodesBySearch", "(Lcom/example/carillon/carillon/Message;)V"⟩ : MethodName)).cls (⟨"com/example/carillon/carillon/Chain", "unlinkNodesBySearch", "(Lcom/example/carillon/carillon/Message;)V"⟩ : MethodName) (⟨"com/example/carillon/carillon/Chain", "unlinkNodesBySearch", "(Lcom/example/carillon/carillon/Message;)V"⟩ : MethodName)).before args s = true := (own_psel (y' := (⟨"com/example/carillon/carillon/Chain", "insert", "(Lcom/example/carillon/carillon/Message;)V"⟩ : MethodName)) (oT hZ hw 57 rfl) rfl (oP hZ hw 197 rfl) (oT hZ hw 196 rfl) (by decide))
def sn_0 {Z : State} {a0 : Array Value} (hw : hwT Z a0) := Jvm.RoadKit.slot_ne (Or.inl (oW hw 16 rfl)) (Or.inl (oW hw 14 rfl)) (by decide) pf_0 pf_1
def sn_1 {Z : State} {a0 : Array Value} (hw : hwT Z a0) := Jvm.RoadKit.slot_ne (Or.inl (oW hw 118 rfl)) (Or.inl (oW hw 14 rfl)) (by decide) pf_2 pf_1
def sn_2 {Z : State} {a0 : Array Value} (hw : hwT Z a0) := Jvm.RoadKit.slot_ne (Or.inl (oW hw 118 rfl)) (Or.inl (oW hw 16 rfl)) (by decide) pf_2 pf_0
def sn_3 {Z : State} {a0 : Array Value} (hw : hwT Z a0) := Jvm.RoadKit.slot_ne (Or.inl (oW hw 14 rfl)) (Or.inl (oW hw 16 rfl)) (by decide) pf_1 pf_0
def sn_4 {Z : State} {a0 : Array Value} (hw : hwT Z a0) := Jvm.RoadKit.slot_ne (Or.inl (oW hw 116 rfl)) (Or.inl (oW hw 14 rfl)) (by decide) pf_3 pf_1
def sn_5 {Z : State} {a0 : Array Value} (hw : hwT Z a0) := Jvm.RoadKit.slot_ne (Or.inl (oW hw 116 rfl)) (Or.inl (oW hw 16 rfl)) (by decide) pf_3 pf_0
def sn_6 {Z : State} {a0 : Array Value} (hw : hwT Z a0) := Jvm.RoadKit.slot_ne (Or.inl (oW hw 43 rfl)) (Or.inl (oW hw 40 rfl)) (by decide) pf_4 pf_5
def sn_7 {Z : State} {a0 : Array Value} (hw : hwT Z a0) := Jvm.RoadKit.slot_ne (Or.inl (oW hw 46 rfl)) (Or.inl (oW hw 40 rfl)) (by decide) pf_0 pf_5
def sn_8 {Z : State} {a0 : Array Value} (hw : hwT Z a0) := Jvm.RoadKit.slot_ne (Or.inl (oW hw 46 rfl)) (Or.inl (oW hw 43 rfl)) (by decide) pf_0 pf_4
def sn_9 {Z : State} {a0 : Array Value} (hw : hwT Z a0) := Jvm.RoadKit.slot_ne (Or.inl (oW hw 85 rfl)) (Or.inl (oW hw 40 rfl)) (by decide) pf_6 pf_5
def sn_10 {Z : State} {a0 : Array Value} (hw : hwT Z a0) := Jvm.RoadKit.slot_ne (Or.inl (oW hw 85 rfl)) (Or.inl (oW hw 43 rfl)) (by decide) pf_6 pf_4
def sn_11 {Z : State} {a0 : Array Value} (hw : hwT Z a0) := Jvm.RoadKit.slot_ne (Or.inl (oW hw 85 rfl)) (Or.inl (oW hw 46 rfl)) (by decide) pf_6 pf_0
def sn_12 {Z : State} {a0 : Array Value} (hw : hwT Z a0) := Jvm.RoadKit.slot_ne (Or.inr (oW hw 53 rfl)) (Or.inl (oW hw 74 rfl)) (by decide) pf_7 pf_2
def sn_13 {Z : State} {a0 : Array Value} (hw : hwT Z a0) := Jvm.RoadKit.slot_ne (Or.inl (oW hw 120 rfl)) (Or.inl (oW hw 74 rfl)) (by decide) pf_2 pf_2
def sn_14 {Z : State} {a0 : Array Value} (hw : hwT Z a0) := Jvm.RoadKit.slot_ne (Or.inl (oW hw 95 rfl)) (Or.inl (oW hw 74 rfl)) (by decide) pf_2 pf_2
def sn_15 {Z : State} {a0 : Array Value} (hw : hwT Z a0) := Jvm.RoadKit.slot_ne (Or.inr (oW hw 27 rfl)) (Or.inl (oW hw 74 rfl)) (by decide) pf_7 pf_2
def sn_16 {Z : State} {a0 : Array Value} (hw : hwT Z a0) := Jvm.RoadKit.slot_ne (Or.inr (oW hw 29 rfl)) (Or.inl (oW hw 74 rfl)) (by decide) pf_7 pf_2
def sn_17 {Z : State} {a0 : Array Value} (hw : hwT Z a0) := Jvm.RoadKit.slot_ne (Or.inr (oW hw 48 rfl)) (Or.inl (oW hw 74 rfl)) (by decide) pf_8 pf_2
def sn_18 {Z : State} {a0 : Array Value} (hw : hwT Z a0) := Jvm.RoadKit.slot_ne (Or.inl (oW hw 130 rfl)) (Or.inl (oW hw 74 rfl)) (by decide) pf_9 pf_2
def sn_19 {Z : State} {a0 : Array Value} (hw : hwT Z a0) := Jvm.RoadKit.slot_ne (Or.inl (oW hw 204 rfl)) (Or.inl (oW hw 74 rfl)) (by decide) pf_6 pf_2
def sn_20 {Z : State} {a0 : Array Value} (hw : hwT Z a0) := Jvm.RoadKit.slot_ne (Or.inl (oW hw 51 rfl)) (Or.inl (oW hw 74 rfl)) (by decide) pf_0 pf_2
def sn_21 {Z : State} {a0 : Array Value} (hw : hwT Z a0) := Jvm.RoadKit.slot_ne (Or.inl (oW hw 120 rfl)) (Or.inl (oW hw 51 rfl)) (by decide) pf_2 pf_0
def sn_22 {Z : State} {a0 : Array Value} (hw : hwT Z a0) := Jvm.RoadKit.slot_ne (Or.inl (oW hw 95 rfl)) (Or.inl (oW hw 51 rfl)) (by decide) pf_2 pf_0
def sn_23 {Z : State} {a0 : Array Value} (hw : hwT Z a0) := Jvm.RoadKit.slot_ne (Or.inr (oW hw 27 rfl)) (Or.inl (oW hw 51 rfl)) (by decide) pf_7 pf_0
def sn_24 {Z : State} {a0 : Array Value} (hw : hwT Z a0) := Jvm.RoadKit.slot_ne (Or.inr (oW hw 29 rfl)) (Or.inl (oW hw 51 rfl)) (by decide) pf_7 pf_0
def sn_25 {Z : State} {a0 : Array Value} (hw : hwT Z a0) := Jvm.RoadKit.slot_ne (Or.inr (oW hw 48 rfl)) (Or.inl (oW hw 51 rfl)) (by decide) pf_8 pf_0
def sn_26 {Z : State} {a0 : Array Value} (hw : hwT Z a0) := Jvm.RoadKit.slot_ne (Or.inl (oW hw 130 rfl)) (Or.inl (oW hw 51 rfl)) (by decide) pf_9 pf_0
def sn_27 {Z : State} {a0 : Array Value} (hw : hwT Z a0) := Jvm.RoadKit.slot_ne (Or.inl (oW hw 204 rfl)) (Or.inl (oW hw 51 rfl)) (by decide) pf_6 pf_0
def sn_28 {Z : State} {a0 : Array Value} (hw : hwT Z a0) := Jvm.RoadKit.slot_ne (Or.inl (oW hw 74 rfl)) (Or.inl (oW hw 51 rfl)) (by decide) pf_2 pf_0
def sn_29 {Z : State} {a0 : Array Value} (hw : hwT Z a0) := Jvm.RoadKit.slot_ne (Or.inr (oW hw 53 rfl)) (Or.inl (oW hw 51 rfl)) (by decide) pf_7 pf_0
def sn_30 {Z : State} {a0 : Array Value} (hw : hwT Z a0) := Jvm.RoadKit.slot_ne (Or.inl (oW hw 142 rfl)) (Or.inl (oW hw 138 rfl)) (by decide) pf_9 pf_2
def sn_31 {Z : State} {a0 : Array Value} (hw : hwT Z a0) := Jvm.RoadKit.slot_ne (Or.inl (oW hw 140 rfl)) (Or.inl (oW hw 138 rfl)) (by decide) pf_9 pf_2
def sn_32 {Z : State} {a0 : Array Value} (hw : hwT Z a0) := Jvm.RoadKit.slot_ne (Or.inl (oW hw 142 rfl)) (Or.inl (oW hw 140 rfl)) (by decide) pf_9 pf_9
def sn_33 {Z : State} {a0 : Array Value} (hw : hwT Z a0) := Jvm.RoadKit.slot_ne (Or.inl (oW hw 138 rfl)) (Or.inl (oW hw 140 rfl)) (by decide) pf_2 pf_9
def sn_34 {Z : State} {a0 : Array Value} (hw : hwT Z a0) := Jvm.RoadKit.slot_ne (Or.inl (oW hw 138 rfl)) (Or.inl (oW hw 142 rfl)) (by decide) pf_2 pf_9
def sn_35 {Z : State} {a0 : Array Value} (hw : hwT Z a0) := Jvm.RoadKit.slot_ne (Or.inl (oW hw 140 rfl)) (Or.inl (oW hw 142 rfl)) (by decide) pf_9 pf_9
def sn_36 {Z : State} {a0 : Array Value} (hw : hwT Z a0) := Jvm.RoadKit.slot_ne (Or.inl (oW hw 118 rfl)) (Or.inl (oW hw 116 rfl)) (by decide) pf_2 pf_3
def sn_37 {Z : State} {a0 : Array Value} (hw : hwT Z a0) := Jvm.RoadKit.slot_ne (Or.inl (oW hw 95 rfl)) (Or.inl (oW hw 120 rfl)) (by decide) pf_2 pf_2
def sn_38 {Z : State} {a0 : Array Value} (hw : hwT Z a0) := Jvm.RoadKit.slot_ne (Or.inr (oW hw 29 rfl)) (Or.inl (oW hw 120 rfl)) (by decide) pf_7 pf_2
def sn_39 {Z : State} {a0 : Array Value} (hw : hwT Z a0) := Jvm.RoadKit.slot_ne (Or.inr (oW hw 29 rfl)) (Or.inl (oW hw 95 rfl)) (by decide) pf_7 pf_2
def sn_40 {Z : State} {a0 : Array Value} (hw : hwT Z a0) := Jvm.RoadKit.slot_ne (Or.inl (oW hw 130 rfl)) (Or.inl (oW hw 120 rfl)) (by decide) pf_9 pf_2
def sn_41 {Z : State} {a0 : Array Value} (hw : hwT Z a0) := Jvm.RoadKit.slot_ne (Or.inl (oW hw 130 rfl)) (Or.inl (oW hw 95 rfl)) (by decide) pf_9 pf_2
def sn_42 {Z : State} {a0 : Array Value} (hw : hwT Z a0) := Jvm.RoadKit.slot_ne (Or.inr (oW hw 27 rfl)) (Or.inl (oW hw 120 rfl)) (by decide) pf_7 pf_2
def sn_43 {Z : State} {a0 : Array Value} (hw : hwT Z a0) := Jvm.RoadKit.slot_ne (Or.inr (oW hw 27 rfl)) (Or.inl (oW hw 95 rfl)) (by decide) pf_7 pf_2
def sn_44 {Z : State} {a0 : Array Value} (hw : hwT Z a0) := Jvm.RoadKit.slot_ne (Or.inl (oW hw 120 rfl)) (Or.inl (oW hw 95 rfl)) (by decide) pf_2 pf_2
def sn_45 {Z : State} {a0 : Array Value} (hw : hwT Z a0) := Jvm.RoadKit.slot_ne (Or.inr (oW hw 48 rfl)) (Or.inl (oW hw 120 rfl)) (by decide) pf_8 pf_2
def sn_46 {Z : State} {a0 : Array Value} (hw : hwT Z a0) := Jvm.RoadKit.slot_ne (Or.inr (oW hw 48 rfl)) (Or.inl (oW hw 95 rfl)) (by decide) pf_8 pf_2
def sn_47 {Z : State} {a0 : Array Value} (hw : hwT Z a0) := Jvm.RoadKit.slot_ne (Or.inl (oW hw 204 rfl)) (Or.inl (oW hw 120 rfl)) (by decide) pf_6 pf_2
def sn_48 {Z : State} {a0 : Array Value} (hw : hwT Z a0) := Jvm.RoadKit.slot_ne (Or.inl (oW hw 204 rfl)) (Or.inl (oW hw 95 rfl)) (by decide) pf_6 pf_2
def sn_49 {Z : State} {a0 : Array Value} (hw : hwT Z a0) := Jvm.RoadKit.slot_ne (Or.inl (oW hw 51 rfl)) (Or.inl (oW hw 120 rfl)) (by decide) pf_0 pf_2
def sn_50 {Z : State} {a0 : Array Value} (hw : hwT Z a0) := Jvm.RoadKit.slot_ne (Or.inl (oW hw 51 rfl)) (Or.inl (oW hw 95 rfl)) (by decide) pf_0 pf_2
def sn_51 {Z : State} {a0 : Array Value} (hw : hwT Z a0) := Jvm.RoadKit.slot_ne (Or.inl (oW hw 74 rfl)) (Or.inl (oW hw 120 rfl)) (by decide) pf_2 pf_2
def sn_52 {Z : State} {a0 : Array Value} (hw : hwT Z a0) := Jvm.RoadKit.slot_ne (Or.inl (oW hw 74 rfl)) (Or.inl (oW hw 95 rfl)) (by decide) pf_2 pf_2
def sn_53 {Z : State} {a0 : Array Value} (hw : hwT Z a0) := Jvm.RoadKit.slot_ne (Or.inr (oW hw 53 rfl)) (Or.inl (oW hw 120 rfl)) (by decide) pf_7 pf_2
def sn_54 {Z : State} {a0 : Array Value} (hw : hwT Z a0) := Jvm.RoadKit.slot_ne (Or.inr (oW hw 53 rfl)) (Or.inl (oW hw 95 rfl)) (by decide) pf_7 pf_2
def sn_55 {Z : State} {a0 : Array Value} (hw : hwT Z a0) := Jvm.RoadKit.slot_ne (Or.inl (oW hw 16 rfl)) (Or.inl (oW hw 116 rfl)) (by decide) pf_0 pf_3
def sn_56 {Z : State} {a0 : Array Value} (hw : hwT Z a0) := Jvm.RoadKit.slot_ne (Or.inl (oW hw 16 rfl)) (Or.inl (oW hw 118 rfl)) (by decide) pf_0 pf_2
def sn_57 {Z : State} {a0 : Array Value} (hw : hwT Z a0) := Jvm.RoadKit.slot_ne (Or.inl (oW hw 14 rfl)) (Or.inl (oW hw 116 rfl)) (by decide) pf_1 pf_3
def sn_58 {Z : State} {a0 : Array Value} (hw : hwT Z a0) := Jvm.RoadKit.slot_ne (Or.inl (oW hw 14 rfl)) (Or.inl (oW hw 118 rfl)) (by decide) pf_1 pf_2
def sn_59 {Z : State} {a0 : Array Value} (hw : hwT Z a0) := Jvm.RoadKit.slot_ne (Or.inl (oW hw 116 rfl)) (Or.inl (oW hw 118 rfl)) (by decide) pf_3 pf_2
def sn_60 {Z : State} {a0 : Array Value} (hw : hwT Z a0) := Jvm.RoadKit.slot_ne (Or.inr (oW hw 29 rfl)) (Or.inr (oW hw 27 rfl)) (by decide) pf_7 pf_7
def sn_61 {Z : State} {a0 : Array Value} (hw : hwT Z a0) := Jvm.RoadKit.slot_ne (Or.inr (oW hw 48 rfl)) (Or.inr (oW hw 27 rfl)) (by decide) pf_8 pf_7
def sn_62 {Z : State} {a0 : Array Value} (hw : hwT Z a0) := Jvm.RoadKit.slot_ne (Or.inr (oW hw 48 rfl)) (Or.inr (oW hw 29 rfl)) (by decide) pf_8 pf_7
def sn_63 {Z : State} {a0 : Array Value} (hw : hwT Z a0) := Jvm.RoadKit.slot_ne (Or.inl (oW hw 51 rfl)) (Or.inr (oW hw 27 rfl)) (by decide) pf_0 pf_7
def sn_64 {Z : State} {a0 : Array Value} (hw : hwT Z a0) := Jvm.RoadKit.slot_ne (Or.inl (oW hw 51 rfl)) (Or.inr (oW hw 29 rfl)) (by decide) pf_0 pf_7
def sn_65 {Z : State} {a0 : Array Value} (hw : hwT Z a0) := Jvm.RoadKit.slot_ne (Or.inl (oW hw 51 rfl)) (Or.inr (oW hw 48 rfl)) (by decide) pf_0 pf_8
def sn_66 {Z : State} {a0 : Array Value} (hw : hwT Z a0) := Jvm.RoadKit.slot_ne (Or.inr (oW hw 53 rfl)) (Or.inr (oW hw 27 rfl)) (by decide) pf_7 pf_7
def sn_67 {Z : State} {a0 : Array Value} (hw : hwT Z a0) := Jvm.RoadKit.slot_ne (Or.inr (oW hw 53 rfl)) (Or.inr (oW hw 29 rfl)) (by decide) pf_7 pf_7
def sn_68 {Z : State} {a0 : Array Value} (hw : hwT Z a0) := Jvm.RoadKit.slot_ne (Or.inr (oW hw 53 rfl)) (Or.inr (oW hw 48 rfl)) (by decide) pf_7 pf_8
def sn_69 {Z : State} {a0 : Array Value} (hw : hwT Z a0) := Jvm.RoadKit.slot_ne (Or.inl (oW hw 120 rfl)) (Or.inr (oW hw 27 rfl)) (by decide) pf_2 pf_7
def sn_70 {Z : State} {a0 : Array Value} (hw : hwT Z a0) := Jvm.RoadKit.slot_ne (Or.inl (oW hw 120 rfl)) (Or.inr (oW hw 29 rfl)) (by decide) pf_2 pf_7
def sn_71 {Z : State} {a0 : Array Value} (hw : hwT Z a0) := Jvm.RoadKit.slot_ne (Or.inl (oW hw 120 rfl)) (Or.inr (oW hw 48 rfl)) (by decide) pf_2 pf_8
def sn_72 {Z : State} {a0 : Array Value} (hw : hwT Z a0) := Jvm.RoadKit.slot_ne (Or.inl (oW hw 120 rfl)) (Or.inr (oW hw 53 rfl)) (by decide) pf_2 pf_7
def sn_73 {Z : State} {a0 : Array Value} (hw : hwT Z a0) := Jvm.RoadKit.slot_ne (Or.inl (oW hw 95 rfl)) (Or.inr (oW hw 27 rfl)) (by decide) pf_2 pf_7
def sn_74 {Z : State} {a0 : Array Value} (hw : hwT Z a0) := Jvm.RoadKit.slot_ne (Or.inl (oW hw 95 rfl)) (Or.inr (oW hw 29 rfl)) (by decide) pf_2 pf_7
def sn_75 {Z : State} {a0 : Array Value} (hw : hwT Z a0) := Jvm.RoadKit.slot_ne (Or.inl (oW hw 95 rfl)) (Or.inr (oW hw 48 rfl)) (by decide) pf_2 pf_8
def sn_76 {Z : State} {a0 : Array Value} (hw : hwT Z a0) := Jvm.RoadKit.slot_ne (Or.inl (oW hw 95 rfl)) (Or.inr (oW hw 53 rfl)) (by decide) pf_2 pf_7
def sn_77 {Z : State} {a0 : Array Value} (hw : hwT Z a0) := Jvm.RoadKit.slot_ne (Or.inr (oW hw 27 rfl)) (Or.inr (oW hw 29 rfl)) (by decide) pf_7 pf_7
def sn_78 {Z : State} {a0 : Array Value} (hw : hwT Z a0) := Jvm.RoadKit.slot_ne (Or.inr (oW hw 27 rfl)) (Or.inr (oW hw 48 rfl)) (by decide) pf_7 pf_8
def sn_79 {Z : State} {a0 : Array Value} (hw : hwT Z a0) := Jvm.RoadKit.slot_ne (Or.inr (oW hw 27 rfl)) (Or.inr (oW hw 53 rfl)) (by decide) pf_7 pf_7
def sn_80 {Z : State} {a0 : Array Value} (hw : hwT Z a0) := Jvm.RoadKit.slot_ne (Or.inr (oW hw 29 rfl)) (Or.inr (oW hw 48 rfl)) (by decide) pf_7 pf_8
def sn_81 {Z : State} {a0 : Array Value} (hw : hwT Z a0) := Jvm.RoadKit.slot_ne (Or.inr (oW hw 29 rfl)) (Or.inr (oW hw 53 rfl)) (by decide) pf_7 pf_7
def sn_82 {Z : State} {a0 : Array Value} (hw : hwT Z a0) := Jvm.RoadKit.slot_ne (Or.inr (oW hw 48 rfl)) (Or.inr (oW hw 53 rfl)) (by decide) pf_8 pf_7
def sn_83 {Z : State} {a0 : Array Value} (hw : hwT Z a0) := Jvm.RoadKit.slot_ne (Or.inl (oW hw 130 rfl)) (Or.inr (oW hw 27 rfl)) (by decide) pf_9 pf_7
def sn_84 {Z : State} {a0 : Array Value} (hw : hwT Z a0) := Jvm.RoadKit.slot_ne (Or.inl (oW hw 130 rfl)) (Or.inr (oW hw 29 rfl)) (by decide) pf_9 pf_7
def sn_85 {Z : State} {a0 : Array Value} (hw : hwT Z a0) := Jvm.RoadKit.slot_ne (Or.inl (oW hw 130 rfl)) (Or.inr (oW hw 48 rfl)) (by decide) pf_9 pf_8
def sn_86 {Z : State} {a0 : Array Value} (hw : hwT Z a0) := Jvm.RoadKit.slot_ne (Or.inl (oW hw 130 rfl)) (Or.inr (oW hw 53 rfl)) (by decide) pf_9 pf_7
def sn_87 {Z : State} {a0 : Array Value} (hw : hwT Z a0) := Jvm.RoadKit.slot_ne (Or.inl (oW hw 204 rfl)) (Or.inr (oW hw 27 rfl)) (by decide) pf_6 pf_7
def sn_88 {Z : State} {a0 : Array Value} (hw : hwT Z a0) := Jvm.RoadKit.slot_ne (Or.inl (oW hw 204 rfl)) (Or.inr (oW hw 29 rfl)) (by decide) pf_6 pf_7
def sn_89 {Z : State} {a0 : Array Value} (hw : hwT Z a0) := Jvm.RoadKit.slot_ne (Or.inl (oW hw 204 rfl)) (Or.inr (oW hw 48 rfl)) (by decide) pf_6 pf_8
def sn_90 {Z : State} {a0 : Array Value} (hw : hwT Z a0) := Jvm.RoadKit.slot_ne (Or.inl (oW hw 204 rfl)) (Or.inr (oW hw 53 rfl)) (by decide) pf_6 pf_7
def sn_91 {Z : State} {a0 : Array Value} (hw : hwT Z a0) := Jvm.RoadKit.slot_ne (Or.inl (oW hw 51 rfl)) (Or.inr (oW hw 53 rfl)) (by decide) pf_0 pf_7
def sn_92 {Z : State} {a0 : Array Value} (hw : hwT Z a0) := Jvm.RoadKit.slot_ne (Or.inl (oW hw 74 rfl)) (Or.inr (oW hw 27 rfl)) (by decide) pf_2 pf_7
def sn_93 {Z : State} {a0 : Array Value} (hw : hwT Z a0) := Jvm.RoadKit.slot_ne (Or.inl (oW hw 74 rfl)) (Or.inr (oW hw 29 rfl)) (by decide) pf_2 pf_7
def sn_94 {Z : State} {a0 : Array Value} (hw : hwT Z a0) := Jvm.RoadKit.slot_ne (Or.inl (oW hw 74 rfl)) (Or.inr (oW hw 48 rfl)) (by decide) pf_2 pf_8
def sn_95 {Z : State} {a0 : Array Value} (hw : hwT Z a0) := Jvm.RoadKit.slot_ne (Or.inl (oW hw 74 rfl)) (Or.inr (oW hw 53 rfl)) (by decide) pf_2 pf_7
def sn_96 {Z : State} {a0 : Array Value} (hw : hwT Z a0) := Jvm.RoadKit.slot_ne (Or.inl (oW hw 204 rfl)) (Or.inl (oW hw 130 rfl)) (by decide) pf_6 pf_9
def sn_97 {Z : State} {a0 : Array Value} (hw : hwT Z a0) := Jvm.RoadKit.slot_ne (Or.inl (oW hw 120 rfl)) (Or.inl (oW hw 130 rfl)) (by decide) pf_2 pf_9
def sn_98 {Z : State} {a0 : Array Value} (hw : hwT Z a0) := Jvm.RoadKit.slot_ne (Or.inl (oW hw 120 rfl)) (Or.inl (oW hw 204 rfl)) (by decide) pf_2 pf_6
def sn_99 {Z : State} {a0 : Array Value} (hw : hwT Z a0) := Jvm.RoadKit.slot_ne (Or.inl (oW hw 95 rfl)) (Or.inl (oW hw 130 rfl)) (by decide) pf_2 pf_9
def sn_100 {Z : State} {a0 : Array Value} (hw : hwT Z a0) := Jvm.RoadKit.slot_ne (Or.inl (oW hw 95 rfl)) (Or.inl (oW hw 204 rfl)) (by decide) pf_2 pf_6
def sn_101 {Z : State} {a0 : Array Value} (hw : hwT Z a0) := Jvm.RoadKit.slot_ne (Or.inr (oW hw 27 rfl)) (Or.inl (oW hw 130 rfl)) (by decide) pf_7 pf_9
def sn_102 {Z : State} {a0 : Array Value} (hw : hwT Z a0) := Jvm.RoadKit.slot_ne (Or.inr (oW hw 27 rfl)) (Or.inl (oW hw 204 rfl)) (by decide) pf_7 pf_6
def sn_103 {Z : State} {a0 : Array Value} (hw : hwT Z a0) := Jvm.RoadKit.slot_ne (Or.inr (oW hw 29 rfl)) (Or.inl (oW hw 130 rfl)) (by decide) pf_7 pf_9
def sn_104 {Z : State} {a0 : Array Value} (hw : hwT Z a0) := Jvm.RoadKit.slot_ne (Or.inr (oW hw 29 rfl)) (Or.inl (oW hw 204 rfl)) (by decide) pf_7 pf_6
def sn_105 {Z : State} {a0 : Array Value} (hw : hwT Z a0) := Jvm.RoadKit.slot_ne (Or.inr (oW hw 48 rfl)) (Or.inl (oW hw 130 rfl)) (by decide) pf_8 pf_9
def sn_106 {Z : State} {a0 : Array Value} (hw : hwT Z a0) := Jvm.RoadKit.slot_ne (Or.inr (oW hw 48 rfl)) (Or.inl (oW hw 204 rfl)) (by decide) pf_8 pf_6
def sn_107 {Z : State} {a0 : Array Value} (hw : hwT Z a0) := Jvm.RoadKit.slot_ne (Or.inl (oW hw 130 rfl)) (Or.inl (oW hw 204 rfl)) (by decide) pf_9 pf_6
def sn_108 {Z : State} {a0 : Array Value} (hw : hwT Z a0) := Jvm.RoadKit.slot_ne (Or.inl (oW hw 51 rfl)) (Or.inl (oW hw 130 rfl)) (by decide) pf_0 pf_9
def sn_109 {Z : State} {a0 : Array Value} (hw : hwT Z a0) := Jvm.RoadKit.slot_ne (Or.inl (oW hw 51 rfl)) (Or.inl (oW hw 204 rfl)) (by decide) pf_0 pf_6
def sn_110 {Z : State} {a0 : Array Value} (hw : hwT Z a0) := Jvm.RoadKit.slot_ne (Or.inl (oW hw 74 rfl)) (Or.inl (oW hw 130 rfl)) (by decide) pf_2 pf_9
def sn_111 {Z : State} {a0 : Array Value} (hw : hwT Z a0) := Jvm.RoadKit.slot_ne (Or.inl (oW hw 74 rfl)) (Or.inl (oW hw 204 rfl)) (by decide) pf_2 pf_6
def sn_112 {Z : State} {a0 : Array Value} (hw : hwT Z a0) := Jvm.RoadKit.slot_ne (Or.inr (oW hw 53 rfl)) (Or.inl (oW hw 130 rfl)) (by decide) pf_7 pf_9
def sn_113 {Z : State} {a0 : Array Value} (hw : hwT Z a0) := Jvm.RoadKit.slot_ne (Or.inr (oW hw 53 rfl)) (Or.inl (oW hw 204 rfl)) (by decide) pf_7 pf_6
abbrev sg0 : String := "com/example/carillon/carillon/Message"
abbrev sg1 : String := "Lcom/example/carillon/carillon/Message;"
abbrev sg2 : String := "com/example/carillon/carillon/ChainTakePinLaw"
abbrev sg3 : String := "com/example/carillon/carillon/Chain"
abbrev sg4 : String := "com/example/carillon/carillon/Backlog"
abbrev sg5 : String := "com/example/carillon/carillon/Chain$Node"
abbrev sg6 : String := "[Lcom/example/carillon/carillon/Chain$Node;"
abbrev sg7 : String := "Lcom/example/carillon/carillon/Backlog;"
abbrev sg8 : String := "Lcom/example/carillon/carillon/Chain$Node;"
abbrev sg9 : String := "spareNodeCount"
abbrev xF0 (Z : State) (h : Heap) (a : Addr) (v : Value) : Prop := Fld Z h a sg0 "next" sg1 v
abbrev xF1 (Z : State) (h : Heap) (a : Addr) (v : Value) : Prop := Fld Z h a sg0 "when" "J" v
abbrev xF2 (Z : State) (h : Heap) (a : Addr) (v : Value) : Prop := Fld Z h a sg0 "atFront" "Z" v
abbrev xF3 (Z : State) (h : Heap) (a : Addr) (v : Value) : Prop := Fld Z h a sg0 "lanes" "B" v
abbrev xF4 (Z : State) (h : Heap) (a : Addr) (v : Value) : Prop := Fld Z h a sg4 "size" "I" v
abbrev xF5 (Z : State) (h : Heap) (a : Addr) (v : Value) : Prop := Fld Z h a sg4 "highestOrder" "J" v
abbrev xF6 (Z : State) (h : Heap) (a : Addr) (v : Value) : Prop := Fld Z h a sg4 "entries" "[Lcom/example/carillon/carillon/Message;" v
abbrev xF7 (Z : State) (h : Heap) (a : Addr) (v : Value) : Prop := Fld Z h a sg4 "keys" "[J" v
abbrev xF8 (Z : State) (h : Heap) (a : Addr) (v : Value) : Prop := Fld Z h a sg3 "head" sg1 v
abbrev xF9 (Z : State) (h : Heap) (a : Addr) (v : Value) : Prop := Fld Z h a sg3 "tail" sg1 v
abbrev xF10 (Z : State) (h : Heap) (a : Addr) (v : Value) : Prop := Fld Z h a sg3 "firstNodes" sg6 v
abbrev xF11 (Z : State) (h : Heap) (a : Addr) (v : Value) : Prop := Fld Z h a sg3 "lastNodes" sg6 v
abbrev xF12 (Z : State) (h : Heap) (a : Addr) (v : Value) : Prop := Fld Z h a sg3 "backlog" sg7 v
abbrev xF13 (Z : State) (h : Heap) (a : Addr) (v : Value) : Prop := Fld Z h a sg3 "spareNodes" sg8 v
abbrev xF14 (Z : State) (h : Heap) (a : Addr) (v : Value) : Prop := Fld Z h a sg3 sg9 "I" v
abbrev xF15 (Z : State) (h : Heap) (a : Addr) (v : Value) : Prop := Fld Z h a sg3 "laneDraws" "J" v
abbrev xF16 (Z : State) (h : Heap) (a : Addr) (v : Value) : Prop := Fld Z h a sg3 "fingerEntry" sg1 v
abbrev xF17 (Z : State) (h : Heap) (a : Addr) (v : Value) : Prop := Fld Z h a sg3 "fingerNodes" sg6 v
abbrev xF18 (Z : State) (h : Heap) (a : Addr) (v : Value) : Prop := Fld Z h a sg5 "entry" sg1 v
abbrev xF19 (Z : State) (h : Heap) (a : Addr) (v : Value) : Prop := Fld Z h a sg5 "right" sg8 v
abbrev xF20 (Z : State) (h : Heap) (a : Addr) (v : Value) : Prop := Fld Z h a sg5 "down" sg8 v
abbrev aN (Z : State) (h : Heap) (a : Addr) (k : ClassId) (u v : Value) : Prop := Arv Z h a k (.object sg5) (11 : Int32) [u, v, .null, .null, .null, .null, .null, .null, .null, .null, .null] .null
abbrev lw (xa xb xc : Int64) (ki kj : Int32) (l : List Slot) : Array Slot := List.toArray (.val (.long xa) :: .second :: .val (.long xb) :: .second :: .val (.long xc) :: .second :: .val (.int ki) :: .val (.int kj) :: l)
abbrev uu1 : List Slot := [.unset]
abbrev uu2 : List Slot := [.unset, .unset]
abbrev uu3 : List Slot := [.unset, .unset, .unset]
abbrev uu4 : List Slot := [.unset, .unset, .unset, .unset]
abbrev uu5 : List Slot := [.unset, .unset, .unset, .unset, .unset]
abbrev uu6 : List Slot := [.unset, .unset, .unset, .unset, .unset, .unset]
abbrev uu7 : List Slot := [.unset, .unset, .unset, .unset, .unset, .unset, .unset]
abbrev uu8 : List Slot := [.unset, .unset, .unset, .unset, .unset, .unset, .unset, .unset]
abbrev uu9 : List Slot := [.unset, .unset, .unset, .unset, .unset, .unset, .unset, .unset, .unset]
abbrev uu10 : List Slot := [.unset, .unset, .unset, .unset, .unset, .unset, .unset, .unset, .unset, .unset]
abbrev uu11 : List Slot := [.unset, .unset, .unset, .unset, .unset, .unset, .unset, .unset, .unset, .unset, .unset]
abbrev uu12 : List Slot := [.unset, .unset, .unset, .unset, .unset, .unset, .unset, .unset, .unset, .unset, .unset, .unset]
abbrev uu13 : List Slot := [.unset, .unset, .unset, .unset, .unset, .unset, .unset, .unset, .unset, .unset, .unset, .unset, .unset]
abbrev uu14 : List Slot := [.unset, .unset, .unset, .unset, .unset, .unset, .unset, .unset, .unset, .unset, .unset, .unset, .unset, .unset]
abbrev uu15 : List Slot := [.unset, .unset, .unset, .unset, .unset, .unset, .unset, .unset, .unset, .unset, .unset, .unset, .unset, .unset, .unset]
abbrev uu16 : List Slot := [.unset, .unset, .unset, .unset, .unset, .unset, .unset, .unset, .unset, .unset, .unset, .unset, .unset, .unset, .unset, .unset]
abbrev uu17 : List Slot := [.unset, .unset, .unset, .unset, .unset, .unset, .unset, .unset, .unset, .unset, .unset, .unset, .unset, .unset, .unset, .unset, .unset]
abbrev uu18 : List Slot := [.unset, .unset, .unset, .unset, .unset, .unset, .unset, .unset, .unset, .unset, .unset, .unset, .unset, .unset, .unset, .unset, .unset, .unset]
abbrev uu19 : List Slot := [.unset, .unset, .unset, .unset, .unset, .unset, .unset, .unset, .unset, .unset, .unset, .unset, .unset, .unset, .unset, .unset, .unset, .unset, .unset]
abbrev mn0 : MethodName := ⟨"com/example/carillon/carillon/Message", "<init>", "()V"⟩
abbrev mn1 : MethodName := ⟨"com/example/carillon/carillon/ChainTakePinLaw", "fill", "(Lcom/example/carillon/carillon/Message;JZ)V"⟩
abbrev mn2 : MethodName := ⟨"com/example/carillon/carillon/Chain", "orderOf", "(Lcom/example/carillon/carillon/Message;)J"⟩
abbrev mn3 : MethodName := ⟨"com/example/carillon/carillon/ChainTakePinLaw", "ord", "(Lcom/example/carillon/carillon/Message;)J"⟩
abbrev mn4 : MethodName := ⟨"com/example/carillon/carillon/Chain", "goesBehind", "(Lcom/example/carillon/carillon/Message;Lcom/example/carillon/carillon/Message;)Z"⟩
abbrev mn5 : MethodName := ⟨"com/example/carillon/carillon/Backlog", "<init>", "()V"⟩
abbrev mn6 : MethodName := ⟨"com/example/carillon/carillon/Backlog", "isEmpty", "()Z"⟩
abbrev mn7 : MethodName := ⟨"com/example/carillon/carillon/Backlog", "highestOrder", "()J"⟩
abbrev mn8 : MethodName := ⟨"java/util/Arrays", "fill", "([Ljava/lang/Object;Ljava/lang/Object;)V"⟩
abbrev mn9 : MethodName := ⟨"com/example/carillon/carillon/Chain", "clearFinger", "()V"⟩
abbrev mn10 : MethodName := ⟨"com/example/carillon/carillon/Chain", "placeAheadOf", "(Lcom/example/carillon/carillon/Message;)Z"⟩
abbrev mn11 : MethodName := ⟨"com/example/carillon/carillon/Chain", "placeAll", "()V"⟩
abbrev mn12 : MethodName := ⟨"java/lang/Integer", "numberOfLeadingZeros", "(I)I"⟩
abbrev mn13 : MethodName := ⟨"java/lang/Long", "numberOfLeadingZeros", "(J)I"⟩
abbrev mn14 : MethodName := ⟨"com/example/carillon/carillon/Chain", "drawLanes", "()I"⟩
abbrev mn15 : MethodName := ⟨"com/example/carillon/carillon/Chain$Node", "<init>", "()V"⟩
abbrev mn16 : MethodName := ⟨"com/example/carillon/carillon/Chain", "newNode", "(Lcom/example/carillon/carillon/Message;)Lcom/example/carillon/carillon/Chain$Node;"⟩
abbrev mn17 : MethodName := ⟨"com/example/carillon/carillon/Chain", "linkAfter", "(ILcom/example/carillon/carillon/Chain$Node;Lcom/example/carillon/carillon/Chain$Node;)V"⟩
abbrev mn18 : MethodName := ⟨"com/example/carillon/carillon/Chain", "linkNodes", "(Lcom/example/carillon/carillon/Message;I[Lcom/example/carillon/carillon/Chain$Node;)V"⟩
abbrev mn19 : MethodName := ⟨"com/example/carillon/carillon/Chain", "append", "(Lcom/example/carillon/carillon/Message;)V"⟩
abbrev mn20 : MethodName := ⟨"com/example/carillon/carillon/Chain", "linkBySearch", "(Lcom/example/carillon/carillon/Message;)V"⟩
abbrev mn21 : MethodName := ⟨"com/example/carillon/carillon/Chain", "insertBehindFinger", "(Lcom/example/carillon/carillon/Message;)V"⟩
abbrev mn22 : MethodName := ⟨"com/example/carillon/carillon/Chain", "link", "(Lcom/example/carillon/carillon/Message;)V"⟩
abbrev mn23 : MethodName := ⟨"com/example/carillon/carillon/Chain", "insert", "(Lcom/example/carillon/carillon/Message;)V"⟩
abbrev mn24 : MethodName := ⟨"com/example/carillon/carillon/Chain", "<init>", "()V"⟩
abbrev mn25 : MethodName := ⟨"com/example/carillon/carillon/Chain", "first", "()Lcom/example/carillon/carillon/Message;"⟩
abbrev mn26 : MethodName := ⟨"java/lang/Math", "max", "(JJ)J"⟩
abbrev mn27 : MethodName := ⟨"com/example/carillon/carillon/Chain", "lastOrder", "()J"⟩
abbrev mn28 : MethodName := ⟨"com/example/carillon/carillon/Chain", "unlinkNode", "(ILcom/example/carillon/carillon/Chain$Node;Lcom/example/carillon/carillon/Chain$Node;)V"⟩
abbrev mn29 : MethodName := ⟨"com/example/carillon/carillon/Chain", "unlinkNodesBySearch", "(Lcom/example/carillon/carillon/Message;)V"⟩
abbrev mn30 : MethodName := ⟨"com/example/carillon/carillon/Chain", "unlinkFromLaneZero", "(Lcom/example/carillon/carillon/Message;Lcom/example/carillon/carillon/Message;)V"⟩
abbrev mn31 : MethodName := ⟨"com/example/carillon/carillon/Chain", "take", "(Lcom/example/carillon/carillon/Message;Lcom/example/carillon/carillon/Message;)Lcom/example/carillon/carillon/Message;"⟩
-- com/example/carillon/carillon/Message.<init>:()V
theorem d0_0 : decode cd0 0 = .ok (.aload_n 0, 1) := by decide +kernel
theorem d0_1 : decode cd0 1 = .ok (.invokespecial 1, 3) := by decide +kernel
theorem d0_4 : decode cd0 4 = .ok (.return_, 1) := by decide +kernel
theorem pn_mi : plainName "com/example/carillon/carillon/Message" = true := by first | (simp [plainName, overriddenIn]; done) | decide +kernel
theorem ef_mi (m : MethodId) (a1 : Addr) : entryFrame m #[(.ref a1)] 1 = mkF m 0 #[.val (.ref a1)] [] := by first | (simp [entryFrame, mkF, argsToLocals, Value.category]; done) | rfl
def Q_mi (Z : State) (a1 : Addr) (h0 : Heap) (n0 : Nat) (v : Option Value) (h : Heap) (L : List Loc) : Prop := v = none ∧ Fr n0 L ∧ h = h0
set_option maxRecDepth 65536 in
set_option maxHeartbeats 40000000 in
theorem rm_mi (l : Launch) (Z : State) (a0 : Array Value) (hw : hwT Z a0) (ws : List Jvm.Cond) (a1 : Addr) (h0 : Heap) (n0 : Nat) (Z0 : n0 ≤ h0.size) :
  oMF l Z mn0 (Jvm.Cond.code mn0 prog_15_method_1_code 1 none) ws (rO 1 0 0 12) #[(.ref a1)] h0 (Q_mi Z a1 h0 n0) := by
 refine MetFree.of_bodySF (plainFor_of_name pn_mi) hisR ?_
 intro p e s m args below meth c s₁ Bd hml0 hP hK
 obtain ⟨rfl, hZ, hh⟩ := hP
 have hx := Bd.exec
 have hby := Bd.bytes
 have B : ∀ {pc r}, decode cd0 pc = r → decode c.code pc = r := fun h => hb hby h
 have hml : c.maxLocals = 1 := hml0
 have hown : s.vm.findClass sg0 = some m.cls := findClass_of_methodNamed Bd.named
 have hnm := (name_of_methodNamed Bd.named Bd.method).1
 have X0 : Stand p l e (rO 1 0 0 12) s m #[(.ref a1)] below meth c s₁ [] 0 0 := Stand.of_body Bd
 have e0 : s₁.heap = h0 := by rw [← hh, Bd.state]; rfl
 have N0 := Fr.nil n0
 refine own_in ?_
 refine own_go (S' := s₁.setTop (mkF m 0 #[zr a1] [])) (fun tgt_ stp_ => castTop (ef_mi m a1) stp_) ?_
 obtain ⟨T_1, X_1, e_1, st_1⟩ := initO X0 hx hZ hown (oW hw 6 rfl) (oW hw 7 rfl) (oW hw 8 rfl) e0 (g := (mkF m 1 #[zr a1] [(.ref a1)])) rfl (by rw [hml]; rfl) rfl (B d0_1) (by decide) (W := 0) (oQ rfl) (by decide)
 refine own_go (S' := T_1.setTop (mkF m 4 #[zr a1] [])) (fun target kt => ?_) ?_
 ·
  show oSt p e below s₁ m 0 #[zr a1] [] target
  refine XS.aloadN X0.here hx rfl (B d0_0) rfl rfl ?_
  refine st_1 _ ?_
  exact kt
 obtain ⟨fs, hr, hrun, hended, hW, hsame⟩ := X_1.leave (v := none) (fun _ => rfl)
 refine ⟨_, _, X_1.returnOut hx Bd.returns (B d0_4) hr, hrun, hended, _, _, rfl, ?_, ⟨_, rfl⟩, hW, hsame.mono (by decide) (by decide)⟩
 show Q_mi Z a1 h0 n0 _ T_1.heap _
 rw [e_1]
 exact ⟨rfl, N0, rfl⟩
-- com/example/carillon/carillon/ChainTakePinLaw.fill:(Lcom/example/carillon/carillon/Message;JZ)V
theorem d1_0 : decode cd1 0 = .ok (.aload_n 0, 1) := by decide +kernel
theorem d1_1 : decode cd1 1 = .ok (.iload_n 3, 1) := by decide +kernel
theorem d1_2 : decode cd1 2 = .ok (.putfield 7, 3) := by decide +kernel
theorem d1_5 : decode cd1 5 = .ok (.aload_n 0, 1) := by decide +kernel
theorem d1_6 : decode cd1 6 = .ok (.iload_n 3, 1) := by decide +kernel
theorem d1_7 : decode cd1 7 = .ok (.ifCond .eq 7, 3) := by decide +kernel
theorem d1_10 : decode cd1 10 = .ok (.lconst 0, 1) := by decide +kernel
theorem d1_11 : decode cd1 11 = .ok (.goto 4, 3) := by decide +kernel
theorem d1_14 : decode cd1 14 = .ok (.lload_n 1, 1) := by decide +kernel
theorem d1_15 : decode cd1 15 = .ok (.putfield 17, 3) := by decide +kernel
theorem d1_18 : decode cd1 18 = .ok (.return_, 1) := by decide +kernel
theorem pn_fill : plainName "com/example/carillon/carillon/ChainTakePinLaw" = true := by first | (simp [plainName, overriddenIn]; done) | decide +kernel
theorem ef_fill (m : MethodId) (me : Addr) (wq : Int64) (lz : Int32) : entryFrame m #[(.ref me), (.long wq), (.int lz)] 4 = mkF m 0 #[.val (.ref me), .val (.long wq), .second, .val (.int lz)] [] := by first | (simp [entryFrame, mkF, argsToLocals, Value.category]; done) | rfl
def Q_fill (Z : State) (me : Addr) (wq : Int64) (lz : Int32) (h0 : Heap) (n0 : Nat) (v : Option Value) (h : Heap) (L : List Loc) : Prop := ∃ (fz : Int32), ∃ (qz : Int64), v = none ∧ Fr n0 L ∧ Keep h0 h [me] ∧ Exa Z h me sg0 ∧ xF0 Z h me .null ∧ xF1 Z h me (.long qz) ∧ xF2 Z h me (.int fz) ∧ xF3 Z h me (.int (0 : Int32))
set_option maxRecDepth 65536 in
set_option maxHeartbeats 40000000 in
theorem rm_fill (l : Launch) (Z : State) (a0 : Array Value) (hw : hwT Z a0) (ws : List Jvm.Cond) (me : Addr) (wq : Int64) (lz : Int32) (h0 : Heap) (n0 : Nat) (Z0 : n0 ≤ h0.size) (P0_ : Exa Z h0 me sg0) (P1_ : xF0 Z h0 me .null) (P2_ : xF1 Z h0 me (.long (0 : Int64))) (P3_ : xF2 Z h0 me (.int (0 : Int32))) (P4_ : xF3 Z h0 me (.int (0 : Int32))) (g_me : n0 ≤ me) :
  oMF l Z mn1 (Jvm.Cond.code mn1 method_3_code 4 none) ws (rO 0 0 0 0) #[(.ref me), (.long wq), (.int lz)] h0 (Q_fill Z me wq lz h0 n0) := by
 refine MetFree.of_bodySF (plainFor_of_name pn_fill) hisR ?_
 intro p e s m args below meth c s₁ Bd hml0 hP hK
 obtain ⟨rfl, hZ, hh⟩ := hP
 have hx := Bd.exec
 have hby := Bd.bytes
 have B : ∀ {pc r}, decode cd1 pc = r → decode c.code pc = r := fun h => hb hby h
 have hml : c.maxLocals = 4 := hml0
 have hown : s.vm.findClass sg2 = some m.cls := findClass_of_methodNamed Bd.named
 have hnm := (name_of_methodNamed Bd.named Bd.method).1
 have X0 : Stand p l e (rO 0 0 0 0) s m #[(.ref me), (.long wq), (.int lz)] below meth c s₁ [] 0 0 := Stand.of_body Bd
 have e0 : s₁.heap = h0 := by rw [← hh, Bd.state]; rfl
 have N0 := Fr.nil n0
 refine own_in ?_
 refine own_go (S' := s₁.setTop (mkF m 0 #[zr me, .val (.long wq), zs, .val (.int lz)] [])) (fun tgt_ stp_ => castTop (ef_fill m me wq lz) stp_) ?_
 have K0 : Keep h0 h0 [me] := Keep.refl h0 _
 obtain ⟨T_1, h_1, X_1, e_1, W_1, st_1⟩ := putFN X0 hx hZ hown (oW hw 13 rfl) Via.refl e0 P3_ P0_ (Or.inl (oW hw 14 rfl)) (oW hw 1 rfl) (ty := .boolean) (v' := (.int (nar .boolean lz))) (by decide) rfl (fits_nar_bool _) (g := (mkF m 2 #[zr me, .val (.long wq), zs, .val (.int lz)] [(.int lz), (.ref me)])) rfl rfl (B d1_2)
 obtain ⟨Lg_1, XG_1, N_1⟩ := own_gen X_1 (Fr.snoc X_1 N0 g_me)
 have F_1 := P3_.same W_1
 have Z_2 := Nat.le_trans Z0 (Keep.of_wr W_1).1
 have K_3 : Keep h0 h_1 [me] := K0.wr W_1 (oK 0 rfl)
 refine own_go (S' := T_1.setTop (mkF m 7 #[zr me, .val (.long wq), zs, .val (.int lz)] [(.int lz), (.ref me)])) (fun target kt => ?_) ?_
 ·
  show oSt p e below s₁ m 0 #[zr me, .val (.long wq), zs, .val (.int lz)] [] target
  refine XS.aloadN X0.here hx rfl (B d1_0) rfl rfl ?_
  refine XS.iloadN X0.here hx rfl (B d1_1) rfl ?_
  refine st_1 _ ?_
  refine XS.aloadN XG_1.here hx rfl (B d1_5) rfl rfl ?_
  refine XS.iloadN XG_1.here hx rfl (B d1_6) rfl ?_
  exact kt
 by_cases hc7 : lz = (0 : Int32)
 ·
  have f_4 := (P0_.wr W_1)
  have f_5 := (P2_.other W_1 (Or.inr (sn_0 hw)))
  obtain ⟨T_6, h_6, X_6, e_6, W_6, st_6⟩ := putF XG_1 hx hZ hown (oV hw 15 rfl) Via.refl e_1 f_5 f_4 (Or.inl (oW hw 16 rfl)) (oW hw 1 rfl) (ty := .long) (by decide) rfl rfl (g := (mkF m 15 #[zr me, .val (.long wq), zs, .val (.int lz)] [(.long wq), (.ref me)])) rfl rfl (B d1_15)
  obtain ⟨Lg_6, XG_6, N_6⟩ := own_gen X_6 (Fr.snoc X_6 N_1 g_me)
  have F_6 := f_5.same W_6
  have Z_7 := Nat.le_trans Z_2 (Keep.of_wr W_6).1
  have K_8 : Keep h0 h_6 [me] := K_3.wr W_6 (oK 0 rfl)
  refine own_go (S' := T_6.setTop (mkF m 18 #[zr me, .val (.long wq), zs, .val (.int lz)] [])) (fun target kt => ?_) ?_
  ·
   show oSt p e below T_1 m 7 #[zr me, .val (.long wq), zs, .val (.int lz)] [(.int lz), (.ref me)] target
   refine XS.ifYes XG_1.here hx rfl (pc0 := 7) (pc' := 14) rfl (B d1_7) rfl ((if0 _ _).trans (teq hc7).1) (by decide) (by decide) ?_
   refine XS.lloadN XG_1.here hx rfl (B d1_14) rfl ?_
   refine st_6 _ ?_
   exact kt
  obtain ⟨fs, hr, hrun, hended, hW, hsame⟩ := XG_6.leave (v := none) (fun _ => rfl)
  refine ⟨_, _, XG_6.returnOut hx Bd.returns (B d1_18) hr, hrun, hended, _, _, rfl, ?_, ⟨_, rfl⟩, hW, hsame.mono (by decide) (by decide)⟩
  show Q_fill Z me wq lz h0 n0 _ T_6.heap _
  rw [e_6]
  have f_9 := (f_4.wr W_6)
  have f_10 := ((P1_.other W_1 (Or.inr (sn_1 hw))).other W_6 (Or.inr (sn_2 hw)))
  have f_11 := (F_1.other W_6 (Or.inr (sn_3 hw)))
  have f_12 := ((P4_.other W_1 (Or.inr (sn_4 hw))).other W_6 (Or.inr (sn_5 hw)))
  exact ⟨(nar .boolean lz), wq, rfl, N_6, K_8, f_9, f_10, F_6, f_11, f_12⟩
 ·
  have f_13 := (P0_.wr W_1)
  have f_14 := (P2_.other W_1 (Or.inr (sn_0 hw)))
  obtain ⟨T_15, h_15, X_15, e_15, W_15, st_15⟩ := putF XG_1 hx hZ hown (oV hw 15 rfl) Via.refl e_1 f_14 f_13 (Or.inl (oW hw 16 rfl)) (oW hw 1 rfl) (ty := .long) (by decide) rfl rfl (g := (mkF m 15 #[zr me, .val (.long wq), zs, .val (.int lz)] [(.long (0 : Int64)), (.ref me)])) rfl rfl (B d1_15)
  obtain ⟨Lg_15, XG_15, N_15⟩ := own_gen X_15 (Fr.snoc X_15 N_1 g_me)
  have F_15 := f_14.same W_15
  have Z_16 := Nat.le_trans Z_2 (Keep.of_wr W_15).1
  have K_17 : Keep h0 h_15 [me] := K_3.wr W_15 (oK 0 rfl)
  refine own_go (S' := T_15.setTop (mkF m 18 #[zr me, .val (.long wq), zs, .val (.int lz)] [])) (fun target kt => ?_) ?_
  ·
   show oSt p e below T_1 m 7 #[zr me, .val (.long wq), zs, .val (.int lz)] [(.int lz), (.ref me)] target
   refine XS.ifNo XG_1.here hx rfl (B d1_7) rfl ((if0 _ _).trans (feq hc7).1) ?_
   refine XS.lconst XG_1.here hx rfl (B d1_10) ?_
   refine XS.goto XG_1.here hx rfl (pc0 := 11) (pc' := 15) rfl (B d1_11) (by decide) (by decide) ?_
   refine st_15 _ ?_
   exact kt
  obtain ⟨fs, hr, hrun, hended, hW, hsame⟩ := XG_15.leave (v := none) (fun _ => rfl)
  refine ⟨_, _, XG_15.returnOut hx Bd.returns (B d1_18) hr, hrun, hended, _, _, rfl, ?_, ⟨_, rfl⟩, hW, hsame.mono (by decide) (by decide)⟩
  show Q_fill Z me wq lz h0 n0 _ T_15.heap _
  rw [e_15]
  have f_18 := (f_13.wr W_15)
  have f_19 := ((P1_.other W_1 (Or.inr (sn_1 hw))).other W_15 (Or.inr (sn_2 hw)))
  have f_20 := (F_1.other W_15 (Or.inr (sn_3 hw)))
  have f_21 := ((P4_.other W_1 (Or.inr (sn_4 hw))).other W_15 (Or.inr (sn_5 hw)))
  exact ⟨(nar .boolean lz), (0 : Int64), rfl, N_15, K_17, f_18, f_19, F_15, f_20, f_21⟩
-- com/example/carillon/carillon/Chain.orderOf:(Lcom/example/carillon/carillon/Message;)J
theorem d2_0 : decode cd2 0 = .ok (.aload_n 0, 1) := by decide +kernel
theorem d2_1 : decode cd2 1 = .ok (.getfield 59, 3) := by decide +kernel
theorem d2_4 : decode cd2 4 = .ok (.ifCond .eq 9, 3) := by decide +kernel
theorem d2_7 : decode cd2 7 = .ok (.ldc2_w 43, 3) := by decide +kernel
theorem d2_10 : decode cd2 10 = .ok (.goto 7, 3) := by decide +kernel
theorem d2_13 : decode cd2 13 = .ok (.aload_n 0, 1) := by decide +kernel
theorem d2_14 : decode cd2 14 = .ok (.getfield 65, 3) := by decide +kernel
theorem d2_17 : decode cd2 17 = .ok (.lreturn, 1) := by decide +kernel
theorem pn_ordc : plainName "com/example/carillon/carillon/Chain" = true := by first | (simp [plainName, overriddenIn]; done) | decide +kernel
def Q_ordc (Z : State) (a1 : Addr) (f1 : Int32) (q1 : Int64) (h0 : Heap) (n0 : Nat) (v : Option Value) (h : Heap) (L : List Loc) : Prop := v = some (.long (own_ord f1 q1)) ∧ Fr n0 L ∧ h = h0
set_option maxRecDepth 65536 in
set_option maxHeartbeats 40000000 in
theorem rm_ordc (l : Launch) (Z : State) (a0 : Array Value) (hw : hwT Z a0) (ws : List Jvm.Cond) (a1 : Addr) (f1 : Int32) (q1 : Int64) (h0 : Heap) (n0 : Nat) (Z0 : n0 ≤ h0.size) (hf : xF2 Z h0 a1 (.int f1)) (hq : xF1 Z h0 a1 (.long q1)) :
  oMF l Z mn2 (Jvm.Cond.code mn2 prog_2_method_4_code 1 (some .long)) ws (rO 0 0 0 0) #[(.ref a1)] h0 (Q_ordc Z a1 f1 q1 h0 n0) := by
 refine MetFree.of_bodySF (plainFor_of_name pn_ordc) hisR ?_
 intro p e s m args below meth c s₁ Bd hml0 hP hK
 obtain ⟨rfl, hZ, hh⟩ := hP
 have hx := Bd.exec
 have hby := Bd.bytes
 have B : ∀ {pc r}, decode cd2 pc = r → decode c.code pc = r := fun h => hb hby h
 have hml : c.maxLocals = 1 := hml0
 have hown : s.vm.findClass sg3 = some m.cls := findClass_of_methodNamed Bd.named
 have hnm := (name_of_methodNamed Bd.named Bd.method).1
 have X0 : Stand p l e (rO 0 0 0 0) s m #[(.ref a1)] below meth c s₁ [] 0 0 := Stand.of_body Bd
 have e0 : s₁.heap = h0 := by rw [← hh, Bd.state]; rfl
 have N0 := Fr.nil n0
 refine own_in ?_
 refine own_go (S' := s₁.setTop (mkF m 0 #[zr a1] [])) (fun tgt_ stp_ => castTop (ef_mi m a1) stp_) ?_
 obtain ⟨T_1, X_1, e_1, st_1⟩ := getF X0 hx hZ hown (oV hw 151 rfl) Via.refl e0 hf (g := (mkF m 1 #[zr a1] [(.ref a1)])) rfl rfl (B d2_1)
 refine own_go (S' := T_1.setTop (mkF m 4 #[zr a1] [(.int f1)])) (fun target kt => ?_) ?_
 ·
  show oSt p e below s₁ m 0 #[zr a1] [] target
  refine XS.aloadN X0.here hx rfl (B d2_0) rfl rfl ?_
  refine st_1 _ ?_
  exact kt
 by_cases hc4 : f1 = (0 : Int32)
 ·
  obtain ⟨T_2, X_2, e_2, st_2⟩ := getF X_1 hx hZ hown (oV hw 159 rfl) Via.refl e_1 hq (g := (mkF m 14 #[zr a1] [(.ref a1)])) rfl rfl (B d2_14)
  refine own_go (S' := T_2.setTop (mkF m 17 #[zr a1] [(.long q1)])) (fun target kt => ?_) ?_
  ·
   show oSt p e below T_1 m 4 #[zr a1] [(.int f1)] target
   refine XS.ifYes X_1.here hx rfl (pc0 := 4) (pc' := 13) rfl (B d2_4) rfl ((if0 _ _).trans (teq hc4).1) (by decide) (by decide) ?_
   refine XS.aloadN X_1.here hx rfl (B d2_13) rfl rfl ?_
   refine st_2 _ ?_
   exact kt
  obtain ⟨fs, hr, hrun, hended, hW, hsame⟩ := X_2.leave (v := some (.long q1)) (fun h => by rw [Bd.returns] at h; cases h)
  refine ⟨_, _, Jvm.Stand.lreturnOut X_2 hx Bd.returns (B d2_17) hr, hrun, hended, _, _, rfl, ?_, ⟨_, rfl⟩, hW, hsame.mono (by decide) (by decide)⟩
  show Q_ordc Z a1 f1 q1 h0 n0 _ T_2.heap _
  rw [e_2]
  exact ⟨(congrArg (fun z => some (Value.long z)) (by first | (simp only [own_ord, hc4, not_true_eq_false, not_false_eq_true, and_self, and_true, true_and, and_false, false_and, or_self, or_true, true_or, or_false, false_or, if_true, if_false, ↓reduceIte]; done) | (simp [own_ord, hc4]; done))), N0, rfl⟩
 ·
  refine own_go (S' := T_1.setTop (mkF m 17 #[zr a1] [(.long (-9223372036854775808 : Int64))])) (fun target kt => ?_) ?_
  ·
   show oSt p e below T_1 m 4 #[zr a1] [(.int f1)] target
   refine XS.ifNo X_1.here hx rfl (B d2_4) rfl ((if0 _ _).trans (feq hc4).1) ?_
   refine X_1.ldc2Long hx hown (oT hZ hw 160 rfl) (g := (mkF m 7 #[zr a1] [])) rfl (B d2_7) _ ?_
   refine XS.goto X_1.here hx rfl (pc0 := 10) (pc' := 17) rfl (B d2_10) (by decide) (by decide) ?_
   exact kt
  obtain ⟨fs, hr, hrun, hended, hW, hsame⟩ := X_1.leave (v := some (.long (-9223372036854775808 : Int64))) (fun h => by rw [Bd.returns] at h; cases h)
  refine ⟨_, _, Jvm.Stand.lreturnOut X_1 hx Bd.returns (B d2_17) hr, hrun, hended, _, _, rfl, ?_, ⟨_, rfl⟩, hW, hsame.mono (by decide) (by decide)⟩
  show Q_ordc Z a1 f1 q1 h0 n0 _ T_1.heap _
  rw [e_1]
  exact ⟨(congrArg (fun z => some (Value.long z)) (by first | (simp only [own_ord, hc4, not_true_eq_false, not_false_eq_true, and_self, and_true, true_and, and_false, false_and, or_self, or_true, true_or, or_false, false_or, if_true, if_false, ↓reduceIte]; done) | (simp [own_ord, hc4]; done))), N0, rfl⟩
-- com/example/carillon/carillon/ChainTakePinLaw.ord:(Lcom/example/carillon/carillon/Message;)J
theorem d3_0 : decode cd3 0 = .ok (.aload_n 0, 1) := by decide +kernel
theorem d3_1 : decode cd3 1 = .ok (.getfield 7, 3) := by decide +kernel
theorem d3_4 : decode cd3 4 = .ok (.ifCond .eq 9, 3) := by decide +kernel
theorem d3_7 : decode cd3 7 = .ok (.ldc2_w 15, 3) := by decide +kernel
theorem d3_10 : decode cd3 10 = .ok (.goto 7, 3) := by decide +kernel
theorem d3_13 : decode cd3 13 = .ok (.aload_n 0, 1) := by decide +kernel
theorem d3_14 : decode cd3 14 = .ok (.getfield 17, 3) := by decide +kernel
theorem d3_17 : decode cd3 17 = .ok (.lreturn, 1) := by decide +kernel
def Q_ordl (Z : State) (a1 : Addr) (f1 : Int32) (q1 : Int64) (h0 : Heap) (n0 : Nat) (v : Option Value) (h : Heap) (L : List Loc) : Prop := v = some (.long (own_ord f1 q1)) ∧ Fr n0 L ∧ h = h0
set_option maxRecDepth 65536 in
set_option maxHeartbeats 40000000 in
theorem rm_ordl (l : Launch) (Z : State) (a0 : Array Value) (hw : hwT Z a0) (ws : List Jvm.Cond) (a1 : Addr) (f1 : Int32) (q1 : Int64) (h0 : Heap) (n0 : Nat) (Z0 : n0 ≤ h0.size) (hf : xF2 Z h0 a1 (.int f1)) (hq : xF1 Z h0 a1 (.long q1)) :
  oMF l Z mn3 (Jvm.Cond.code mn3 method_2_code 1 (some .long)) ws (rO 0 0 0 0) #[(.ref a1)] h0 (Q_ordl Z a1 f1 q1 h0 n0) := by
 refine MetFree.of_bodySF (plainFor_of_name pn_fill) hisR ?_
 intro p e s m args below meth c s₁ Bd hml0 hP hK
 obtain ⟨rfl, hZ, hh⟩ := hP
 have hx := Bd.exec
 have hby := Bd.bytes
 have B : ∀ {pc r}, decode cd3 pc = r → decode c.code pc = r := fun h => hb hby h
 have hml : c.maxLocals = 1 := hml0
 have hown : s.vm.findClass sg2 = some m.cls := findClass_of_methodNamed Bd.named
 have hnm := (name_of_methodNamed Bd.named Bd.method).1
 have X0 : Stand p l e (rO 0 0 0 0) s m #[(.ref a1)] below meth c s₁ [] 0 0 := Stand.of_body Bd
 have e0 : s₁.heap = h0 := by rw [← hh, Bd.state]; rfl
 have N0 := Fr.nil n0
 refine own_in ?_
 refine own_go (S' := s₁.setTop (mkF m 0 #[zr a1] [])) (fun tgt_ stp_ => castTop (ef_mi m a1) stp_) ?_
 obtain ⟨T_1, X_1, e_1, st_1⟩ := getF X0 hx hZ hown (oV hw 13 rfl) Via.refl e0 hf (g := (mkF m 1 #[zr a1] [(.ref a1)])) rfl rfl (B d3_1)
 refine own_go (S' := T_1.setTop (mkF m 4 #[zr a1] [(.int f1)])) (fun target kt => ?_) ?_
 ·
  show oSt p e below s₁ m 0 #[zr a1] [] target
  refine XS.aloadN X0.here hx rfl (B d3_0) rfl rfl ?_
  refine st_1 _ ?_
  exact kt
 by_cases hc4 : f1 = (0 : Int32)
 ·
  obtain ⟨T_2, X_2, e_2, st_2⟩ := getF X_1 hx hZ hown (oV hw 15 rfl) Via.refl e_1 hq (g := (mkF m 14 #[zr a1] [(.ref a1)])) rfl rfl (B d3_14)
  refine own_go (S' := T_2.setTop (mkF m 17 #[zr a1] [(.long q1)])) (fun target kt => ?_) ?_
  ·
   show oSt p e below T_1 m 4 #[zr a1] [(.int f1)] target
   refine XS.ifYes X_1.here hx rfl (pc0 := 4) (pc' := 13) rfl (B d3_4) rfl ((if0 _ _).trans (teq hc4).1) (by decide) (by decide) ?_
   refine XS.aloadN X_1.here hx rfl (B d3_13) rfl rfl ?_
   refine st_2 _ ?_
   exact kt
  obtain ⟨fs, hr, hrun, hended, hW, hsame⟩ := X_2.leave (v := some (.long q1)) (fun h => by rw [Bd.returns] at h; cases h)
  refine ⟨_, _, Jvm.Stand.lreturnOut X_2 hx Bd.returns (B d3_17) hr, hrun, hended, _, _, rfl, ?_, ⟨_, rfl⟩, hW, hsame.mono (by decide) (by decide)⟩
  show Q_ordl Z a1 f1 q1 h0 n0 _ T_2.heap _
  rw [e_2]
  exact ⟨(congrArg (fun z => some (Value.long z)) (by first | (simp only [own_ord, hc4, not_true_eq_false, not_false_eq_true, and_self, and_true, true_and, and_false, false_and, or_self, or_true, true_or, or_false, false_or, if_true, if_false, ↓reduceIte]; done) | (simp [own_ord, hc4]; done))), N0, rfl⟩
 ·
  refine own_go (S' := T_1.setTop (mkF m 17 #[zr a1] [(.long (-9223372036854775808 : Int64))])) (fun target kt => ?_) ?_
  ·
   show oSt p e below T_1 m 4 #[zr a1] [(.int f1)] target
   refine XS.ifNo X_1.here hx rfl (B d3_4) rfl ((if0 _ _).trans (feq hc4).1) ?_
   refine X_1.ldc2Long hx hown (oT hZ hw 194 rfl) (g := (mkF m 7 #[zr a1] [])) rfl (B d3_7) _ ?_
   refine XS.goto X_1.here hx rfl (pc0 := 10) (pc' := 17) rfl (B d3_10) (by decide) (by decide) ?_
   exact kt
  obtain ⟨fs, hr, hrun, hended, hW, hsame⟩ := X_1.leave (v := some (.long (-9223372036854775808 : Int64))) (fun h => by rw [Bd.returns] at h; cases h)
  refine ⟨_, _, Jvm.Stand.lreturnOut X_1 hx Bd.returns (B d3_17) hr, hrun, hended, _, _, rfl, ?_, ⟨_, rfl⟩, hW, hsame.mono (by decide) (by decide)⟩
  show Q_ordl Z a1 f1 q1 h0 n0 _ T_1.heap _
  rw [e_1]
  exact ⟨(congrArg (fun z => some (Value.long z)) (by first | (simp only [own_ord, hc4, not_true_eq_false, not_false_eq_true, and_self, and_true, true_and, and_false, false_and, or_self, or_true, true_or, or_false, false_or, if_true, if_false, ↓reduceIte]; done) | (simp [own_ord, hc4]; done))), N0, rfl⟩
-- com/example/carillon/carillon/Chain.goesBehind:(Lcom/example/carillon/carillon/Message;Lcom/example/carillon/carillon/Message;)Z
theorem d4_0 : decode cd4 0 = .ok (.aload_n 0, 1) := by decide +kernel
theorem d4_1 : decode cd4 1 = .ok (.getfield 59, 3) := by decide +kernel
theorem d4_4 : decode cd4 4 = .ok (.ifCond .ne 19, 3) := by decide +kernel
theorem d4_7 : decode cd4 7 = .ok (.aload_n 1, 1) := by decide +kernel
theorem d4_8 : decode cd4 8 = .ok (.invokestatic 45, 3) := by decide +kernel
theorem d4_11 : decode cd4 11 = .ok (.aload_n 0, 1) := by decide +kernel
theorem d4_12 : decode cd4 12 = .ok (.invokestatic 45, 3) := by decide +kernel
theorem d4_15 : decode cd4 15 = .ok (.lcmp, 1) := by decide +kernel
theorem d4_16 : decode cd4 16 = .ok (.ifCond .gt 7, 3) := by decide +kernel
theorem d4_19 : decode cd4 19 = .ok (.iconst 1, 1) := by decide +kernel
theorem d4_20 : decode cd4 20 = .ok (.goto 4, 3) := by decide +kernel
theorem d4_23 : decode cd4 23 = .ok (.iconst 0, 1) := by decide +kernel
theorem d4_24 : decode cd4 24 = .ok (.ireturn, 1) := by decide +kernel
theorem ef_gb (m : MethodId) (a1 a2 : Addr) : entryFrame m #[(.ref a1), (.ref a2)] 2 = mkF m 0 #[.val (.ref a1), .val (.ref a2)] [] := by first | (simp [entryFrame, mkF, argsToLocals, Value.category]; done) | rfl
def Q_gb (Z : State) (a1 a2 : Addr) (f1 : Int32) (q1 : Int64) (f2 : Int32) (q2 : Int64) (h0 : Heap) (n0 : Nat) (v : Option Value) (h : Heap) (L : List Loc) : Prop := v = some (.int (own_gb f1 q1 f2 q2)) ∧ Fr n0 L ∧ h = h0
set_option maxRecDepth 65536 in
set_option maxHeartbeats 40000000 in
theorem rm_gb (l : Launch) (Z : State) (a0 : Array Value) (hw : hwT Z a0) (ws : List Jvm.Cond) (a1 a2 : Addr) (f1 : Int32) (q1 : Int64) (f2 : Int32) (q2 : Int64) (h0 : Heap) (n0 : Nat) (Z0 : n0 ≤ h0.size) (hf : xF2 Z h0 a1 (.int f1)) (hq : xF1 Z h0 a1 (.long q1)) (hf2 : xF2 Z h0 a2 (.int f2)) (hq2 : xF1 Z h0 a2 (.long q2)) :
  oMF l Z mn4 (Jvm.Cond.code mn4 prog_2_method_5_code 2 (some .boolean)) ws (rO 1 0 0 14) #[(.ref a1), (.ref a2)] h0 (Q_gb Z a1 a2 f1 q1 f2 q2 h0 n0) := by
 refine MetFree.of_bodySF (plainFor_of_name pn_ordc) hisR ?_
 intro p e s m args below meth c s₁ Bd hml0 hP hK
 obtain ⟨rfl, hZ, hh⟩ := hP
 have hx := Bd.exec
 have hby := Bd.bytes
 have B : ∀ {pc r}, decode cd4 pc = r → decode c.code pc = r := fun h => hb hby h
 have hml : c.maxLocals = 2 := hml0
 have hown : s.vm.findClass sg3 = some m.cls := findClass_of_methodNamed Bd.named
 have hnm := (name_of_methodNamed Bd.named Bd.method).1
 have X0 : Stand p l e (rO 1 0 0 14) s m #[(.ref a1), (.ref a2)] below meth c s₁ [] 0 0 := Stand.of_body Bd
 have e0 : s₁.heap = h0 := by rw [← hh, Bd.state]; rfl
 have N0 := Fr.nil n0
 refine own_in ?_
 refine own_go (S' := s₁.setTop (mkF m 0 #[zr a1, zr a2] [])) (fun tgt_ stp_ => castTop (ef_gb m a1 a2) stp_) ?_
 obtain ⟨T_1, X_1, e_1, st_1⟩ := getF X0 hx hZ hown (oV hw 151 rfl) Via.refl e0 hf (g := (mkF m 1 #[zr a1, zr a2] [(.ref a1)])) rfl rfl (B d4_1)
 refine own_go (S' := T_1.setTop (mkF m 4 #[zr a1, zr a2] [(.int f1)])) (fun target kt => ?_) ?_
 ·
  show oSt p e below s₁ m 0 #[zr a1, zr a2] [] target
  refine XS.aloadN X0.here hx rfl (B d4_0) rfl rfl ?_
  refine st_1 _ ?_
  exact kt
 by_cases hc4 : f1 = (0 : Int32)
 ·
  obtain ⟨_, _, ⟨T_2, L_2, k_2, n_2⟩, -, X_2, ⟨Lc_2, hQ_2, l_2, y_2, z_2⟩, st_2⟩ := Jvm.LawKit.callS X_1 hx (y := mn2) hown (oT hZ hw 156 rfl) (oT hZ hw 157 rfl) (oT hZ hw 19 rfl) (oT hZ hw 158 rfl) (by decide) (backOf (W := 0) (rm_ordc l Z a0 hw [] a2 f2 q2 h0 n0 Z0 hf2 hq2) hZ (oW hw 158 rfl) (oW hw 19 rfl) (by decide) (by decide)) (g := (mkF m 8 #[zr a1, zr a2] [(.ref a2)])) rfl (by rw [hml]; rfl) (argsL := [(.ref a2)]) (rest := []) (lenOf pd0 rfl) rfl (oQ rfl) (B d4_8) (fun _ _ => ⟨rfl, e_1, (by decide : 0 + 0 ≤ _), (by decide : 0 + 0 ≤ _)⟩)
  dsimp only [Pt.U, Pt.locs, Pt.cells, Pt.slots] at X_2 l_2 y_2 z_2 st_2 hQ_2
  subst y_2 z_2
  obtain ⟨rfl, N_2q, p_2_0⟩ := hQ_2
  have N_2 : Fr n0 L_2 := by rw [l_2]; exact Fr.app N0 N_2q
  clear l_2
  obtain ⟨_, _, ⟨T_3, L_3, k_3, n_3⟩, -, X_3, ⟨Lc_3, hQ_3, l_3, y_3, z_3⟩, st_3⟩ := Jvm.LawKit.callS X_2 hx (y := mn2) hown (oT hZ hw 156 rfl) (oT hZ hw 157 rfl) (oT hZ hw 19 rfl) (oT hZ hw 158 rfl) (by decide) (backOf (W := 2) (rm_ordc l Z a0 hw [] a1 f1 q1 h0 n0 Z0 hf hq) hZ (oW hw 158 rfl) (oW hw 19 rfl) (by decide) (by decide)) (g := (mkF m 12 #[zr a1, zr a2] [(.ref a1), (.long (own_ord f2 q2))])) rfl (by rw [hml]; rfl) (argsL := [(.ref a1)]) (rest := [(.long (own_ord f2 q2))]) (lenOf pd0 rfl) rfl (oQ rfl) (B d4_12) (fun _ _ => ⟨rfl, p_2_0, (by decide : 0 + 0 ≤ _), (by decide : 0 + 0 ≤ _)⟩)
  dsimp only [Pt.U, Pt.locs, Pt.cells, Pt.slots] at X_3 l_3 y_3 z_3 st_3 hQ_3
  subst y_3 z_3
  obtain ⟨rfl, N_3q, p_3_0⟩ := hQ_3
  have N_3 : Fr n0 L_3 := by rw [l_3]; exact Fr.app N_2 N_3q
  clear l_3
  refine own_go (S' := T_3.setTop (mkF m 16 #[zr a1, zr a2] [(.int (lcmpW (own_ord f2 q2) (own_ord f1 q1)))])) (fun target kt => ?_) ?_
  ·
   show oSt p e below T_1 m 4 #[zr a1, zr a2] [(.int f1)] target
   refine XS.ifNo X_1.here hx rfl (B d4_4) rfl ((if0 _ _).trans (teq hc4).2) ?_
   refine XS.aloadN X_1.here hx rfl (B d4_7) rfl rfl ?_
   refine st_2 _ ?_
   refine XS.aloadN X_2.here hx rfl (B d4_11) rfl rfl ?_
   refine st_3 _ ?_
   refine XS.lcmp X_3.here hx rfl (B d4_15) rfl ?_
   exact kt
  by_cases hc16 : (own_ord f1 q1) < (own_ord f2 q2)
  ·
   refine own_go (S' := T_3.setTop (mkF m 24 #[zr a1, zr a2] [(.int (0 : Int32))])) (fun target kt => ?_) ?_
   ·
    show oSt p e below T_3 m 16 #[zr a1, zr a2] [(.int (lcmpW (own_ord f2 q2) (own_ord f1 q1)))] target
    refine XS.ifYes X_3.here hx rfl (pc0 := 16) (pc' := 23) rfl (B d4_16) rfl ((if0 _ _).trans (tlt (own_l5 hc16)).2.2.1) (by decide) (by decide) ?_
    refine XS.iconst X_3.here hx rfl (B d4_23) ?_
    exact kt
   obtain ⟨fs, hr, hrun, hended, hW, hsame⟩ := X_3.leave (v := some (.int (0 : Int32))) (fun h => by rw [Bd.returns] at h; cases h)
   refine ⟨_, _, retN X_3 hx (t := .boolean) Bd.returns (by simp) (B d4_24) hr, hrun, hended, _, _, rfl, ?_, ⟨_, rfl⟩, hW, hsame.mono (by decide) (by decide)⟩
   show Q_gb Z a1 a2 f1 q1 f2 q2 h0 n0 _ T_3.heap _
   rw [p_3_0]
   exact ⟨(congrArg (fun z => some (Value.int z)) (by rw [own_gb, if_neg (fun q => q.2 hc16)])), N_3, rfl⟩
  ·
   refine own_go (S' := T_3.setTop (mkF m 24 #[zr a1, zr a2] [(.int (1 : Int32))])) (fun target kt => ?_) ?_
   ·
    show oSt p e below T_3 m 16 #[zr a1, zr a2] [(.int (lcmpW (own_ord f2 q2) (own_ord f1 q1)))] target
    refine XS.ifNo X_3.here hx rfl (B d4_16) rfl ((if0 _ _).trans (flt (own_l6 hc16)).2.2.1) ?_
    refine XS.iconst X_3.here hx rfl (B d4_19) ?_
    refine XS.goto X_3.here hx rfl (pc0 := 20) (pc' := 24) rfl (B d4_20) (by decide) (by decide) ?_
    exact kt
   obtain ⟨fs, hr, hrun, hended, hW, hsame⟩ := X_3.leave (v := some (.int (1 : Int32))) (fun h => by rw [Bd.returns] at h; cases h)
   refine ⟨_, _, retN X_3 hx (t := .boolean) Bd.returns (by simp) (B d4_24) hr, hrun, hended, _, _, rfl, ?_, ⟨_, rfl⟩, hW, hsame.mono (by decide) (by decide)⟩
   show Q_gb Z a1 a2 f1 q1 f2 q2 h0 n0 _ T_3.heap _
   rw [p_3_0]
   exact ⟨(congrArg (fun z => some (Value.int z)) (by rw [own_gb, if_pos ⟨hc4, hc16⟩])), N_3, rfl⟩
 ·
  refine own_go (S' := T_1.setTop (mkF m 24 #[zr a1, zr a2] [(.int (0 : Int32))])) (fun target kt => ?_) ?_
  ·
   show oSt p e below T_1 m 4 #[zr a1, zr a2] [(.int f1)] target
   refine XS.ifYes X_1.here hx rfl (pc0 := 4) (pc' := 23) rfl (B d4_4) rfl ((if0 _ _).trans (feq hc4).2) (by decide) (by decide) ?_
   refine XS.iconst X_1.here hx rfl (B d4_23) ?_
   exact kt
  obtain ⟨fs, hr, hrun, hended, hW, hsame⟩ := X_1.leave (v := some (.int (0 : Int32))) (fun h => by rw [Bd.returns] at h; cases h)
  refine ⟨_, _, retN X_1 hx (t := .boolean) Bd.returns (by simp) (B d4_24) hr, hrun, hended, _, _, rfl, ?_, ⟨_, rfl⟩, hW, hsame.mono (by decide) (by decide)⟩
  show Q_gb Z a1 a2 f1 q1 f2 q2 h0 n0 _ T_1.heap _
  rw [e_1]
  exact ⟨(congrArg (fun z => some (Value.int z)) (by rw [own_gb, if_neg (fun q => hc4 q.1)])), N0, rfl⟩
-- com/example/carillon/carillon/Backlog.<init>:()V
theorem d5_0 : decode cd5 0 = .ok (.aload_n 0, 1) := by decide +kernel
theorem d5_1 : decode cd5 1 = .ok (.invokespecial 1, 3) := by decide +kernel
theorem d5_4 : decode cd5 4 = .ok (.aload_n 0, 1) := by decide +kernel
theorem d5_5 : decode cd5 5 = .ok (.iconst 0, 1) := by decide +kernel
theorem d5_6 : decode cd5 6 = .ok (.anewarray 7, 3) := by decide +kernel
theorem d5_9 : decode cd5 9 = .ok (.putfield 9, 3) := by decide +kernel
theorem d5_12 : decode cd5 12 = .ok (.aload_n 0, 1) := by decide +kernel
theorem d5_13 : decode cd5 13 = .ok (.iconst 0, 1) := by decide +kernel
theorem d5_14 : decode cd5 14 = .ok (.newarray .long, 2) := by decide +kernel
theorem d5_16 : decode cd5 16 = .ok (.putfield 15, 3) := by decide +kernel
theorem d5_19 : decode cd5 19 = .ok (.aload_n 0, 1) := by decide +kernel
theorem d5_20 : decode cd5 20 = .ok (.ldc2_w 21, 3) := by decide +kernel
theorem d5_23 : decode cd5 23 = .ok (.putfield 23, 3) := by decide +kernel
theorem d5_26 : decode cd5 26 = .ok (.return_, 1) := by decide +kernel
theorem pn_bi : plainName "com/example/carillon/carillon/Backlog" = true := by first | (simp [plainName, overriddenIn]; done) | decide +kernel
theorem ef_bi (m : MethodId) (bl : Addr) : entryFrame m #[(.ref bl)] 1 = mkF m 0 #[.val (.ref bl)] [] := by first | (simp [entryFrame, mkF, argsToLocals, Value.category]; done) | rfl
def Q_bi (Z : State) (bl : Addr) (h0 : Heap) (n0 : Nat) (v : Option Value) (h : Heap) (L : List Loc) : Prop := v = none ∧ Fr n0 L ∧ Keep h0 h [bl] ∧ Exa Z h bl sg4 ∧ xF4 Z h bl (.int (0 : Int32)) ∧ xF5 Z h bl (.long (-9223372036854775808 : Int64))
set_option maxRecDepth 65536 in
set_option maxHeartbeats 40000000 in
theorem rm_bi (l : Launch) (Z : State) (a0 : Array Value) (hw : hwT Z a0) (ws : List Jvm.Cond) (bl : Addr) (h0 : Heap) (n0 : Nat) (Z0 : n0 ≤ h0.size) (P0_ : Exa Z h0 bl sg4) (P1_ : xF6 Z h0 bl .null) (P2_ : xF7 Z h0 bl .null) (P3_ : xF4 Z h0 bl (.int (0 : Int32))) (P4_ : xF5 Z h0 bl (.long (0 : Int64))) (g_bl : n0 ≤ bl) :
  oMF l Z mn5 (Jvm.Cond.code mn5 prog_1_method_1_code 1 none) ws (rO 1 2 0 12) #[(.ref bl)] h0 (Q_bi Z bl h0 n0) := by
 refine MetFree.of_bodySF (plainFor_of_name pn_bi) hisR ?_
 intro p e s m args below meth c s₁ Bd hml0 hP hK
 obtain ⟨rfl, hZ, hh⟩ := hP
 have hx := Bd.exec
 have hby := Bd.bytes
 have B : ∀ {pc r}, decode cd5 pc = r → decode c.code pc = r := fun h => hb hby h
 have hml : c.maxLocals = 1 := hml0
 have hown : s.vm.findClass sg4 = some m.cls := findClass_of_methodNamed Bd.named
 have hnm := (name_of_methodNamed Bd.named Bd.method).1
 have X0 : Stand p l e (rO 1 2 0 12) s m #[(.ref bl)] below meth c s₁ [] 0 0 := Stand.of_body Bd
 have e0 : s₁.heap = h0 := by rw [← hh, Bd.state]; rfl
 have N0 := Fr.nil n0
 refine own_in ?_
 refine own_go (S' := s₁.setTop (mkF m 0 #[zr bl] [])) (fun tgt_ stp_ => castTop (ef_bi m bl) stp_) ?_
 have K0 : Keep h0 h0 [bl] := Keep.refl h0 _
 obtain ⟨T_1, X_1, e_1, st_1⟩ := initO X0 hx hZ hown (oW hw 36 rfl) (oW hw 7 rfl) (oW hw 8 rfl) e0 (g := (mkF m 1 #[zr bl] [(.ref bl)])) rfl (by rw [hml]; rfl) rfl (B d5_1) (by decide) (W := 0) (oQ rfl) (by decide)
 obtain ⟨T_2, h_2, k_2, X_2, e_2, E_2, A_2, O_2, st_2⟩ := newR X_1 hx hZ hown (oW hw 37 rfl) (oW hw 38 rfl) e_1 (g := (mkF m 6 #[zr bl] [(.int (0 : Int32)), (.ref bl)])) rfl (B d5_6) rfl (by decide) (cap := 0) (by decide) (by decide) (by decide) (by decide)
 obtain ⟨b_2, g_2⟩ : ∃ z, z = h0.size := ⟨_, rfl⟩
 rw [← g_2] at A_2 st_2
 have gn_b_2 : n0 ≤ b_2 := Nat.le_trans Z0 (Nat.le_of_eq g_2.symm)
 have sz_b_2 : h0.size ≤ b_2 := Nat.le_trans K0.1 (Nat.le_of_eq g_2.symm)
 have ne_bl_b_2 : bl ≠ b_2 := Nat.ne_of_lt (Nat.lt_of_lt_of_le P0_.lt (Nat.le_of_eq g_2.symm))
 have V_2 : Arv Z h_2 b_2 k_2 (.object sg0) (0 : Int32) [] .null := (Arv.new A_2 (by decide)).pad (pad_rep [] .null 0)
 have Z_3 := Nat.le_trans Z0 E_2.1
 have K_4 : Keep h0 h_2 [bl] := K0.ext E_2
 have f_5 := (P0_.ext E_2)
 have f_6 := (P1_.ext E_2)
 obtain ⟨T_7, h_7, X_7, e_7, W_7, st_7⟩ := putF X_2 hx hZ hown (oV hw 39 rfl) Via.refl e_2 f_6 f_5 (Or.inl (oW hw 40 rfl)) (oW hw 31 rfl) (ty := (.array (.object sg0))) (by decide) rfl rfl (g := (mkF m 9 #[zr bl] [(.ref b_2), (.ref bl)])) rfl rfl (B d5_9)
 obtain ⟨Lg_7, XG_7, N_7⟩ := own_gen X_7 (Fr.snoc X_7 N0 g_bl)
 have F_7 := f_6.same W_7
 have Z_8 := Nat.le_trans Z_3 (Keep.of_wr W_7).1
 have K_9 : Keep h0 h_7 [bl] := K_4.wr W_7 (oK 0 rfl)
 obtain ⟨T_10, h_10, k_10, X_10, e_10, E_10, A_10, st_10⟩ := newP XG_7 hx hZ (oW hw 41 rfl) e_7 (g := (mkF m 14 #[zr bl] [(.int (0 : Int32)), (.ref bl)])) rfl (B d5_14) rfl (by decide) (cap := 0) (by decide) (by decide) (by decide) (by decide)
 obtain ⟨b_10, g_10⟩ : ∃ z, z = h_7.size := ⟨_, rfl⟩
 rw [← g_10] at A_10 st_10
 have gn_b_10 : n0 ≤ b_10 := Nat.le_trans Z_8 (Nat.le_of_eq g_10.symm)
 have sz_b_10 : h0.size ≤ b_10 := Nat.le_trans K_9.1 (Nat.le_of_eq g_10.symm)
 have f_11 := (f_5.wr W_7)
 have ne_bl_b_10 : bl ≠ b_10 := Nat.ne_of_lt (Nat.lt_of_lt_of_le f_11.lt (Nat.le_of_eq g_10.symm))
 have f_12 := (V_2.other W_7 (Ne.symm ne_bl_b_2))
 have ne_b_2_b_10 : b_2 ≠ b_10 := Nat.ne_of_lt (Nat.lt_of_lt_of_le f_12.lt (Nat.le_of_eq g_10.symm))
 have V_10 : Arv Z h_10 b_10 k_10 .long (0 : Int32) [] (.long (0 : Int64)) := (Arv.new A_10 (by decide)).pad (pad_rep [] (.long (0 : Int64)) 0)
 have Z_13 := Nat.le_trans Z_8 E_10.1
 have K_14 : Keep h0 h_10 [bl] := K_9.ext E_10
 have f_15 := (f_11.ext E_10)
 have f_16 := (((P2_.ext E_2).other W_7 (Or.inr (sn_6 hw))).ext E_10)
 obtain ⟨T_17, h_17, X_17, e_17, W_17, st_17⟩ := putF X_10 hx hZ hown (oV hw 42 rfl) Via.refl e_10 f_16 f_15 (Or.inl (oW hw 43 rfl)) (oW hw 31 rfl) (ty := (.array .long)) (by decide) rfl rfl (g := (mkF m 16 #[zr bl] [(.ref b_10), (.ref bl)])) rfl rfl (B d5_16)
 obtain ⟨Lg_17, XG_17, N_17⟩ := own_gen X_17 (Fr.snoc X_17 N_7 g_bl)
 have F_17 := f_16.same W_17
 have Z_18 := Nat.le_trans Z_13 (Keep.of_wr W_17).1
 have K_19 : Keep h0 h_17 [bl] := K_14.wr W_17 (oK 0 rfl)
 have f_20 := (f_15.wr W_17)
 have f_21 := ((((P4_.ext E_2).other W_7 (Or.inr (sn_7 hw))).ext E_10).other W_17 (Or.inr (sn_8 hw)))
 obtain ⟨T_22, h_22, X_22, e_22, W_22, st_22⟩ := putF XG_17 hx hZ hown (oV hw 45 rfl) Via.refl e_17 f_21 f_20 (Or.inl (oW hw 46 rfl)) (oW hw 31 rfl) (ty := .long) (by decide) rfl rfl (g := (mkF m 23 #[zr bl] [(.long (-9223372036854775808 : Int64)), (.ref bl)])) rfl rfl (B d5_23)
 obtain ⟨Lg_22, XG_22, N_22⟩ := own_gen X_22 (Fr.snoc X_22 N_17 g_bl)
 have F_22 := f_21.same W_22
 have Z_23 := Nat.le_trans Z_18 (Keep.of_wr W_22).1
 have K_24 : Keep h0 h_22 [bl] := K_19.wr W_22 (oK 0 rfl)
 refine own_go (S' := T_22.setTop (mkF m 26 #[zr bl] [])) (fun target kt => ?_) ?_
 ·
  show oSt p e below s₁ m 0 #[zr bl] [] target
  refine XS.aloadN X0.here hx rfl (B d5_0) rfl rfl ?_
  refine st_1 _ ?_
  refine XS.aloadN X_1.here hx rfl (B d5_4) rfl rfl ?_
  refine XS.iconst X_1.here hx rfl (B d5_5) ?_
  refine st_2 _ ?_
  refine st_7 _ ?_
  refine XS.aloadN XG_7.here hx rfl (B d5_12) rfl rfl ?_
  refine XS.iconst XG_7.here hx rfl (B d5_13) ?_
  refine st_10 _ ?_
  refine st_17 _ ?_
  refine XS.aloadN XG_17.here hx rfl (B d5_19) rfl rfl ?_
  refine XG_17.ldc2Long hx hown (oT hZ hw 44 rfl) (g := (mkF m 20 #[zr bl] [(.ref bl)])) rfl (B d5_20) _ ?_
  refine st_22 _ ?_
  exact kt
 obtain ⟨fs, hr, hrun, hended, hW, hsame⟩ := XG_22.leave (v := none) (fun _ => rfl)
 refine ⟨_, _, XG_22.returnOut hx Bd.returns (B d5_26) hr, hrun, hended, _, _, rfl, ?_, ⟨_, rfl⟩, hW, hsame.mono (by decide) (by decide)⟩
 show Q_bi Z bl h0 n0 _ T_22.heap _
 rw [e_22]
 have f_25 := (f_20.wr W_22)
 have f_26 := (((((P3_.ext E_2).other W_7 (Or.inr (sn_9 hw))).ext E_10).other W_17 (Or.inr (sn_10 hw))).other W_22 (Or.inr (sn_11 hw)))
 exact ⟨rfl, N_22, K_24, f_25, f_26, F_22⟩
-- com/example/carillon/carillon/Backlog.isEmpty:()Z
theorem d6_0 : decode cd6 0 = .ok (.aload_n 0, 1) := by decide +kernel
theorem d6_1 : decode cd6 1 = .ok (.getfield 27, 3) := by decide +kernel
theorem d6_4 : decode cd6 4 = .ok (.ifCond .ne 7, 3) := by decide +kernel
theorem d6_7 : decode cd6 7 = .ok (.iconst 1, 1) := by decide +kernel
theorem d6_8 : decode cd6 8 = .ok (.goto 4, 3) := by decide +kernel
theorem d6_12 : decode cd6 12 = .ok (.ireturn, 1) := by decide +kernel
def Q_ise (Z : State) (bl : Addr) (h0 : Heap) (n0 : Nat) (v : Option Value) (h : Heap) (L : List Loc) : Prop := v = some (.int (1 : Int32)) ∧ Fr n0 L ∧ h = h0
set_option maxRecDepth 65536 in
set_option maxHeartbeats 40000000 in
theorem rm_ise (l : Launch) (Z : State) (a0 : Array Value) (hw : hwT Z a0) (ws : List Jvm.Cond) (bl : Addr) (h0 : Heap) (n0 : Nat) (Z0 : n0 ≤ h0.size) (P0_ : xF4 Z h0 bl (.int (0 : Int32))) :
  oMF l Z mn6 (Jvm.Cond.code mn6 prog_1_method_2_code 1 (some .boolean)) ws (rO 0 0 0 0) #[(.ref bl)] h0 (Q_ise Z bl h0 n0) := by
 refine MetFree.of_bodySF (plainFor_of_name pn_bi) hisR ?_
 intro p e s m args below meth c s₁ Bd hml0 hP hK
 obtain ⟨rfl, hZ, hh⟩ := hP
 have hx := Bd.exec
 have hby := Bd.bytes
 have B : ∀ {pc r}, decode cd6 pc = r → decode c.code pc = r := fun h => hb hby h
 have hml : c.maxLocals = 1 := hml0
 have hown : s.vm.findClass sg4 = some m.cls := findClass_of_methodNamed Bd.named
 have hnm := (name_of_methodNamed Bd.named Bd.method).1
 have X0 : Stand p l e (rO 0 0 0 0) s m #[(.ref bl)] below meth c s₁ [] 0 0 := Stand.of_body Bd
 have e0 : s₁.heap = h0 := by rw [← hh, Bd.state]; rfl
 have N0 := Fr.nil n0
 refine own_in ?_
 refine own_go (S' := s₁.setTop (mkF m 0 #[zr bl] [])) (fun tgt_ stp_ => castTop (ef_bi m bl) stp_) ?_
 obtain ⟨T_1, X_1, e_1, st_1⟩ := getF X0 hx hZ hown (oV hw 84 rfl) Via.refl e0 P0_ (g := (mkF m 1 #[zr bl] [(.ref bl)])) rfl rfl (B d6_1)
 refine own_go (S' := T_1.setTop (mkF m 12 #[zr bl] [(.int (1 : Int32))])) (fun target kt => ?_) ?_
 ·
  show oSt p e below s₁ m 0 #[zr bl] [] target
  refine XS.aloadN X0.here hx rfl (B d6_0) rfl rfl ?_
  refine st_1 _ ?_
  refine XS.ifNo X_1.here hx rfl (B d6_4) rfl ((if0 _ _).trans (teq (by decide : (0 : Int32) = (0 : Int32))).2) ?_
  refine XS.iconst X_1.here hx rfl (B d6_7) ?_
  refine XS.goto X_1.here hx rfl (pc0 := 8) (pc' := 12) rfl (B d6_8) (by decide) (by decide) ?_
  exact kt
 obtain ⟨fs, hr, hrun, hended, hW, hsame⟩ := X_1.leave (v := some (.int (1 : Int32))) (fun h => by rw [Bd.returns] at h; cases h)
 refine ⟨_, _, retN X_1 hx (t := .boolean) Bd.returns (by simp) (B d6_12) hr, hrun, hended, _, _, rfl, ?_, ⟨_, rfl⟩, hW, hsame.mono (by decide) (by decide)⟩
 show Q_ise Z bl h0 n0 _ T_1.heap _
 rw [e_1]
 exact ⟨rfl, N0, rfl⟩
-- com/example/carillon/carillon/Backlog.highestOrder:()J
theorem d7_0 : decode cd7 0 = .ok (.aload_n 0, 1) := by decide +kernel
theorem d7_1 : decode cd7 1 = .ok (.getfield 23, 3) := by decide +kernel
theorem d7_4 : decode cd7 4 = .ok (.lreturn, 1) := by decide +kernel
def Q_hio (Z : State) (bl : Addr) (h0 : Heap) (n0 : Nat) (v : Option Value) (h : Heap) (L : List Loc) : Prop := v = some (.long (-9223372036854775808 : Int64)) ∧ Fr n0 L ∧ h = h0
set_option maxRecDepth 65536 in
set_option maxHeartbeats 40000000 in
theorem rm_hio (l : Launch) (Z : State) (a0 : Array Value) (hw : hwT Z a0) (ws : List Jvm.Cond) (bl : Addr) (h0 : Heap) (n0 : Nat) (Z0 : n0 ≤ h0.size) (P0_ : xF5 Z h0 bl (.long (-9223372036854775808 : Int64))) :
  oMF l Z mn7 (Jvm.Cond.code mn7 prog_1_method_5_code 1 (some .long)) ws (rO 0 0 0 0) #[(.ref bl)] h0 (Q_hio Z bl h0 n0) := by
 refine MetFree.of_bodySF (plainFor_of_name pn_bi) hisR ?_
 intro p e s m args below meth c s₁ Bd hml0 hP hK
 obtain ⟨rfl, hZ, hh⟩ := hP
 have hx := Bd.exec
 have hby := Bd.bytes
 have B : ∀ {pc r}, decode cd7 pc = r → decode c.code pc = r := fun h => hb hby h
 have hml : c.maxLocals = 1 := hml0
 have hown : s.vm.findClass sg4 = some m.cls := findClass_of_methodNamed Bd.named
 have hnm := (name_of_methodNamed Bd.named Bd.method).1
 have X0 : Stand p l e (rO 0 0 0 0) s m #[(.ref bl)] below meth c s₁ [] 0 0 := Stand.of_body Bd
 have e0 : s₁.heap = h0 := by rw [← hh, Bd.state]; rfl
 have N0 := Fr.nil n0
 refine own_in ?_
 refine own_go (S' := s₁.setTop (mkF m 0 #[zr bl] [])) (fun tgt_ stp_ => castTop (ef_bi m bl) stp_) ?_
 obtain ⟨T_1, X_1, e_1, st_1⟩ := getF X0 hx hZ hown (oV hw 45 rfl) Via.refl e0 P0_ (g := (mkF m 1 #[zr bl] [(.ref bl)])) rfl rfl (B d7_1)
 refine own_go (S' := T_1.setTop (mkF m 4 #[zr bl] [(.long (-9223372036854775808 : Int64))])) (fun target kt => ?_) ?_
 ·
  show oSt p e below s₁ m 0 #[zr bl] [] target
  refine XS.aloadN X0.here hx rfl (B d7_0) rfl rfl ?_
  refine st_1 _ ?_
  exact kt
 obtain ⟨fs, hr, hrun, hended, hW, hsame⟩ := X_1.leave (v := some (.long (-9223372036854775808 : Int64))) (fun h => by rw [Bd.returns] at h; cases h)
 refine ⟨_, _, Jvm.Stand.lreturnOut X_1 hx Bd.returns (B d7_4) hr, hrun, hended, _, _, rfl, ?_, ⟨_, rfl⟩, hW, hsame.mono (by decide) (by decide)⟩
 show Q_hio Z bl h0 n0 _ T_1.heap _
 rw [e_1]
 exact ⟨rfl, N0, rfl⟩
-- java/util/Arrays.fill:([Ljava/lang/Object;Ljava/lang/Object;)V
theorem d8_0 : decode cd8 0 = .ok (.iconst 0, 1) := by decide +kernel
theorem d8_1 : decode cd8 1 = .ok (.istore_n 2, 1) := by decide +kernel
theorem d8_2 : decode cd8 2 = .ok (.aload_n 0, 1) := by decide +kernel
theorem d8_3 : decode cd8 3 = .ok (.arraylength, 1) := by decide +kernel
theorem d8_4 : decode cd8 4 = .ok (.istore_n 3, 1) := by decide +kernel
theorem d8_5 : decode cd8 5 = .ok (.iload_n 2, 1) := by decide +kernel
theorem d8_6 : decode cd8 6 = .ok (.iload_n 3, 1) := by decide +kernel
theorem d8_7 : decode cd8 7 = .ok (.if_icmp .ge 13, 3) := by decide +kernel
theorem d8_10 : decode cd8 10 = .ok (.aload_n 0, 1) := by decide +kernel
theorem d8_11 : decode cd8 11 = .ok (.iload_n 2, 1) := by decide +kernel
theorem d8_12 : decode cd8 12 = .ok (.aload_n 1, 1) := by decide +kernel
theorem d8_13 : decode cd8 13 = .ok (.aastore, 1) := by decide +kernel
theorem d8_14 : decode cd8 14 = .ok (.iinc 2 1, 3) := by decide +kernel
theorem d8_17 : decode cd8 17 = .ok (.goto (-12), 3) := by decide +kernel
theorem d8_20 : decode cd8 20 = .ok (.return_, 1) := by decide +kernel
theorem pn_afill : plainName "java/util/Arrays" = true := by first | (simp [plainName, overriddenIn]; done) | decide +kernel
theorem ef_afill (m : MethodId) (fg : Addr) : entryFrame m #[(.ref fg), .null] 4 = mkF m 0 #[.val (.ref fg), .val .null, .unset, .unset] [] := by first | (simp [entryFrame, mkF, argsToLocals, Value.category]; done) | rfl
def Q_afill (Z : State) (fg : Addr) (kkg : ClassId) (v0 v1 : Value) (h0 : Heap) (n0 : Nat) (v : Option Value) (h : Heap) (L : List Loc) : Prop := v = none ∧ Fr n0 L ∧ Keep h0 h [fg] ∧ aN Z h fg kkg .null .null
set_option maxRecDepth 65536 in
set_option maxHeartbeats 40000000 in
theorem rm_afill (l : Launch) (Z : State) (a0 : Array Value) (hw : hwT Z a0) (ws : List Jvm.Cond) (fg : Addr) (kkg : ClassId) (v0 v1 : Value) (h0 : Heap) (n0 : Nat) (Z0 : n0 ≤ h0.size) (P0_ : aN Z h0 fg kkg v0 v1) (g_fg : n0 ≤ fg) :
  oMF l Z mn8 (Jvm.Cond.code mn8 jdk_65_method_117_code 4 none) ws (rO 0 0 0 0) #[(.ref fg), .null] h0 (Q_afill Z fg kkg v0 v1 h0 n0) := by
 refine MetFree.of_bodySF (plainFor_of_name pn_afill) hisR ?_
 intro p e s m args below meth c s₁ Bd hml0 hP hK
 obtain ⟨rfl, hZ, hh⟩ := hP
 have hx := Bd.exec
 have hby := Bd.bytes
 have B : ∀ {pc r}, decode cd8 pc = r → decode c.code pc = r := fun h => hb hby h
 have hml : c.maxLocals = 4 := hml0
 have hown : s.vm.findClass "java/util/Arrays" = some m.cls := findClass_of_methodNamed Bd.named
 have hnm := (name_of_methodNamed Bd.named Bd.method).1
 have X0 : Stand p l e (rO 0 0 0 0) s m #[(.ref fg), .null] below meth c s₁ [] 0 0 := Stand.of_body Bd
 have e0 : s₁.heap = h0 := by rw [← hh, Bd.state]; rfl
 have N0 := Fr.nil n0
 refine own_in ?_
 refine own_go (S' := s₁.setTop (mkF m 0 #[zr fg, zn, zu, zu] [])) (fun tgt_ stp_ => castTop (ef_afill m fg) stp_) ?_
 have K0 : Keep h0 h0 [fg] := Keep.refl h0 _
 obtain ⟨c_1, Ar_1, -, S_1, M_1, -, -⟩ := id P0_
 obtain ⟨c_2, Ar_2, q_2, S_2, M_2, Hs_2, G_2⟩ := id P0_
 have hin_2 : ¬ ((0 : Int32) < 0 ∨ c_2.slots.size ≤ ((0 : Int32)).toNatClampNeg) := inb_of S_2 ⟨by decide, by decide⟩
 obtain ⟨T_2, h_2, X_2, e_2, W_2, st_2⟩ := stR X0 hx hZ e0 Ar_2 (j := (0 : Int32)) hin_2 rfl (Or.inl rfl) (g := (mkF m 13 #[zr fg, zn, zi 0, zi 11] [.null, (.int (0 : Int32)), (.ref fg)])) rfl rfl (B d8_13)
 obtain ⟨Lg_2, XG_2, N_2⟩ := own_gen X_2 (Fr.snoc X_2 N0 g_fg)
 have V_2 : aN Z h_2 fg kkg .null v1 := Arv.set Ar_2 q_2 S_2 M_2 Hs_2 G_2 rfl W_2 0 rfl (Nat.le_of_ble_eq_true rfl)
 have Z_3 := Nat.le_trans Z0 (Keep.of_wr W_2).1
 have K_4 : Keep h0 h_2 [fg] := K0.wr W_2 (oK 0 rfl)
 obtain ⟨c_5, Ar_5, q_5, S_5, M_5, Hs_5, G_5⟩ := id V_2
 have hin_5 : ¬ ((1 : Int32) < 0 ∨ c_5.slots.size ≤ ((1 : Int32)).toNatClampNeg) := inb_of S_5 ⟨by decide, by decide⟩
 obtain ⟨T_5, h_5, X_5, e_5, W_5, st_5⟩ := stR XG_2 hx hZ e_2 Ar_5 (j := (1 : Int32)) hin_5 rfl (Or.inl rfl) (g := (mkF m 13 #[zr fg, zn, zi 1, zi 11] [.null, (.int (1 : Int32)), (.ref fg)])) rfl rfl (B d8_13)
 obtain ⟨Lg_5, XG_5, N_5⟩ := own_gen X_5 (Fr.snoc X_5 N_2 g_fg)
 have V_5 : aN Z h_5 fg kkg .null .null := Arv.set Ar_5 q_5 S_5 M_5 Hs_5 G_5 rfl W_5 1 rfl (Nat.le_of_ble_eq_true rfl)
 have Z_6 := Nat.le_trans Z_3 (Keep.of_wr W_5).1
 have K_7 : Keep h0 h_5 [fg] := K_4.wr W_5 (oK 0 rfl)
 obtain ⟨c_8, Ar_8, q_8, S_8, M_8, Hs_8, G_8⟩ := id V_5
 have hin_8 : ¬ ((2 : Int32) < 0 ∨ c_8.slots.size ≤ ((2 : Int32)).toNatClampNeg) := inb_of S_8 ⟨by decide, by decide⟩
 obtain ⟨T_8, h_8, X_8, e_8, W_8, st_8⟩ := stR XG_5 hx hZ e_5 Ar_8 (j := (2 : Int32)) hin_8 rfl (Or.inl rfl) (g := (mkF m 13 #[zr fg, zn, zi 2, zi 11] [.null, (.int (2 : Int32)), (.ref fg)])) rfl rfl (B d8_13)
 obtain ⟨Lg_8, XG_8, N_8⟩ := own_gen X_8 (Fr.snoc X_8 N_5 g_fg)
 have V_8 : aN Z h_8 fg kkg .null .null := Arv.set Ar_8 q_8 S_8 M_8 Hs_8 G_8 rfl W_8 2 rfl (Nat.le_of_ble_eq_true rfl)
 have Z_9 := Nat.le_trans Z_6 (Keep.of_wr W_8).1
 have K_10 : Keep h0 h_8 [fg] := K_7.wr W_8 (oK 0 rfl)
 obtain ⟨c_11, Ar_11, q_11, S_11, M_11, Hs_11, G_11⟩ := id V_8
 have hin_11 : ¬ ((3 : Int32) < 0 ∨ c_11.slots.size ≤ ((3 : Int32)).toNatClampNeg) := inb_of S_11 ⟨by decide, by decide⟩
 obtain ⟨T_11, h_11, X_11, e_11, W_11, st_11⟩ := stR XG_8 hx hZ e_8 Ar_11 (j := (3 : Int32)) hin_11 rfl (Or.inl rfl) (g := (mkF m 13 #[zr fg, zn, zi 3, zi 11] [.null, (.int (3 : Int32)), (.ref fg)])) rfl rfl (B d8_13)
 obtain ⟨Lg_11, XG_11, N_11⟩ := own_gen X_11 (Fr.snoc X_11 N_8 g_fg)
 have V_11 : aN Z h_11 fg kkg .null .null := Arv.set Ar_11 q_11 S_11 M_11 Hs_11 G_11 rfl W_11 3 rfl (Nat.le_of_ble_eq_true rfl)
 have Z_12 := Nat.le_trans Z_9 (Keep.of_wr W_11).1
 have K_13 : Keep h0 h_11 [fg] := K_10.wr W_11 (oK 0 rfl)
 obtain ⟨c_14, Ar_14, q_14, S_14, M_14, Hs_14, G_14⟩ := id V_11
 have hin_14 : ¬ ((4 : Int32) < 0 ∨ c_14.slots.size ≤ ((4 : Int32)).toNatClampNeg) := inb_of S_14 ⟨by decide, by decide⟩
 obtain ⟨T_14, h_14, X_14, e_14, W_14, st_14⟩ := stR XG_11 hx hZ e_11 Ar_14 (j := (4 : Int32)) hin_14 rfl (Or.inl rfl) (g := (mkF m 13 #[zr fg, zn, zi 4, zi 11] [.null, (.int (4 : Int32)), (.ref fg)])) rfl rfl (B d8_13)
 obtain ⟨Lg_14, XG_14, N_14⟩ := own_gen X_14 (Fr.snoc X_14 N_11 g_fg)
 have V_14 : aN Z h_14 fg kkg .null .null := Arv.set Ar_14 q_14 S_14 M_14 Hs_14 G_14 rfl W_14 4 rfl (Nat.le_of_ble_eq_true rfl)
 have Z_15 := Nat.le_trans Z_12 (Keep.of_wr W_14).1
 have K_16 : Keep h0 h_14 [fg] := K_13.wr W_14 (oK 0 rfl)
 obtain ⟨c_17, Ar_17, q_17, S_17, M_17, Hs_17, G_17⟩ := id V_14
 have hin_17 : ¬ ((5 : Int32) < 0 ∨ c_17.slots.size ≤ ((5 : Int32)).toNatClampNeg) := inb_of S_17 ⟨by decide, by decide⟩
 obtain ⟨T_17, h_17, X_17, e_17, W_17, st_17⟩ := stR XG_14 hx hZ e_14 Ar_17 (j := (5 : Int32)) hin_17 rfl (Or.inl rfl) (g := (mkF m 13 #[zr fg, zn, zi 5, zi 11] [.null, (.int (5 : Int32)), (.ref fg)])) rfl rfl (B d8_13)
 obtain ⟨Lg_17, XG_17, N_17⟩ := own_gen X_17 (Fr.snoc X_17 N_14 g_fg)
 have V_17 : aN Z h_17 fg kkg .null .null := Arv.set Ar_17 q_17 S_17 M_17 Hs_17 G_17 rfl W_17 5 rfl (Nat.le_of_ble_eq_true rfl)
 have Z_18 := Nat.le_trans Z_15 (Keep.of_wr W_17).1
 have K_19 : Keep h0 h_17 [fg] := K_16.wr W_17 (oK 0 rfl)
 obtain ⟨c_20, Ar_20, q_20, S_20, M_20, Hs_20, G_20⟩ := id V_17
 have hin_20 : ¬ ((6 : Int32) < 0 ∨ c_20.slots.size ≤ ((6 : Int32)).toNatClampNeg) := inb_of S_20 ⟨by decide, by decide⟩
 obtain ⟨T_20, h_20, X_20, e_20, W_20, st_20⟩ := stR XG_17 hx hZ e_17 Ar_20 (j := (6 : Int32)) hin_20 rfl (Or.inl rfl) (g := (mkF m 13 #[zr fg, zn, zi 6, zi 11] [.null, (.int (6 : Int32)), (.ref fg)])) rfl rfl (B d8_13)
 obtain ⟨Lg_20, XG_20, N_20⟩ := own_gen X_20 (Fr.snoc X_20 N_17 g_fg)
 have V_20 : aN Z h_20 fg kkg .null .null := Arv.set Ar_20 q_20 S_20 M_20 Hs_20 G_20 rfl W_20 6 rfl (Nat.le_of_ble_eq_true rfl)
 have Z_21 := Nat.le_trans Z_18 (Keep.of_wr W_20).1
 have K_22 : Keep h0 h_20 [fg] := K_19.wr W_20 (oK 0 rfl)
 obtain ⟨c_23, Ar_23, q_23, S_23, M_23, Hs_23, G_23⟩ := id V_20
 have hin_23 : ¬ ((7 : Int32) < 0 ∨ c_23.slots.size ≤ ((7 : Int32)).toNatClampNeg) := inb_of S_23 ⟨by decide, by decide⟩
 obtain ⟨T_23, h_23, X_23, e_23, W_23, st_23⟩ := stR XG_20 hx hZ e_20 Ar_23 (j := (7 : Int32)) hin_23 rfl (Or.inl rfl) (g := (mkF m 13 #[zr fg, zn, zi 7, zi 11] [.null, (.int (7 : Int32)), (.ref fg)])) rfl rfl (B d8_13)
 obtain ⟨Lg_23, XG_23, N_23⟩ := own_gen X_23 (Fr.snoc X_23 N_20 g_fg)
 have V_23 : aN Z h_23 fg kkg .null .null := Arv.set Ar_23 q_23 S_23 M_23 Hs_23 G_23 rfl W_23 7 rfl (Nat.le_of_ble_eq_true rfl)
 have Z_24 := Nat.le_trans Z_21 (Keep.of_wr W_23).1
 have K_25 : Keep h0 h_23 [fg] := K_22.wr W_23 (oK 0 rfl)
 obtain ⟨c_26, Ar_26, q_26, S_26, M_26, Hs_26, G_26⟩ := id V_23
 have hin_26 : ¬ ((8 : Int32) < 0 ∨ c_26.slots.size ≤ ((8 : Int32)).toNatClampNeg) := inb_of S_26 ⟨by decide, by decide⟩
 obtain ⟨T_26, h_26, X_26, e_26, W_26, st_26⟩ := stR XG_23 hx hZ e_23 Ar_26 (j := (8 : Int32)) hin_26 rfl (Or.inl rfl) (g := (mkF m 13 #[zr fg, zn, zi 8, zi 11] [.null, (.int (8 : Int32)), (.ref fg)])) rfl rfl (B d8_13)
 obtain ⟨Lg_26, XG_26, N_26⟩ := own_gen X_26 (Fr.snoc X_26 N_23 g_fg)
 have V_26 : aN Z h_26 fg kkg .null .null := Arv.set Ar_26 q_26 S_26 M_26 Hs_26 G_26 rfl W_26 8 rfl (Nat.le_of_ble_eq_true rfl)
 have Z_27 := Nat.le_trans Z_24 (Keep.of_wr W_26).1
 have K_28 : Keep h0 h_26 [fg] := K_25.wr W_26 (oK 0 rfl)
 obtain ⟨c_29, Ar_29, q_29, S_29, M_29, Hs_29, G_29⟩ := id V_26
 have hin_29 : ¬ ((9 : Int32) < 0 ∨ c_29.slots.size ≤ ((9 : Int32)).toNatClampNeg) := inb_of S_29 ⟨by decide, by decide⟩
 obtain ⟨T_29, h_29, X_29, e_29, W_29, st_29⟩ := stR XG_26 hx hZ e_26 Ar_29 (j := (9 : Int32)) hin_29 rfl (Or.inl rfl) (g := (mkF m 13 #[zr fg, zn, zi 9, zi 11] [.null, (.int (9 : Int32)), (.ref fg)])) rfl rfl (B d8_13)
 obtain ⟨Lg_29, XG_29, N_29⟩ := own_gen X_29 (Fr.snoc X_29 N_26 g_fg)
 have V_29 : aN Z h_29 fg kkg .null .null := Arv.set Ar_29 q_29 S_29 M_29 Hs_29 G_29 rfl W_29 9 rfl (Nat.le_of_ble_eq_true rfl)
 have Z_30 := Nat.le_trans Z_27 (Keep.of_wr W_29).1
 have K_31 : Keep h0 h_29 [fg] := K_28.wr W_29 (oK 0 rfl)
 obtain ⟨c_32, Ar_32, q_32, S_32, M_32, Hs_32, G_32⟩ := id V_29
 have hin_32 : ¬ ((10 : Int32) < 0 ∨ c_32.slots.size ≤ ((10 : Int32)).toNatClampNeg) := inb_of S_32 ⟨by decide, by decide⟩
 obtain ⟨T_32, h_32, X_32, e_32, W_32, st_32⟩ := stR XG_29 hx hZ e_29 Ar_32 (j := (10 : Int32)) hin_32 rfl (Or.inl rfl) (g := (mkF m 13 #[zr fg, zn, zi 10, zi 11] [.null, (.int (10 : Int32)), (.ref fg)])) rfl rfl (B d8_13)
 obtain ⟨Lg_32, XG_32, N_32⟩ := own_gen X_32 (Fr.snoc X_32 N_29 g_fg)
 have V_32 : aN Z h_32 fg kkg .null .null := Arv.set Ar_32 q_32 S_32 M_32 Hs_32 G_32 rfl W_32 10 rfl (Nat.le_of_ble_eq_true rfl)
 have Z_33 := Nat.le_trans Z_30 (Keep.of_wr W_32).1
 have K_34 : Keep h0 h_32 [fg] := K_31.wr W_32 (oK 0 rfl)
 refine own_go (S' := T_32.setTop (mkF m 20 #[zr fg, zn, zi 11, zi 11] [])) (fun target kt => ?_) ?_
 ·
  show oSt p e below s₁ m 0 #[zr fg, zn, zu, zu] [] target
  refine XS.iconst X0.here hx rfl (B d8_0) ?_
  refine XS.istoreN X0.here hx rfl (B d8_1) rfl (l' := #[zr fg, zn, zi 0, zu]) rfl ?_
  refine XS.aloadN X0.here hx rfl (B d8_2) rfl rfl ?_
  refine X0.arraylength hx (by rw [e0]; exact Ar_1.1) (State.isArrayOf_alike hZ.alike Ar_1.2.1) (g := (mkF m 3 #[zr fg, zn, zi 0, zu] [(.ref fg)])) rfl rfl (B d8_3) _ ?_
  rw [len_of S_1 M_1]
  show oSt p e below s₁ m 4 #[zr fg, zn, zi 0, zu] [(.int (11 : Int32))] target
  refine XS.istoreN X0.here hx rfl (B d8_4) rfl (l' := #[zr fg, zn, zi 0, zi 11]) rfl ?_
  refine XS.iloadN X0.here hx rfl (B d8_5) rfl ?_
  refine XS.iloadN X0.here hx rfl (B d8_6) rfl ?_
  refine XS.icmpNo X0.here hx rfl (B d8_7) rfl (tlt (by decide : (0 : Int32) < (11 : Int32))).2.1 ?_
  refine XS.aloadN X0.here hx rfl (B d8_10) rfl rfl ?_
  refine XS.iloadN X0.here hx rfl (B d8_11) rfl ?_
  refine XS.aloadN X0.here hx rfl (B d8_12) rfl rfl ?_
  refine st_2 _ ?_
  refine XS.iinc XG_2.here hx rfl (B d8_14) rfl (l' := #[zr fg, zn, .val (.int ((0 : Int32) + (1 : Int32))), zi 11]) rfl ?_
  show oSt p e below T_2 m 17 #[zr fg, zn, .val (.int ((0 : Int32) + (1 : Int32))), zi 11] [] target
  rw [show (0 : Int32) + (1 : Int32) = (1 : Int32) from by decide]
  show oSt p e below T_2 m 17 #[zr fg, zn, zi 1, zi 11] [] target
  refine XS.goto XG_2.here hx rfl (pc0 := 17) (pc' := 5) rfl (B d8_17) (by decide) (by decide) ?_
  refine XS.iloadN XG_2.here hx rfl (B d8_5) rfl ?_
  refine XS.iloadN XG_2.here hx rfl (B d8_6) rfl ?_
  refine XS.icmpNo XG_2.here hx rfl (B d8_7) rfl (tlt (by decide : (1 : Int32) < (11 : Int32))).2.1 ?_
  refine XS.aloadN XG_2.here hx rfl (B d8_10) rfl rfl ?_
  refine XS.iloadN XG_2.here hx rfl (B d8_11) rfl ?_
  refine XS.aloadN XG_2.here hx rfl (B d8_12) rfl rfl ?_
  refine st_5 _ ?_
  refine XS.iinc XG_5.here hx rfl (B d8_14) rfl (l' := #[zr fg, zn, .val (.int ((1 : Int32) + (1 : Int32))), zi 11]) rfl ?_
  show oSt p e below T_5 m 17 #[zr fg, zn, .val (.int ((1 : Int32) + (1 : Int32))), zi 11] [] target
  rw [show (1 : Int32) + (1 : Int32) = (2 : Int32) from by decide]
  show oSt p e below T_5 m 17 #[zr fg, zn, zi 2, zi 11] [] target
  refine XS.goto XG_5.here hx rfl (pc0 := 17) (pc' := 5) rfl (B d8_17) (by decide) (by decide) ?_
  refine XS.iloadN XG_5.here hx rfl (B d8_5) rfl ?_
  refine XS.iloadN XG_5.here hx rfl (B d8_6) rfl ?_
  refine XS.icmpNo XG_5.here hx rfl (B d8_7) rfl (tlt (by decide : (2 : Int32) < (11 : Int32))).2.1 ?_
  refine XS.aloadN XG_5.here hx rfl (B d8_10) rfl rfl ?_
  refine XS.iloadN XG_5.here hx rfl (B d8_11) rfl ?_
  refine XS.aloadN XG_5.here hx rfl (B d8_12) rfl rfl ?_
  refine st_8 _ ?_
  refine XS.iinc XG_8.here hx rfl (B d8_14) rfl (l' := #[zr fg, zn, .val (.int ((2 : Int32) + (1 : Int32))), zi 11]) rfl ?_
  show oSt p e below T_8 m 17 #[zr fg, zn, .val (.int ((2 : Int32) + (1 : Int32))), zi 11] [] target
  rw [show (2 : Int32) + (1 : Int32) = (3 : Int32) from by decide]
  show oSt p e below T_8 m 17 #[zr fg, zn, zi 3, zi 11] [] target
  refine XS.goto XG_8.here hx rfl (pc0 := 17) (pc' := 5) rfl (B d8_17) (by decide) (by decide) ?_
  refine XS.iloadN XG_8.here hx rfl (B d8_5) rfl ?_
  refine XS.iloadN XG_8.here hx rfl (B d8_6) rfl ?_
  refine XS.icmpNo XG_8.here hx rfl (B d8_7) rfl (tlt (by decide : (3 : Int32) < (11 : Int32))).2.1 ?_
  refine XS.aloadN XG_8.here hx rfl (B d8_10) rfl rfl ?_
  refine XS.iloadN XG_8.here hx rfl (B d8_11) rfl ?_
  refine XS.aloadN XG_8.here hx rfl (B d8_12) rfl rfl ?_
  refine st_11 _ ?_
  refine XS.iinc XG_11.here hx rfl (B d8_14) rfl (l' := #[zr fg, zn, .val (.int ((3 : Int32) + (1 : Int32))), zi 11]) rfl ?_
  show oSt p e below T_11 m 17 #[zr fg, zn, .val (.int ((3 : Int32) + (1 : Int32))), zi 11] [] target
  rw [show (3 : Int32) + (1 : Int32) = (4 : Int32) from by decide]
  show oSt p e below T_11 m 17 #[zr fg, zn, zi 4, zi 11] [] target
  refine XS.goto XG_11.here hx rfl (pc0 := 17) (pc' := 5) rfl (B d8_17) (by decide) (by decide) ?_
  refine XS.iloadN XG_11.here hx rfl (B d8_5) rfl ?_
  refine XS.iloadN XG_11.here hx rfl (B d8_6) rfl ?_
  refine XS.icmpNo XG_11.here hx rfl (B d8_7) rfl (tlt (by decide : (4 : Int32) < (11 : Int32))).2.1 ?_
  refine XS.aloadN XG_11.here hx rfl (B d8_10) rfl rfl ?_
  refine XS.iloadN XG_11.here hx rfl (B d8_11) rfl ?_
  refine XS.aloadN XG_11.here hx rfl (B d8_12) rfl rfl ?_
  refine st_14 _ ?_
  refine XS.iinc XG_14.here hx rfl (B d8_14) rfl (l' := #[zr fg, zn, .val (.int ((4 : Int32) + (1 : Int32))), zi 11]) rfl ?_
  show oSt p e below T_14 m 17 #[zr fg, zn, .val (.int ((4 : Int32) + (1 : Int32))), zi 11] [] target
  rw [show (4 : Int32) + (1 : Int32) = (5 : Int32) from by decide]
  show oSt p e below T_14 m 17 #[zr fg, zn, zi 5, zi 11] [] target
  refine XS.goto XG_14.here hx rfl (pc0 := 17) (pc' := 5) rfl (B d8_17) (by decide) (by decide) ?_
  refine XS.iloadN XG_14.here hx rfl (B d8_5) rfl ?_
  refine XS.iloadN XG_14.here hx rfl (B d8_6) rfl ?_
  refine XS.icmpNo XG_14.here hx rfl (B d8_7) rfl (tlt (by decide : (5 : Int32) < (11 : Int32))).2.1 ?_
  refine XS.aloadN XG_14.here hx rfl (B d8_10) rfl rfl ?_
  refine XS.iloadN XG_14.here hx rfl (B d8_11) rfl ?_
  refine XS.aloadN XG_14.here hx rfl (B d8_12) rfl rfl ?_
  refine st_17 _ ?_
  refine XS.iinc XG_17.here hx rfl (B d8_14) rfl (l' := #[zr fg, zn, .val (.int ((5 : Int32) + (1 : Int32))), zi 11]) rfl ?_
  show oSt p e below T_17 m 17 #[zr fg, zn, .val (.int ((5 : Int32) + (1 : Int32))), zi 11] [] target
  rw [show (5 : Int32) + (1 : Int32) = (6 : Int32) from by decide]
  show oSt p e below T_17 m 17 #[zr fg, zn, zi 6, zi 11] [] target
  refine XS.goto XG_17.here hx rfl (pc0 := 17) (pc' := 5) rfl (B d8_17) (by decide) (by decide) ?_
  refine XS.iloadN XG_17.here hx rfl (B d8_5) rfl ?_
  refine XS.iloadN XG_17.here hx rfl (B d8_6) rfl ?_
  refine XS.icmpNo XG_17.here hx rfl (B d8_7) rfl (tlt (by decide : (6 : Int32) < (11 : Int32))).2.1 ?_
  refine XS.aloadN XG_17.here hx rfl (B d8_10) rfl rfl ?_
  refine XS.iloadN XG_17.here hx rfl (B d8_11) rfl ?_
  refine XS.aloadN XG_17.here hx rfl (B d8_12) rfl rfl ?_
  refine st_20 _ ?_
  refine XS.iinc XG_20.here hx rfl (B d8_14) rfl (l' := #[zr fg, zn, .val (.int ((6 : Int32) + (1 : Int32))), zi 11]) rfl ?_
  show oSt p e below T_20 m 17 #[zr fg, zn, .val (.int ((6 : Int32) + (1 : Int32))), zi 11] [] target
  rw [show (6 : Int32) + (1 : Int32) = (7 : Int32) from by decide]
  show oSt p e below T_20 m 17 #[zr fg, zn, zi 7, zi 11] [] target
  refine XS.goto XG_20.here hx rfl (pc0 := 17) (pc' := 5) rfl (B d8_17) (by decide) (by decide) ?_
  refine XS.iloadN XG_20.here hx rfl (B d8_5) rfl ?_
  refine XS.iloadN XG_20.here hx rfl (B d8_6) rfl ?_
  refine XS.icmpNo XG_20.here hx rfl (B d8_7) rfl (tlt (by decide : (7 : Int32) < (11 : Int32))).2.1 ?_
  refine XS.aloadN XG_20.here hx rfl (B d8_10) rfl rfl ?_
  refine XS.iloadN XG_20.here hx rfl (B d8_11) rfl ?_
  refine XS.aloadN XG_20.here hx rfl (B d8_12) rfl rfl ?_
  refine st_23 _ ?_
  refine XS.iinc XG_23.here hx rfl (B d8_14) rfl (l' := #[zr fg, zn, .val (.int ((7 : Int32) + (1 : Int32))), zi 11]) rfl ?_
  show oSt p e below T_23 m 17 #[zr fg, zn, .val (.int ((7 : Int32) + (1 : Int32))), zi 11] [] target
  rw [show (7 : Int32) + (1 : Int32) = (8 : Int32) from by decide]
  show oSt p e below T_23 m 17 #[zr fg, zn, zi 8, zi 11] [] target
  refine XS.goto XG_23.here hx rfl (pc0 := 17) (pc' := 5) rfl (B d8_17) (by decide) (by decide) ?_
  refine XS.iloadN XG_23.here hx rfl (B d8_5) rfl ?_
  refine XS.iloadN XG_23.here hx rfl (B d8_6) rfl ?_
  refine XS.icmpNo XG_23.here hx rfl (B d8_7) rfl (tlt (by decide : (8 : Int32) < (11 : Int32))).2.1 ?_
  refine XS.aloadN XG_23.here hx rfl (B d8_10) rfl rfl ?_
  refine XS.iloadN XG_23.here hx rfl (B d8_11) rfl ?_
  refine XS.aloadN XG_23.here hx rfl (B d8_12) rfl rfl ?_
  refine st_26 _ ?_
  refine XS.iinc XG_26.here hx rfl (B d8_14) rfl (l' := #[zr fg, zn, .val (.int ((8 : Int32) + (1 : Int32))), zi 11]) rfl ?_
  show oSt p e below T_26 m 17 #[zr fg, zn, .val (.int ((8 : Int32) + (1 : Int32))), zi 11] [] target
  rw [show (8 : Int32) + (1 : Int32) = (9 : Int32) from by decide]
  show oSt p e below T_26 m 17 #[zr fg, zn, zi 9, zi 11] [] target
  refine XS.goto XG_26.here hx rfl (pc0 := 17) (pc' := 5) rfl (B d8_17) (by decide) (by decide) ?_
  refine XS.iloadN XG_26.here hx rfl (B d8_5) rfl ?_
  refine XS.iloadN XG_26.here hx rfl (B d8_6) rfl ?_
  refine XS.icmpNo XG_26.here hx rfl (B d8_7) rfl (tlt (by decide : (9 : Int32) < (11 : Int32))).2.1 ?_
  refine XS.aloadN XG_26.here hx rfl (B d8_10) rfl rfl ?_
  refine XS.iloadN XG_26.here hx rfl (B d8_11) rfl ?_
  refine XS.aloadN XG_26.here hx rfl (B d8_12) rfl rfl ?_
  refine st_29 _ ?_
  refine XS.iinc XG_29.here hx rfl (B d8_14) rfl (l' := #[zr fg, zn, .val (.int ((9 : Int32) + (1 : Int32))), zi 11]) rfl ?_
  show oSt p e below T_29 m 17 #[zr fg, zn, .val (.int ((9 : Int32) + (1 : Int32))), zi 11] [] target
  rw [show (9 : Int32) + (1 : Int32) = (10 : Int32) from by decide]
  show oSt p e below T_29 m 17 #[zr fg, zn, zi 10, zi 11] [] target
  refine XS.goto XG_29.here hx rfl (pc0 := 17) (pc' := 5) rfl (B d8_17) (by decide) (by decide) ?_
  refine XS.iloadN XG_29.here hx rfl (B d8_5) rfl ?_
  refine XS.iloadN XG_29.here hx rfl (B d8_6) rfl ?_
  refine XS.icmpNo XG_29.here hx rfl (B d8_7) rfl (tlt (by decide : (10 : Int32) < (11 : Int32))).2.1 ?_
  refine XS.aloadN XG_29.here hx rfl (B d8_10) rfl rfl ?_
  refine XS.iloadN XG_29.here hx rfl (B d8_11) rfl ?_
  refine XS.aloadN XG_29.here hx rfl (B d8_12) rfl rfl ?_
  refine st_32 _ ?_
  refine XS.iinc XG_32.here hx rfl (B d8_14) rfl (l' := #[zr fg, zn, .val (.int ((10 : Int32) + (1 : Int32))), zi 11]) rfl ?_
  show oSt p e below T_32 m 17 #[zr fg, zn, .val (.int ((10 : Int32) + (1 : Int32))), zi 11] [] target
  rw [show (10 : Int32) + (1 : Int32) = (11 : Int32) from by decide]
  show oSt p e below T_32 m 17 #[zr fg, zn, zi 11, zi 11] [] target
  refine XS.goto XG_32.here hx rfl (pc0 := 17) (pc' := 5) rfl (B d8_17) (by decide) (by decide) ?_
  refine XS.iloadN XG_32.here hx rfl (B d8_5) rfl ?_
  refine XS.iloadN XG_32.here hx rfl (B d8_6) rfl ?_
  refine XS.icmpYes XG_32.here hx rfl (pc0 := 7) (pc' := 20) rfl (B d8_7) rfl (flt (by decide : ¬ ((11 : Int32) < (11 : Int32)))).2.1 (by decide) (by decide) ?_
  exact kt
 obtain ⟨fs, hr, hrun, hended, hW, hsame⟩ := XG_32.leave (v := none) (fun _ => rfl)
 refine ⟨_, _, XG_32.returnOut hx Bd.returns (B d8_20) hr, hrun, hended, _, _, rfl, ?_, ⟨_, rfl⟩, hW, hsame.mono (by decide) (by decide)⟩
 show Q_afill Z fg kkg v0 v1 h0 n0 _ T_32.heap _
 rw [e_32]
 exact ⟨rfl, N_32, K_34, V_32⟩
-- com/example/carillon/carillon/Chain.clearFinger:()V
theorem d9_0 : decode cd9 0 = .ok (.aload_n 0, 1) := by decide +kernel
theorem d9_1 : decode cd9 1 = .ok (.aconst_null, 1) := by decide +kernel
theorem d9_2 : decode cd9 2 = .ok (.putfield 135, 3) := by decide +kernel
theorem d9_5 : decode cd9 5 = .ok (.aload_n 0, 1) := by decide +kernel
theorem d9_6 : decode cd9 6 = .ok (.getfield 31, 3) := by decide +kernel
theorem d9_9 : decode cd9 9 = .ok (.aconst_null, 1) := by decide +kernel
theorem d9_10 : decode cd9 10 = .ok (.invokestatic 146, 3) := by decide +kernel
theorem d9_13 : decode cd9 13 = .ok (.return_, 1) := by decide +kernel
theorem ef_clf (m : MethodId) (ch : Addr) : entryFrame m #[(.ref ch)] 1 = mkF m 0 #[.val (.ref ch)] [] := by first | (simp [entryFrame, mkF, argsToLocals, Value.category]; done) | rfl
def Q_clf (Z : State) (ch fn ln bl fg : Addr) (kkg : ClassId) (spc : Int32) (ldr : Int64) (hv tv spv fev v0 v1 : Value) (h0 : Heap) (n0 : Nat) (v : Option Value) (h : Heap) (L : List Loc) : Prop := v = none ∧ Fr n0 L ∧ Keep h0 h [ch, fg] ∧ Exa Z h ch sg3 ∧ xF8 Z h ch hv ∧ xF9 Z h ch tv ∧ xF10 Z h ch (.ref fn) ∧ xF11 Z h ch (.ref ln) ∧ xF12 Z h ch (.ref bl) ∧ xF13 Z h ch spv ∧ xF14 Z h ch (.int spc) ∧ xF15 Z h ch (.long ldr) ∧ xF16 Z h ch .null ∧ xF17 Z h ch (.ref fg) ∧ aN Z h fg kkg .null .null
set_option maxRecDepth 65536 in
set_option maxHeartbeats 40000000 in
theorem rm_clf (l : Launch) (Z : State) (a0 : Array Value) (hw : hwT Z a0) (ws : List Jvm.Cond) (ch fn ln bl fg : Addr) (kkg : ClassId) (spc : Int32) (ldr : Int64) (hv tv spv fev v0 v1 : Value) (h0 : Heap) (n0 : Nat) (Z0 : n0 ≤ h0.size) (P0_ : Exa Z h0 ch sg3) (P1_ : xF8 Z h0 ch hv) (P2_ : xF9 Z h0 ch tv) (P3_ : xF10 Z h0 ch (.ref fn)) (P4_ : xF11 Z h0 ch (.ref ln)) (P5_ : xF12 Z h0 ch (.ref bl)) (P6_ : xF13 Z h0 ch spv) (P7_ : xF14 Z h0 ch (.int spc)) (P8_ : xF15 Z h0 ch (.long ldr)) (P9_ : xF16 Z h0 ch fev) (P10_ : xF17 Z h0 ch (.ref fg)) (P11_ : aN Z h0 fg kkg v0 v1) (g_ch : n0 ≤ ch) (g_fg : n0 ≤ fg) (n_ch_fg : ch ≠ fg) :
  oMF l Z mn9 (Jvm.Cond.code mn9 prog_2_method_16_code 1 none) ws (rO 1 0 0 15) #[(.ref ch)] h0 (Q_clf Z ch fn ln bl fg kkg spc ldr hv tv spv fev v0 v1 h0 n0) := by
 refine MetFree.of_bodySF (plainFor_of_name pn_ordc) hisR ?_
 intro p e s m args below meth c s₁ Bd hml0 hP hK
 obtain ⟨rfl, hZ, hh⟩ := hP
 have hx := Bd.exec
 have hby := Bd.bytes
 have B : ∀ {pc r}, decode cd9 pc = r → decode c.code pc = r := fun h => hb hby h
 have hml : c.maxLocals = 1 := hml0
 have hown : s.vm.findClass sg3 = some m.cls := findClass_of_methodNamed Bd.named
 have hnm := (name_of_methodNamed Bd.named Bd.method).1
 have X0 : Stand p l e (rO 1 0 0 15) s m #[(.ref ch)] below meth c s₁ [] 0 0 := Stand.of_body Bd
 have e0 : s₁.heap = h0 := by rw [← hh, Bd.state]; rfl
 have N0 := Fr.nil n0
 refine own_in ?_
 refine own_go (S' := s₁.setTop (mkF m 0 #[zr ch] [])) (fun tgt_ stp_ => castTop (ef_clf m ch) stp_) ?_
 have K0 : Keep h0 h0 [ch, fg] := Keep.refl h0 _
 obtain ⟨T_1, h_1, X_1, e_1, W_1, st_1⟩ := putF X0 hx hZ hown (oV hw 73 rfl) Via.refl e0 P9_ P0_ (Or.inl (oW hw 74 rfl)) (oW hw 18 rfl) (ty := (.object sg0)) (by decide) rfl rfl (g := (mkF m 2 #[zr ch] [.null, (.ref ch)])) rfl rfl (B d9_2)
 obtain ⟨Lg_1, XG_1, N_1⟩ := own_gen X_1 (Fr.snoc X_1 N0 g_ch)
 have F_1 := P9_.same W_1
 have Z_2 := Nat.le_trans Z0 (Keep.of_wr W_1).1
 have K_3 : Keep h0 h_1 [ch, fg] := K0.wr W_1 (oK 0 rfl)
 have f_4 := (P10_.other W_1 (Or.inr (sn_12 hw)))
 obtain ⟨T_5, X_5, e_5, st_5⟩ := getF XG_1 hx hZ hown (oV hw 52 rfl) Via.refl e_1 f_4 (g := (mkF m 6 #[zr ch] [(.ref ch)])) rfl rfl (B d9_6)
 have f_7 := (P11_.other W_1 (Ne.symm n_ch_fg))
 obtain ⟨_, _, ⟨T_6, L_6, k_6, n_6⟩, -, X_6, ⟨Lc_6, hQ_6, l_6, y_6, z_6⟩, st_6⟩ := Jvm.LawKit.callS X_5 hx (y := mn8) hown (oT hZ hw 75 rfl) (oT hZ hw 76 rfl) (oT hZ hw 77 rfl) (oT hZ hw 78 rfl) (by decide) (backOf (W := 0) (rm_afill l Z a0 hw [] fg kkg v0 v1 h_1 n0 Z_2 f_7 g_fg) hZ (oW hw 78 rfl) (oW hw 77 rfl) (by decide) (by decide)) (g := (mkF m 10 #[zr ch] [.null, (.ref fg)])) rfl (by rw [hml]; rfl) (argsL := [(.ref fg), .null]) (rest := []) (lenOf pd1 rfl) rfl (oQ rfl) (B d9_10) (fun _ _ => ⟨rfl, e_5, (by decide : 0 + 0 ≤ _), (by decide : 0 + 0 ≤ _)⟩)
 dsimp only [Pt.U, Pt.locs, Pt.cells, Pt.slots] at X_6 l_6 y_6 z_6 st_6 hQ_6
 subst y_6 z_6
 obtain ⟨rfl, N_6q, p_6_0, p_6_1⟩ := hQ_6
 have N_6 : Fr n0 L_6 := by rw [l_6]; exact Fr.app N_1 N_6q
 clear l_6
 have Z_8 := Nat.le_trans Z_2 p_6_0.1
 have K_9 : Keep h0 T_6.heap [ch, fg] := K_3.trans p_6_0 fun x q => Or.inl (oM1 q 1 rfl)
 refine own_go (S' := T_6.setTop (mkF m 13 #[zr ch] [])) (fun target kt => ?_) ?_
 ·
  show oSt p e below s₁ m 0 #[zr ch] [] target
  refine XS.aloadN X0.here hx rfl (B d9_0) rfl rfl ?_
  refine XS.aconstNull X0.here hx rfl (B d9_1) ?_
  refine st_1 _ ?_
  refine XS.aloadN XG_1.here hx rfl (B d9_5) rfl rfl ?_
  refine st_5 _ ?_
  refine XS.aconstNull X_5.here hx rfl (B d9_9) ?_
  refine st_6 _ ?_
  exact kt
 obtain ⟨fs, hr, hrun, hended, hW, hsame⟩ := X_6.leave (v := none) (fun _ => rfl)
 refine ⟨_, _, X_6.returnOut hx Bd.returns (B d9_13) hr, hrun, hended, _, _, rfl, ?_, ⟨_, rfl⟩, hW, hsame.mono (by decide) (by decide)⟩
 show Q_clf Z ch fn ln bl fg kkg spc ldr hv tv spv fev v0 v1 h0 n0 _ T_6.heap _
 have f_10 := ((P0_.wr W_1).keep p_6_0)
 have f_11 := ((P1_.other W_1 (Or.inr (sn_13 hw))).keep p_6_0 (oN1 n_ch_fg oN))
 have f_12 := ((P2_.other W_1 (Or.inr (sn_14 hw))).keep p_6_0 (oN1 n_ch_fg oN))
 have f_13 := ((P3_.other W_1 (Or.inr (sn_15 hw))).keep p_6_0 (oN1 n_ch_fg oN))
 have f_14 := ((P4_.other W_1 (Or.inr (sn_16 hw))).keep p_6_0 (oN1 n_ch_fg oN))
 have f_15 := ((P5_.other W_1 (Or.inr (sn_17 hw))).keep p_6_0 (oN1 n_ch_fg oN))
 have f_16 := ((P6_.other W_1 (Or.inr (sn_18 hw))).keep p_6_0 (oN1 n_ch_fg oN))
 have f_17 := ((P7_.other W_1 (Or.inr (sn_19 hw))).keep p_6_0 (oN1 n_ch_fg oN))
 have f_18 := ((P8_.other W_1 (Or.inr (sn_20 hw))).keep p_6_0 (oN1 n_ch_fg oN))
 have f_19 := (F_1.keep p_6_0 (oN1 n_ch_fg oN))
 have f_20 := (f_4.keep p_6_0 (oN1 n_ch_fg oN))
 exact ⟨rfl, N_6, K_9, f_10, f_11, f_12, f_13, f_14, f_15, f_16, f_17, f_18, f_19, f_20, p_6_1⟩
-- com/example/carillon/carillon/Chain.placeAheadOf:(Lcom/example/carillon/carillon/Message;)Z
theorem d10_0 : decode cd10 0 = .ok (.iconst 0, 1) := by decide +kernel
theorem d10_1 : decode cd10 1 = .ok (.istore_n 2, 1) := by decide +kernel
theorem d10_2 : decode cd10 2 = .ok (.aload_n 0, 1) := by decide +kernel
theorem d10_3 : decode cd10 3 = .ok (.invokevirtual 97, 3) := by decide +kernel
theorem d10_6 : decode cd10 6 = .ok (.aload_n 0, 1) := by decide +kernel
theorem d10_7 : decode cd10 7 = .ok (.getfield 21, 3) := by decide +kernel
theorem d10_10 : decode cd10 10 = .ok (.invokevirtual 79, 3) := by decide +kernel
theorem d10_13 : decode cd10 13 = .ok (.ifCond .ne 38, 3) := by decide +kernel
theorem d10_51 : decode cd10 51 = .ok (.iload_n 2, 1) := by decide +kernel
theorem d10_52 : decode cd10 52 = .ok (.ireturn, 1) := by decide +kernel
theorem ef_pao (m : MethodId) (ch : Addr) : entryFrame m #[(.ref ch), .null] 3 = mkF m 0 #[.val (.ref ch), .val .null, .unset] [] := by first | (simp [entryFrame, mkF, argsToLocals, Value.category]; done) | rfl
def Q_pao (Z : State) (ch fn ln bl fg : Addr) (kkg : ClassId) (spc : Int32) (ldr : Int64) (hv tv spv fev v0 v1 : Value) (h0 : Heap) (n0 : Nat) (v : Option Value) (h : Heap) (L : List Loc) : Prop := v = some (.int (0 : Int32)) ∧ Fr n0 L ∧ Keep h0 h [ch, fg] ∧ Exa Z h ch sg3 ∧ xF8 Z h ch hv ∧ xF9 Z h ch tv ∧ xF10 Z h ch (.ref fn) ∧ xF11 Z h ch (.ref ln) ∧ xF12 Z h ch (.ref bl) ∧ xF13 Z h ch spv ∧ xF14 Z h ch (.int spc) ∧ xF15 Z h ch (.long ldr) ∧ xF16 Z h ch .null ∧ xF17 Z h ch (.ref fg) ∧ aN Z h fg kkg .null .null
set_option maxRecDepth 65536 in
set_option maxHeartbeats 40000000 in
theorem rm_pao (l : Launch) (Z : State) (a0 : Array Value) (hw : hwT Z a0) (ws : List Jvm.Cond) (ch fn ln bl fg : Addr) (kkg : ClassId) (spc : Int32) (ldr : Int64) (hv tv spv fev v0 v1 : Value) (h0 : Heap) (n0 : Nat) (Z0 : n0 ≤ h0.size) (P0_ : Exa Z h0 ch sg3) (P1_ : xF8 Z h0 ch hv) (P2_ : xF9 Z h0 ch tv) (P3_ : xF10 Z h0 ch (.ref fn)) (P4_ : xF11 Z h0 ch (.ref ln)) (P5_ : xF12 Z h0 ch (.ref bl)) (P6_ : xF13 Z h0 ch spv) (P7_ : xF14 Z h0 ch (.int spc)) (P8_ : xF15 Z h0 ch (.long ldr)) (P9_ : xF16 Z h0 ch fev) (P10_ : xF17 Z h0 ch (.ref fg)) (P11_ : Exa Z h0 bl sg4) (P12_ : xF4 Z h0 bl (.int (0 : Int32))) (P13_ : aN Z h0 fg kkg v0 v1) (g_ch : n0 ≤ ch) (g_fg : n0 ≤ fg) (n_ch_bl : ch ≠ bl) (n_ch_fg : ch ≠ fg) (n_bl_fg : bl ≠ fg) :
  oMF l Z mn10 (Jvm.Cond.code mn10 prog_2_method_8_code 3 (some .boolean)) ws (rO 2 0 0 27) #[(.ref ch), .null] h0 (Q_pao Z ch fn ln bl fg kkg spc ldr hv tv spv fev v0 v1 h0 n0) := by
 refine MetFree.of_bodySF (plainFor_of_name pn_ordc) hisR ?_
 intro p e s m args below meth c s₁ Bd hml0 hP hK
 obtain ⟨rfl, hZ, hh⟩ := hP
 have hx := Bd.exec
 have hby := Bd.bytes
 have B : ∀ {pc r}, decode cd10 pc = r → decode c.code pc = r := fun h => hb hby h
 have hml : c.maxLocals = 3 := hml0
 have hown : s.vm.findClass sg3 = some m.cls := findClass_of_methodNamed Bd.named
 have hnm := (name_of_methodNamed Bd.named Bd.method).1
 have X0 : Stand p l e (rO 2 0 0 27) s m #[(.ref ch), .null] below meth c s₁ [] 0 0 := Stand.of_body Bd
 have e0 : s₁.heap = h0 := by rw [← hh, Bd.state]; rfl
 have N0 := Fr.nil n0
 refine own_in ?_
 refine own_go (S' := s₁.setTop (mkF m 0 #[zr ch, zn, zu] [])) (fun tgt_ stp_ => castTop (ef_pao m ch) stp_) ?_
 have K0 : Keep h0 h0 [ch, fg] := Keep.refl h0 _
 obtain ⟨cq_1, q_1, q_1'⟩ := P0_.cell
 obtain ⟨_, _, ⟨T_1, L_1, k_1, n_1⟩, -, X_1, ⟨Lc_1, hQ_1, l_1, y_1, z_1⟩, st_1⟩ := X0.privateBack hx (y := mn9) hown (oT hZ hw 69 rfl) (oT hZ hw 70 rfl) (psl_0 hZ hw) (oP hZ hw 71 rfl) (oT hZ hw 72 rfl) (by decide) (backOf (W := 0) (rm_clf l Z a0 hw [] ch fn ln bl fg kkg spc ldr hv tv spv fev v0 v1 h0 n0 Z0 P0_ P1_ P2_ P3_ P4_ P5_ P6_ P7_ P8_ P9_ P10_ P13_ g_ch g_fg n_ch_fg) hZ (oW hw 72 rfl) (oW hw 19 rfl) (by decide) (by decide)) (g := (mkF m 3 #[zr ch, zn, zi 0] [(.ref ch)])) rfl (by rw [hml]; rfl) (Steps.refl _) (a := ch) (by rw [e0]; exact q_1) q_1' (argsL := []) (rest := []) (lenOf pd2 rfl) rfl (oQ rfl) (B d10_3) (fun _ _ => ⟨rfl, e0, (by decide : 0 + 0 ≤ _), (by decide : 0 + 0 ≤ _)⟩)
 dsimp only [Pt.U, Pt.locs, Pt.cells, Pt.slots] at X_1 l_1 y_1 z_1 st_1 hQ_1
 subst y_1 z_1
 obtain ⟨rfl, N_1q, p_1_0, p_1_1, p_1_2, p_1_3, p_1_4, p_1_5, p_1_6, p_1_7, p_1_8, p_1_9, p_1_10, p_1_11, p_1_12⟩ := hQ_1
 have N_1 : Fr n0 L_1 := by rw [l_1]; exact Fr.app N0 N_1q
 clear l_1
 have Z_2 := Nat.le_trans Z0 p_1_0.1
 have K_3 : Keep h0 T_1.heap [ch, fg] := K0.trans p_1_0 fun x q => Or.inl (oM q 0 rfl fun q => oM1 q 1 rfl)
 obtain ⟨T_4, X_4, e_4, st_4⟩ := getF X_1 hx hZ hown (oV hw 47 rfl) Via.refl rfl p_1_6 (g := (mkF m 7 #[zr ch, zn, zi 0] [(.ref ch)])) rfl rfl (B d10_7)
 have f_6 := (P12_.keep p_1_0 (oN1 (Ne.symm n_ch_bl) (oN1 n_bl_fg oN)))
 have f_7 := (P11_.keep p_1_0)
 obtain ⟨cq_5, kq_5, q_5a, q_5b, q_5c⟩ := isOf hZ e_4 f_7
 obtain ⟨_, _, ⟨T_5, L_5, k_5, n_5⟩, -, X_5, ⟨Lc_5, hQ_5, l_5, y_5, z_5⟩, st_5⟩ := X_4.virtualBack hx (y := mn6) (z := mn6) hown (oT hZ hw 79 rfl) (oT hZ hw 80 rfl) (notFace_of_selects (args := #[]) (oT hZ hw 82 rfl)) (oT hZ hw 82 rfl) (oT hZ hw 81 rfl) (by decide) (backOf (W := 0) (rm_ise l Z a0 hw [] bl  T_1.heap n0 Z_2 f_6) hZ (oW hw 83 rfl) (oW hw 32 rfl) (by decide) (by decide)) q_5a q_5c (g := (mkF m 10 #[zr ch, zn, zi 0] [(.ref bl)])) rfl (by rw [hml]; rfl) (Steps.refl _) (argsL := []) (rest := []) (lenOf pd3 rfl) rfl (oQ rfl) (B d10_10) (fun _ _ => ⟨rfl, e_4, (by decide : 0 + 0 ≤ _), (by decide : 0 + 0 ≤ _)⟩)
 dsimp only [Pt.U, Pt.locs, Pt.cells, Pt.slots] at X_5 l_5 y_5 z_5 st_5 hQ_5
 subst y_5 z_5
 obtain ⟨rfl, N_5q, p_5_0⟩ := hQ_5
 have N_5 : Fr n0 L_5 := by rw [l_5]; exact Fr.app N_1 N_5q
 clear l_5
 refine own_go (S' := T_5.setTop (mkF m 52 #[zr ch, zn, zi 0] [(.int (0 : Int32))])) (fun target kt => ?_) ?_
 ·
  show oSt p e below s₁ m 0 #[zr ch, zn, zu] [] target
  refine XS.iconst X0.here hx rfl (B d10_0) ?_
  refine XS.istoreN X0.here hx rfl (B d10_1) rfl (l' := #[zr ch, zn, zi 0]) rfl ?_
  refine XS.aloadN X0.here hx rfl (B d10_2) rfl rfl ?_
  refine st_1.trans ?_
  refine XS.aloadN X_1.here hx rfl (B d10_6) rfl rfl ?_
  refine st_4 _ ?_
  refine st_5.trans ?_
  refine XS.ifYes X_5.here hx rfl (pc0 := 13) (pc' := 51) rfl (B d10_13) rfl ((if0 _ _).trans (feq (by decide : ¬ ((1 : Int32) = (0 : Int32)))).2) (by decide) (by decide) ?_
  refine XS.iloadN X_5.here hx rfl (B d10_51) rfl ?_
  exact kt
 obtain ⟨fs, hr, hrun, hended, hW, hsame⟩ := X_5.leave (v := some (.int (0 : Int32))) (fun h => by rw [Bd.returns] at h; cases h)
 refine ⟨_, _, retN X_5 hx (t := .boolean) Bd.returns (by simp) (B d10_52) hr, hrun, hended, _, _, rfl, ?_, ⟨_, rfl⟩, hW, hsame.mono (by decide) (by decide)⟩
 show Q_pao Z ch fn ln bl fg kkg spc ldr hv tv spv fev v0 v1 h0 n0 _ T_5.heap _
 rw [p_5_0]
 exact ⟨rfl, N_5, K_3, p_1_1, p_1_2, p_1_3, p_1_4, p_1_5, p_1_6, p_1_7, p_1_8, p_1_9, p_1_10, p_1_11, p_1_12⟩
-- com/example/carillon/carillon/Chain.placeAll:()V
theorem d11_0 : decode cd11 0 = .ok (.aload_n 0, 1) := by decide +kernel
theorem d11_1 : decode cd11 1 = .ok (.aconst_null, 1) := by decide +kernel
theorem d11_2 : decode cd11 2 = .ok (.invokevirtual 103, 3) := by decide +kernel
theorem d11_5 : decode cd11 5 = .ok (.pop, 1) := by decide +kernel
theorem d11_6 : decode cd11 6 = .ok (.return_, 1) := by decide +kernel
def Q_pal (Z : State) (ch fn ln bl fg : Addr) (kkg : ClassId) (spc : Int32) (ldr : Int64) (hv tv spv fev v0 v1 : Value) (h0 : Heap) (n0 : Nat) (v : Option Value) (h : Heap) (L : List Loc) : Prop := v = none ∧ Fr n0 L ∧ Keep h0 h [ch, fg] ∧ Exa Z h ch sg3 ∧ xF8 Z h ch hv ∧ xF9 Z h ch tv ∧ xF10 Z h ch (.ref fn) ∧ xF11 Z h ch (.ref ln) ∧ xF12 Z h ch (.ref bl) ∧ xF13 Z h ch spv ∧ xF14 Z h ch (.int spc) ∧ xF15 Z h ch (.long ldr) ∧ xF16 Z h ch .null ∧ xF17 Z h ch (.ref fg) ∧ aN Z h fg kkg .null .null
set_option maxRecDepth 65536 in
set_option maxHeartbeats 40000000 in
theorem rm_pal (l : Launch) (Z : State) (a0 : Array Value) (hw : hwT Z a0) (ws : List Jvm.Cond) (ch fn ln bl fg : Addr) (kkg : ClassId) (spc : Int32) (ldr : Int64) (hv tv spv fev v0 v1 : Value) (h0 : Heap) (n0 : Nat) (Z0 : n0 ≤ h0.size) (P0_ : Exa Z h0 ch sg3) (P1_ : xF8 Z h0 ch hv) (P2_ : xF9 Z h0 ch tv) (P3_ : xF10 Z h0 ch (.ref fn)) (P4_ : xF11 Z h0 ch (.ref ln)) (P5_ : xF12 Z h0 ch (.ref bl)) (P6_ : xF13 Z h0 ch spv) (P7_ : xF14 Z h0 ch (.int spc)) (P8_ : xF15 Z h0 ch (.long ldr)) (P9_ : xF16 Z h0 ch fev) (P10_ : xF17 Z h0 ch (.ref fg)) (P11_ : Exa Z h0 bl sg4) (P12_ : xF4 Z h0 bl (.int (0 : Int32))) (P13_ : aN Z h0 fg kkg v0 v1) (g_ch : n0 ≤ ch) (g_fg : n0 ≤ fg) (n_ch_bl : ch ≠ bl) (n_ch_fg : ch ≠ fg) (n_bl_fg : bl ≠ fg) :
  oMF l Z mn11 (Jvm.Cond.code mn11 prog_2_method_9_code 1 none) ws (rO 3 0 0 41) #[(.ref ch)] h0 (Q_pal Z ch fn ln bl fg kkg spc ldr hv tv spv fev v0 v1 h0 n0) := by
 refine MetFree.of_bodySF (plainFor_of_name pn_ordc) hisR ?_
 intro p e s m args below meth c s₁ Bd hml0 hP hK
 obtain ⟨rfl, hZ, hh⟩ := hP
 have hx := Bd.exec
 have hby := Bd.bytes
 have B : ∀ {pc r}, decode cd11 pc = r → decode c.code pc = r := fun h => hb hby h
 have hml : c.maxLocals = 1 := hml0
 have hown : s.vm.findClass sg3 = some m.cls := findClass_of_methodNamed Bd.named
 have hnm := (name_of_methodNamed Bd.named Bd.method).1
 have X0 : Stand p l e (rO 3 0 0 41) s m #[(.ref ch)] below meth c s₁ [] 0 0 := Stand.of_body Bd
 have e0 : s₁.heap = h0 := by rw [← hh, Bd.state]; rfl
 have N0 := Fr.nil n0
 refine own_in ?_
 refine own_go (S' := s₁.setTop (mkF m 0 #[zr ch] [])) (fun tgt_ stp_ => castTop (ef_clf m ch) stp_) ?_
 have K0 : Keep h0 h0 [ch, fg] := Keep.refl h0 _
 obtain ⟨cq_1, kq_1, q_1a, q_1b, q_1c⟩ := isOf hZ e0 P0_
 obtain ⟨_, _, ⟨T_1, L_1, k_1, n_1⟩, -, X_1, ⟨Lc_1, hQ_1, l_1, y_1, z_1⟩, st_1⟩ := X0.virtualBack hx (y := mn10) (z := mn10) hown (oT hZ hw 64 rfl) (oT hZ hw 65 rfl) (notFace_of_selects (args := #[]) (oT hZ hw 67 rfl)) (oT hZ hw 67 rfl) (oT hZ hw 66 rfl) (by decide) (backOf (W := 0) (rm_pao l Z a0 hw [] ch fn ln bl fg kkg spc ldr hv tv spv fev v0 v1 h0 n0 Z0 P0_ P1_ P2_ P3_ P4_ P5_ P6_ P7_ P8_ P9_ P10_ P11_ P12_ P13_ g_ch g_fg n_ch_bl n_ch_fg n_bl_fg) hZ (oW hw 68 rfl) (oW hw 19 rfl) (by decide) (by decide)) q_1a q_1c (g := (mkF m 2 #[zr ch] [.null, (.ref ch)])) rfl (by rw [hml]; rfl) (Steps.refl _) (argsL := [.null]) (rest := []) (lenOf pd4 rfl) rfl (oQ rfl) (B d11_2) (fun _ _ => ⟨rfl, e0, (by decide : 0 + 0 ≤ _), (by decide : 0 + 0 ≤ _)⟩)
 dsimp only [Pt.U, Pt.locs, Pt.cells, Pt.slots] at X_1 l_1 y_1 z_1 st_1 hQ_1
 subst y_1 z_1
 obtain ⟨rfl, N_1q, p_1_0, p_1_1, p_1_2, p_1_3, p_1_4, p_1_5, p_1_6, p_1_7, p_1_8, p_1_9, p_1_10, p_1_11, p_1_12⟩ := hQ_1
 have N_1 : Fr n0 L_1 := by rw [l_1]; exact Fr.app N0 N_1q
 clear l_1
 have Z_2 := Nat.le_trans Z0 p_1_0.1
 have K_3 : Keep h0 T_1.heap [ch, fg] := K0.trans p_1_0 fun x q => Or.inl (oM q 0 rfl fun q => oM1 q 1 rfl)
 refine own_go (S' := T_1.setTop (mkF m 6 #[zr ch] [])) (fun target kt => ?_) ?_
 ·
  show oSt p e below s₁ m 0 #[zr ch] [] target
  refine XS.aloadN X0.here hx rfl (B d11_0) rfl rfl ?_
  refine XS.aconstNull X0.here hx rfl (B d11_1) ?_
  refine st_1.trans ?_
  refine XS.pop X_1.here hx rfl (B d11_5) rfl rfl ?_
  exact kt
 obtain ⟨fs, hr, hrun, hended, hW, hsame⟩ := X_1.leave (v := none) (fun _ => rfl)
 refine ⟨_, _, X_1.returnOut hx Bd.returns (B d11_6) hr, hrun, hended, _, _, rfl, ?_, ⟨_, rfl⟩, hW, hsame.mono (by decide) (by decide)⟩
 show Q_pal Z ch fn ln bl fg kkg spc ldr hv tv spv fev v0 v1 h0 n0 _ T_1.heap _
 exact ⟨rfl, N_1, K_3, p_1_1, p_1_2, p_1_3, p_1_4, p_1_5, p_1_6, p_1_7, p_1_8, p_1_9, p_1_10, p_1_11, p_1_12⟩
-- java/lang/Integer.numberOfLeadingZeros:(I)I
theorem d12_0 : decode cd12 0 = .ok (.iload_n 0, 1) := by decide +kernel
theorem d12_1 : decode cd12 1 = .ok (.ifCond .gt 14, 3) := by decide +kernel
theorem d12_4 : decode cd12 4 = .ok (.iload_n 0, 1) := by decide +kernel
theorem d12_5 : decode cd12 5 = .ok (.ifCond .ne 8, 3) := by decide +kernel
theorem d12_8 : decode cd12 8 = .ok (.bipush 32, 2) := by decide +kernel
theorem d12_10 : decode cd12 10 = .ok (.goto 4, 3) := by decide +kernel
theorem d12_13 : decode cd12 13 = .ok (.iconst 0, 1) := by decide +kernel
theorem d12_14 : decode cd12 14 = .ok (.ireturn, 1) := by decide +kernel
theorem d12_15 : decode cd12 15 = .ok (.bipush 31, 2) := by decide +kernel
theorem d12_17 : decode cd12 17 = .ok (.istore_n 1, 1) := by decide +kernel
theorem d12_18 : decode cd12 18 = .ok (.iload_n 0, 1) := by decide +kernel
theorem d12_19 : decode cd12 19 = .ok (.ldc_w 264, 3) := by decide +kernel
theorem d12_22 : decode cd12 22 = .ok (.if_icmp .lt 11, 3) := by decide +kernel
theorem d12_25 : decode cd12 25 = .ok (.iinc 1 (-16), 3) := by decide +kernel
theorem d12_28 : decode cd12 28 = .ok (.iload_n 0, 1) := by decide +kernel
theorem d12_29 : decode cd12 29 = .ok (.bipush 16, 2) := by decide +kernel
theorem d12_31 : decode cd12 31 = .ok (.iushr, 1) := by decide +kernel
theorem d12_32 : decode cd12 32 = .ok (.istore_n 0, 1) := by decide +kernel
theorem d12_33 : decode cd12 33 = .ok (.iload_n 0, 1) := by decide +kernel
theorem d12_34 : decode cd12 34 = .ok (.sipush 256, 3) := by decide +kernel
theorem d12_37 : decode cd12 37 = .ok (.if_icmp .lt 11, 3) := by decide +kernel
theorem d12_40 : decode cd12 40 = .ok (.iinc 1 (-8), 3) := by decide +kernel
theorem d12_43 : decode cd12 43 = .ok (.iload_n 0, 1) := by decide +kernel
theorem d12_44 : decode cd12 44 = .ok (.bipush 8, 2) := by decide +kernel
theorem d12_46 : decode cd12 46 = .ok (.iushr, 1) := by decide +kernel
theorem d12_47 : decode cd12 47 = .ok (.istore_n 0, 1) := by decide +kernel
theorem d12_48 : decode cd12 48 = .ok (.iload_n 0, 1) := by decide +kernel
theorem d12_49 : decode cd12 49 = .ok (.bipush 16, 2) := by decide +kernel
theorem d12_51 : decode cd12 51 = .ok (.if_icmp .lt 10, 3) := by decide +kernel
theorem d12_54 : decode cd12 54 = .ok (.iinc 1 (-4), 3) := by decide +kernel
theorem d12_57 : decode cd12 57 = .ok (.iload_n 0, 1) := by decide +kernel
theorem d12_58 : decode cd12 58 = .ok (.iconst 4, 1) := by decide +kernel
theorem d12_59 : decode cd12 59 = .ok (.iushr, 1) := by decide +kernel
theorem d12_60 : decode cd12 60 = .ok (.istore_n 0, 1) := by decide +kernel
theorem d12_61 : decode cd12 61 = .ok (.iload_n 0, 1) := by decide +kernel
theorem d12_62 : decode cd12 62 = .ok (.iconst 4, 1) := by decide +kernel
theorem d12_63 : decode cd12 63 = .ok (.if_icmp .lt 10, 3) := by decide +kernel
theorem d12_66 : decode cd12 66 = .ok (.iinc 1 (-2), 3) := by decide +kernel
theorem d12_69 : decode cd12 69 = .ok (.iload_n 0, 1) := by decide +kernel
theorem d12_70 : decode cd12 70 = .ok (.iconst 2, 1) := by decide +kernel
theorem d12_71 : decode cd12 71 = .ok (.iushr, 1) := by decide +kernel
theorem d12_72 : decode cd12 72 = .ok (.istore_n 0, 1) := by decide +kernel
theorem d12_73 : decode cd12 73 = .ok (.iload_n 1, 1) := by decide +kernel
theorem d12_74 : decode cd12 74 = .ok (.iload_n 0, 1) := by decide +kernel
theorem d12_75 : decode cd12 75 = .ok (.iconst 1, 1) := by decide +kernel
theorem d12_76 : decode cd12 76 = .ok (.iushr, 1) := by decide +kernel
theorem d12_77 : decode cd12 77 = .ok (.isub, 1) := by decide +kernel
theorem d12_78 : decode cd12 78 = .ok (.ireturn, 1) := by decide +kernel
theorem pn_nlz : plainName "java/lang/Integer" = true := by first | (simp [plainName, overriddenIn]; done) | decide +kernel
theorem ef_nlz (m : MethodId) (l1 : Int32) : entryFrame m #[(.int l1)] 2 = mkF m 0 #[.val (.int l1), .unset] [] := by first | (simp [entryFrame, mkF, argsToLocals, Value.category]; done) | rfl
def Q_nlz (Z : State) (l1 : Int32) (h0 : Heap) (n0 : Nat) (v : Option Value) (h : Heap) (L : List Loc) : Prop := v = some (.int (own_nlz l1)) ∧ Fr n0 L ∧ h = h0
set_option maxRecDepth 65536 in
set_option maxHeartbeats 40000000 in
theorem rm_nlz (l : Launch) (Z : State) (a0 : Array Value) (hw : hwT Z a0) (ws : List Jvm.Cond) (l1 : Int32) (h0 : Heap) (n0 : Nat) (Z0 : n0 ≤ h0.size) :
  oMF l Z mn12 (Jvm.Cond.code mn12 jdk_33_method_47_code 2 (some .int)) ws (rO 0 0 0 0) #[(.int l1)] h0 (Q_nlz Z l1 h0 n0) := by
 refine MetFree.of_bodySF (plainFor_of_name pn_nlz) hisR ?_
 intro p e s m args below meth c s₁ Bd hml0 hP hK
 obtain ⟨rfl, hZ, hh⟩ := hP
 have hx := Bd.exec
 have hby := Bd.bytes
 have B : ∀ {pc r}, decode cd12 pc = r → decode c.code pc = r := fun h => hb hby h
 have hml : c.maxLocals = 2 := hml0
 have hown : s.vm.findClass "java/lang/Integer" = some m.cls := findClass_of_methodNamed Bd.named
 have hnm := (name_of_methodNamed Bd.named Bd.method).1
 have X0 : Stand p l e (rO 0 0 0 0) s m #[(.int l1)] below meth c s₁ [] 0 0 := Stand.of_body Bd
 have e0 : s₁.heap = h0 := by rw [← hh, Bd.state]; rfl
 have N0 := Fr.nil n0
 refine own_in ?_
 refine own_go (S' := s₁.setTop (mkF m 0 #[.val (.int l1), zu] [])) (fun tgt_ stp_ => castTop (ef_nlz m l1) stp_) ?_
 refine own_go (S' := s₁.setTop (mkF m 1 #[.val (.int l1), zu] [(.int l1)])) (fun target kt => ?_) ?_
 ·
  show oSt p e below s₁ m 0 #[.val (.int l1), zu] [] target
  refine XS.iloadN X0.here hx rfl (B d12_0) rfl ?_
  exact kt
 by_cases hc1 : (0 : Int32) < l1
 ·
  refine own_go (S' := s₁.setTop (mkF m 18 #[.val (.int l1), zi 31] [])) (fun target kt => ?_) ?_
  ·
   show oSt p e below s₁ m 1 #[.val (.int l1), zu] [(.int l1)] target
   refine XS.ifYes X0.here hx rfl (pc0 := 1) (pc' := 15) rfl (B d12_1) rfl ((if0 _ _).trans (tlt hc1).2.2.1) (by decide) (by decide) ?_
   refine XS.bipush X0.here hx rfl (B d12_15) ?_
   refine XS.istoreN X0.here hx rfl (B d12_17) rfl (l' := #[.val (.int l1), zi 31]) rfl ?_
   exact kt
  refine own_cut (fun P => ∀ (x33 : Int32) (n33 : Int32), (own_nlz l1 = own_e1 x33 n33) → own_G p.tables e below P (s₁.setTop (mkF m 33 #[.val (.int x33), .val (.int n33)] []))) ?_ ?_
  ·
   intro x33 n33 hj33
   refine own_cut (fun P => ∀ (x48 : Int32) (n48 : Int32), (own_nlz l1 = own_e2 x48 n48) → own_G p.tables e below P (s₁.setTop (mkF m 48 #[.val (.int x48), .val (.int n48)] []))) ?_ ?_
   ·
    intro x48 n48 hj48
    refine own_cut (fun P => ∀ (x61 : Int32) (n61 : Int32), (own_nlz l1 = own_e3 x61 n61) → own_G p.tables e below P (s₁.setTop (mkF m 61 #[.val (.int x61), .val (.int n61)] []))) ?_ ?_
    ·
     intro x61 n61 hj61
     refine own_cut (fun P => ∀ (x73 : Int32) (n73 : Int32), (own_nlz l1 = own_e4 x73 n73) → own_G p.tables e below P (s₁.setTop (mkF m 73 #[.val (.int x73), .val (.int n73)] []))) ?_ ?_
     ·
      intro x73 n73 hj73
      refine own_go (S' := s₁.setTop (mkF m 78 #[.val (.int x73), .val (.int n73)] [(.int (n73 - ((x73.toUInt32 >>> ((1 : Int32) &&& 31).toUInt32).toInt32)))])) (fun target kt => ?_) ?_
      ·
       show oSt p e below s₁ m 73 #[.val (.int x73), .val (.int n73)] [] target
       refine XS.iloadN X0.here hx rfl (B d12_73) rfl ?_
       refine XS.iloadN X0.here hx rfl (B d12_74) rfl ?_
       refine XS.iconst X0.here hx rfl (B d12_75) ?_
       refine XS.iushr X0.here hx rfl (B d12_76) rfl ?_
       refine XS.isub X0.here hx rfl (B d12_77) rfl ?_
       exact kt
      obtain ⟨fs, hr, hrun, hended, hW, hsame⟩ := X0.leave (v := some (.int (n73 - ((x73.toUInt32 >>> ((1 : Int32) &&& 31).toUInt32).toInt32)))) (fun h => by rw [Bd.returns] at h; cases h)
      refine ⟨_, _, retI X0 hx Bd.returns (B d12_78) hr, hrun, hended, _, _, rfl, ?_, ⟨_, rfl⟩, hW, hsame.mono (by decide) (by decide)⟩
      show Q_nlz Z l1 h0 n0 _ s₁.heap _
      rw [e0]
      exact ⟨(congrArg (fun z => some (Value.int z)) (by rw [hj73, own_e4])), N0, rfl⟩
     ·
      intro J73
      refine own_go (S' := s₁.setTop (mkF m 63 #[.val (.int x61), .val (.int n61)] [(.int (4 : Int32)), (.int x61)])) (fun target kt => ?_) ?_
      ·
       show oSt p e below s₁ m 61 #[.val (.int x61), .val (.int n61)] [] target
       refine XS.iloadN X0.here hx rfl (B d12_61) rfl ?_
       refine XS.iconst X0.here hx rfl (B d12_62) ?_
       exact kt
      by_cases hc63 : x61 < (4 : Int32)
      ·
       refine own_go (S' := s₁.setTop (mkF m 73 #[.val (.int x61), .val (.int n61)] [])) (fun target kt => ?_) ?_
       ·
        show oSt p e below s₁ m 63 #[.val (.int x61), .val (.int n61)] [(.int (4 : Int32)), (.int x61)] target
        refine XS.icmpYes X0.here hx rfl (pc0 := 63) (pc' := 73) rfl (B d12_63) rfl (tlt hc63).1 (by decide) (by decide) ?_
        exact kt
       exact J73 x61 n61 (hj61.trans (by rw [own_e3, if_pos hc63]))
      ·
       refine own_go (S' := s₁.setTop (mkF m 73 #[.val (.int ((x61.toUInt32 >>> ((2 : Int32) &&& 31).toUInt32).toInt32)), .val (.int (n61 + (-2 : Int32)))] [])) (fun target kt => ?_) ?_
       ·
        show oSt p e below s₁ m 63 #[.val (.int x61), .val (.int n61)] [(.int (4 : Int32)), (.int x61)] target
        refine XS.icmpNo X0.here hx rfl (B d12_63) rfl (flt hc63).1 ?_
        refine XS.iinc X0.here hx rfl (B d12_66) rfl (l' := #[.val (.int x61), .val (.int (n61 + (-2 : Int32)))]) rfl ?_
        refine XS.iloadN X0.here hx rfl (B d12_69) rfl ?_
        refine XS.iconst X0.here hx rfl (B d12_70) ?_
        refine XS.iushr X0.here hx rfl (B d12_71) rfl ?_
        refine XS.istoreN X0.here hx rfl (B d12_72) rfl (l' := #[.val (.int ((x61.toUInt32 >>> ((2 : Int32) &&& 31).toUInt32).toInt32)), .val (.int (n61 + (-2 : Int32)))]) rfl ?_
        exact kt
       exact J73 ((x61.toUInt32 >>> ((2 : Int32) &&& 31).toUInt32).toInt32) (n61 + (-2 : Int32)) (hj61.trans (by rw [own_e3, if_neg hc63]))
    ·
     intro J61
     refine own_go (S' := s₁.setTop (mkF m 51 #[.val (.int x48), .val (.int n48)] [(.int (16 : Int32)), (.int x48)])) (fun target kt => ?_) ?_
     ·
      show oSt p e below s₁ m 48 #[.val (.int x48), .val (.int n48)] [] target
      refine XS.iloadN X0.here hx rfl (B d12_48) rfl ?_
      refine XS.bipush X0.here hx rfl (B d12_49) ?_
      exact kt
     by_cases hc51 : x48 < (16 : Int32)
     ·
      refine own_go (S' := s₁.setTop (mkF m 61 #[.val (.int x48), .val (.int n48)] [])) (fun target kt => ?_) ?_
      ·
       show oSt p e below s₁ m 51 #[.val (.int x48), .val (.int n48)] [(.int (16 : Int32)), (.int x48)] target
       refine XS.icmpYes X0.here hx rfl (pc0 := 51) (pc' := 61) rfl (B d12_51) rfl (tlt hc51).1 (by decide) (by decide) ?_
       exact kt
      exact J61 x48 n48 (hj48.trans (by rw [own_e2, if_pos hc51]))
     ·
      refine own_go (S' := s₁.setTop (mkF m 61 #[.val (.int ((x48.toUInt32 >>> ((4 : Int32) &&& 31).toUInt32).toInt32)), .val (.int (n48 + (-4 : Int32)))] [])) (fun target kt => ?_) ?_
      ·
       show oSt p e below s₁ m 51 #[.val (.int x48), .val (.int n48)] [(.int (16 : Int32)), (.int x48)] target
       refine XS.icmpNo X0.here hx rfl (B d12_51) rfl (flt hc51).1 ?_
       refine XS.iinc X0.here hx rfl (B d12_54) rfl (l' := #[.val (.int x48), .val (.int (n48 + (-4 : Int32)))]) rfl ?_
       refine XS.iloadN X0.here hx rfl (B d12_57) rfl ?_
       refine XS.iconst X0.here hx rfl (B d12_58) ?_
       refine XS.iushr X0.here hx rfl (B d12_59) rfl ?_
       refine XS.istoreN X0.here hx rfl (B d12_60) rfl (l' := #[.val (.int ((x48.toUInt32 >>> ((4 : Int32) &&& 31).toUInt32).toInt32)), .val (.int (n48 + (-4 : Int32)))]) rfl ?_
       exact kt
      exact J61 ((x48.toUInt32 >>> ((4 : Int32) &&& 31).toUInt32).toInt32) (n48 + (-4 : Int32)) (hj48.trans (by rw [own_e2, if_neg hc51]))
   ·
    intro J48
    refine own_go (S' := s₁.setTop (mkF m 37 #[.val (.int x33), .val (.int n33)] [(.int (256 : Int32)), (.int x33)])) (fun target kt => ?_) ?_
    ·
     show oSt p e below s₁ m 33 #[.val (.int x33), .val (.int n33)] [] target
     refine XS.iloadN X0.here hx rfl (B d12_33) rfl ?_
     refine XS.sipush X0.here hx rfl (B d12_34) ?_
     exact kt
    by_cases hc37 : x33 < (256 : Int32)
    ·
     refine own_go (S' := s₁.setTop (mkF m 48 #[.val (.int x33), .val (.int n33)] [])) (fun target kt => ?_) ?_
     ·
      show oSt p e below s₁ m 37 #[.val (.int x33), .val (.int n33)] [(.int (256 : Int32)), (.int x33)] target
      refine XS.icmpYes X0.here hx rfl (pc0 := 37) (pc' := 48) rfl (B d12_37) rfl (tlt hc37).1 (by decide) (by decide) ?_
      exact kt
     exact J48 x33 n33 (hj33.trans (by rw [own_e1, if_pos hc37]))
    ·
     refine own_go (S' := s₁.setTop (mkF m 48 #[.val (.int ((x33.toUInt32 >>> ((8 : Int32) &&& 31).toUInt32).toInt32)), .val (.int (n33 + (-8 : Int32)))] [])) (fun target kt => ?_) ?_
     ·
      show oSt p e below s₁ m 37 #[.val (.int x33), .val (.int n33)] [(.int (256 : Int32)), (.int x33)] target
      refine XS.icmpNo X0.here hx rfl (B d12_37) rfl (flt hc37).1 ?_
      refine XS.iinc X0.here hx rfl (B d12_40) rfl (l' := #[.val (.int x33), .val (.int (n33 + (-8 : Int32)))]) rfl ?_
      refine XS.iloadN X0.here hx rfl (B d12_43) rfl ?_
      refine XS.bipush X0.here hx rfl (B d12_44) ?_
      refine XS.iushr X0.here hx rfl (B d12_46) rfl ?_
      refine XS.istoreN X0.here hx rfl (B d12_47) rfl (l' := #[.val (.int ((x33.toUInt32 >>> ((8 : Int32) &&& 31).toUInt32).toInt32)), .val (.int (n33 + (-8 : Int32)))]) rfl ?_
      exact kt
     exact J48 ((x33.toUInt32 >>> ((8 : Int32) &&& 31).toUInt32).toInt32) (n33 + (-8 : Int32)) (hj33.trans (by rw [own_e1, if_neg hc37]))
  ·
   intro J33
   refine own_go (S' := s₁.setTop (mkF m 22 #[.val (.int l1), zi 31] [(.int (65536 : Int32)), (.int l1)])) (fun target kt => ?_) ?_
   ·
    show oSt p e below s₁ m 18 #[.val (.int l1), zi 31] [] target
    refine XS.iloadN X0.here hx rfl (B d12_18) rfl ?_
    refine X0.ldcwInt hx hown (oT hZ hw 114 rfl) (g := (mkF m 19 #[.val (.int l1), zi 31] [(.int l1)])) rfl (B d12_19) _ ?_
    exact kt
   by_cases hc22 : l1 < (65536 : Int32)
   ·
    refine own_go (S' := s₁.setTop (mkF m 33 #[.val (.int l1), zi 31] [])) (fun target kt => ?_) ?_
    ·
     show oSt p e below s₁ m 22 #[.val (.int l1), zi 31] [(.int (65536 : Int32)), (.int l1)] target
     refine XS.icmpYes X0.here hx rfl (pc0 := 22) (pc' := 33) rfl (B d12_22) rfl (tlt hc22).1 (by decide) (by decide) ?_
     exact kt
    exact J33 l1 (31 : Int32) (by rw [own_nlz, if_pos hc1, own_e0, if_pos hc22])
   ·
    refine own_go (S' := s₁.setTop (mkF m 33 #[.val (.int ((l1.toUInt32 >>> ((16 : Int32) &&& 31).toUInt32).toInt32)), zi 15] [])) (fun target kt => ?_) ?_
    ·
     show oSt p e below s₁ m 22 #[.val (.int l1), zi 31] [(.int (65536 : Int32)), (.int l1)] target
     refine XS.icmpNo X0.here hx rfl (B d12_22) rfl (flt hc22).1 ?_
     refine XS.iinc X0.here hx rfl (B d12_25) rfl (l' := #[.val (.int l1), .val (.int ((31 : Int32) + (-16 : Int32)))]) rfl ?_
     show oSt p e below s₁ m 28 #[.val (.int l1), .val (.int ((31 : Int32) + (-16 : Int32)))] [] target
     rw [show (31 : Int32) + (-16 : Int32) = (15 : Int32) from by decide]
     show oSt p e below s₁ m 28 #[.val (.int l1), zi 15] [] target
     refine XS.iloadN X0.here hx rfl (B d12_28) rfl ?_
     refine XS.bipush X0.here hx rfl (B d12_29) ?_
     refine XS.iushr X0.here hx rfl (B d12_31) rfl ?_
     refine XS.istoreN X0.here hx rfl (B d12_32) rfl (l' := #[.val (.int ((l1.toUInt32 >>> ((16 : Int32) &&& 31).toUInt32).toInt32)), zi 15]) rfl ?_
     exact kt
    exact J33 ((l1.toUInt32 >>> ((16 : Int32) &&& 31).toUInt32).toInt32) (15 : Int32) (by rw [own_nlz, if_pos hc1, own_e0, if_neg hc22])
 ·
  refine own_go (S' := s₁.setTop (mkF m 5 #[.val (.int l1), zu] [(.int l1)])) (fun target kt => ?_) ?_
  ·
   show oSt p e below s₁ m 1 #[.val (.int l1), zu] [(.int l1)] target
   refine XS.ifNo X0.here hx rfl (B d12_1) rfl ((if0 _ _).trans (flt hc1).2.2.1) ?_
   refine XS.iloadN X0.here hx rfl (B d12_4) rfl ?_
   exact kt
  by_cases hc5 : l1 = (0 : Int32)
  ·
   refine own_go (S' := s₁.setTop (mkF m 14 #[.val (.int l1), zu] [(.int (32 : Int32))])) (fun target kt => ?_) ?_
   ·
    show oSt p e below s₁ m 5 #[.val (.int l1), zu] [(.int l1)] target
    refine XS.ifNo X0.here hx rfl (B d12_5) rfl ((if0 _ _).trans (teq hc5).2) ?_
    refine XS.bipush X0.here hx rfl (B d12_8) ?_
    refine XS.goto X0.here hx rfl (pc0 := 10) (pc' := 14) rfl (B d12_10) (by decide) (by decide) ?_
    exact kt
   obtain ⟨fs, hr, hrun, hended, hW, hsame⟩ := X0.leave (v := some (.int (32 : Int32))) (fun h => by rw [Bd.returns] at h; cases h)
   refine ⟨_, _, retI X0 hx Bd.returns (B d12_14) hr, hrun, hended, _, _, rfl, ?_, ⟨_, rfl⟩, hW, hsame.mono (by decide) (by decide)⟩
   show Q_nlz Z l1 h0 n0 _ s₁.heap _
   rw [e0]
   exact ⟨(congrArg (fun z => some (Value.int z)) (by rw [own_nlz, if_neg hc1, if_pos hc5])), N0, rfl⟩
  ·
   refine own_go (S' := s₁.setTop (mkF m 14 #[.val (.int l1), zu] [(.int (0 : Int32))])) (fun target kt => ?_) ?_
   ·
    show oSt p e below s₁ m 5 #[.val (.int l1), zu] [(.int l1)] target
    refine XS.ifYes X0.here hx rfl (pc0 := 5) (pc' := 13) rfl (B d12_5) rfl ((if0 _ _).trans (feq hc5).2) (by decide) (by decide) ?_
    refine XS.iconst X0.here hx rfl (B d12_13) ?_
    exact kt
   obtain ⟨fs, hr, hrun, hended, hW, hsame⟩ := X0.leave (v := some (.int (0 : Int32))) (fun h => by rw [Bd.returns] at h; cases h)
   refine ⟨_, _, retI X0 hx Bd.returns (B d12_14) hr, hrun, hended, _, _, rfl, ?_, ⟨_, rfl⟩, hW, hsame.mono (by decide) (by decide)⟩
   show Q_nlz Z l1 h0 n0 _ s₁.heap _
   rw [e0]
   exact ⟨(congrArg (fun z => some (Value.int z)) (by rw [own_nlz, if_neg hc1, if_neg hc5])), N0, rfl⟩
-- java/lang/Long.numberOfLeadingZeros:(J)I
theorem d13_0 : decode cd13 0 = .ok (.lload_n 0, 1) := by decide +kernel
theorem d13_1 : decode cd13 1 = .ok (.bipush 32, 2) := by decide +kernel
theorem d13_3 : decode cd13 3 = .ok (.lushr, 1) := by decide +kernel
theorem d13_4 : decode cd13 4 = .ok (.l2i, 1) := by decide +kernel
theorem d13_5 : decode cd13 5 = .ok (.istore_n 2, 1) := by decide +kernel
theorem d13_6 : decode cd13 6 = .ok (.iload_n 2, 1) := by decide +kernel
theorem d13_7 : decode cd13 7 = .ok (.ifCond .ne 14, 3) := by decide +kernel
theorem d13_10 : decode cd13 10 = .ok (.bipush 32, 2) := by decide +kernel
theorem d13_12 : decode cd13 12 = .ok (.lload_n 0, 1) := by decide +kernel
theorem d13_13 : decode cd13 13 = .ok (.l2i, 1) := by decide +kernel
theorem d13_14 : decode cd13 14 = .ok (.invokestatic 308, 3) := by decide +kernel
theorem d13_17 : decode cd13 17 = .ok (.iadd, 1) := by decide +kernel
theorem d13_18 : decode cd13 18 = .ok (.goto 7, 3) := by decide +kernel
theorem d13_21 : decode cd13 21 = .ok (.iload_n 2, 1) := by decide +kernel
theorem d13_22 : decode cd13 22 = .ok (.invokestatic 308, 3) := by decide +kernel
theorem d13_25 : decode cd13 25 = .ok (.ireturn, 1) := by decide +kernel
theorem pn_nlzL : plainName "java/lang/Long" = true := by first | (simp [plainName, overriddenIn]; done) | decide +kernel
theorem ef_nlzL (m : MethodId) (wq : Int64) : entryFrame m #[(.long wq)] 3 = mkF m 0 #[.val (.long wq), .second, .unset] [] := by first | (simp [entryFrame, mkF, argsToLocals, Value.category]; done) | rfl
def Q_nlzL (Z : State) (wq : Int64) (h0 : Heap) (n0 : Nat) (v : Option Value) (h : Heap) (L : List Loc) : Prop := v = some (.int (own_nlzL wq)) ∧ Fr n0 L ∧ h = h0
set_option maxRecDepth 65536 in
set_option maxHeartbeats 40000000 in
theorem rm_nlzL (l : Launch) (Z : State) (a0 : Array Value) (hw : hwT Z a0) (ws : List Jvm.Cond) (wq : Int64) (h0 : Heap) (n0 : Nat) (Z0 : n0 ≤ h0.size) :
  oMF l Z mn13 (Jvm.Cond.code mn13 jdk_35_method_48_code 3 (some .int)) ws (rO 1 0 0 14) #[(.long wq)] h0 (Q_nlzL Z wq h0 n0) := by
 refine MetFree.of_bodySF (plainFor_of_name pn_nlzL) hisR ?_
 intro p e s m args below meth c s₁ Bd hml0 hP hK
 obtain ⟨rfl, hZ, hh⟩ := hP
 have hx := Bd.exec
 have hby := Bd.bytes
 have B : ∀ {pc r}, decode cd13 pc = r → decode c.code pc = r := fun h => hb hby h
 have hml : c.maxLocals = 3 := hml0
 have hown : s.vm.findClass "java/lang/Long" = some m.cls := findClass_of_methodNamed Bd.named
 have hnm := (name_of_methodNamed Bd.named Bd.method).1
 have X0 : Stand p l e (rO 1 0 0 14) s m #[(.long wq)] below meth c s₁ [] 0 0 := Stand.of_body Bd
 have e0 : s₁.heap = h0 := by rw [← hh, Bd.state]; rfl
 have N0 := Fr.nil n0
 refine own_in ?_
 refine own_go (S' := s₁.setTop (mkF m 0 #[.val (.long wq), zs, zu] [])) (fun tgt_ stp_ => castTop (ef_nlzL m wq) stp_) ?_
 refine own_go (S' := s₁.setTop (mkF m 7 #[.val (.long wq), zs, .val (.int (((wq.toUInt64 >>> ((32 : Int32) &&& 0x3f).toInt64.toUInt64).toInt64).toInt32))] [(.int (((wq.toUInt64 >>> ((32 : Int32) &&& 0x3f).toInt64.toUInt64).toInt64).toInt32))])) (fun target kt => ?_) ?_
 ·
  show oSt p e below s₁ m 0 #[.val (.long wq), zs, zu] [] target
  refine XS.lloadN X0.here hx rfl (B d13_0) rfl ?_
  refine XS.bipush X0.here hx rfl (B d13_1) ?_
  refine XS.lushr X0.here hx rfl (B d13_3) rfl ?_
  refine XS.l2i X0.here hx rfl (B d13_4) rfl ?_
  refine XS.istoreN X0.here hx rfl (B d13_5) rfl (l' := #[.val (.long wq), zs, .val (.int (((wq.toUInt64 >>> ((32 : Int32) &&& 0x3f).toInt64.toUInt64).toInt64).toInt32))]) rfl ?_
  refine XS.iloadN X0.here hx rfl (B d13_6) rfl ?_
  exact kt
 by_cases hc7 : (((wq.toUInt64 >>> ((32 : Int32) &&& 0x3f).toInt64.toUInt64).toInt64).toInt32) = (0 : Int32)
 ·
  obtain ⟨_, _, ⟨T_1, L_1, k_1, n_1⟩, -, X_1, ⟨Lc_1, hQ_1, l_1, y_1, z_1⟩, st_1⟩ := Jvm.LawKit.callS X0 hx (y := mn12) hown (oT hZ hw 110 rfl) (oT hZ hw 111 rfl) (oT hZ hw 112 rfl) (oT hZ hw 113 rfl) (by decide) (backOf (W := 1) (rm_nlz l Z a0 hw [] (wq.toInt32)  h0 n0 Z0 ) hZ (oW hw 113 rfl) (oW hw 112 rfl) (by decide) (by decide)) (g := (mkF m 14 #[.val (.long wq), zs, .val (.int (((wq.toUInt64 >>> ((32 : Int32) &&& 0x3f).toInt64.toUInt64).toInt64).toInt32))] [(.int (wq.toInt32)), (.int (32 : Int32))])) rfl (by rw [hml]; rfl) (argsL := [(.int (wq.toInt32))]) (rest := [(.int (32 : Int32))]) (lenOf pd5 rfl) rfl (oQ rfl) (B d13_14) (fun _ _ => ⟨rfl, e0, (by decide : 0 + 0 ≤ _), (by decide : 0 + 0 ≤ _)⟩)
  dsimp only [Pt.U, Pt.locs, Pt.cells, Pt.slots] at X_1 l_1 y_1 z_1 st_1 hQ_1
  subst y_1 z_1
  obtain ⟨rfl, N_1q, p_1_0⟩ := hQ_1
  have N_1 : Fr n0 L_1 := by rw [l_1]; exact Fr.app N0 N_1q
  clear l_1
  refine own_go (S' := T_1.setTop (mkF m 25 #[.val (.long wq), zs, .val (.int (((wq.toUInt64 >>> ((32 : Int32) &&& 0x3f).toInt64.toUInt64).toInt64).toInt32))] [(.int ((32 : Int32) + (own_nlz (wq.toInt32))))])) (fun target kt => ?_) ?_
  ·
   show oSt p e below s₁ m 7 #[.val (.long wq), zs, .val (.int (((wq.toUInt64 >>> ((32 : Int32) &&& 0x3f).toInt64.toUInt64).toInt64).toInt32))] [(.int (((wq.toUInt64 >>> ((32 : Int32) &&& 0x3f).toInt64.toUInt64).toInt64).toInt32))] target
   refine XS.ifNo X0.here hx rfl (B d13_7) rfl ((if0 _ _).trans (teq hc7).2) ?_
   refine XS.bipush X0.here hx rfl (B d13_10) ?_
   refine XS.lloadN X0.here hx rfl (B d13_12) rfl ?_
   refine XS.l2i X0.here hx rfl (B d13_13) rfl ?_
   refine st_1 _ ?_
   refine XS.iadd X_1.here hx rfl (B d13_17) rfl ?_
   refine XS.goto X_1.here hx rfl (pc0 := 18) (pc' := 25) rfl (B d13_18) (by decide) (by decide) ?_
   exact kt
  obtain ⟨fs, hr, hrun, hended, hW, hsame⟩ := X_1.leave (v := some (.int ((32 : Int32) + (own_nlz (wq.toInt32))))) (fun h => by rw [Bd.returns] at h; cases h)
  refine ⟨_, _, retI X_1 hx Bd.returns (B d13_25) hr, hrun, hended, _, _, rfl, ?_, ⟨_, rfl⟩, hW, hsame.mono (by decide) (by decide)⟩
  show Q_nlzL Z wq h0 n0 _ T_1.heap _
  rw [p_1_0]
  exact ⟨(congrArg (fun z => some (Value.int z)) (by first | (simp only [own_nlzL, hc7, not_true_eq_false, not_false_eq_true, and_self, and_true, true_and, and_false, false_and, or_self, or_true, true_or, or_false, false_or, if_true, if_false, ↓reduceIte]; done) | (simp [own_nlzL, hc7]; done))), N_1, rfl⟩
 ·
  obtain ⟨_, _, ⟨T_2, L_2, k_2, n_2⟩, -, X_2, ⟨Lc_2, hQ_2, l_2, y_2, z_2⟩, st_2⟩ := Jvm.LawKit.callS X0 hx (y := mn12) hown (oT hZ hw 110 rfl) (oT hZ hw 111 rfl) (oT hZ hw 112 rfl) (oT hZ hw 113 rfl) (by decide) (backOf (W := 0) (rm_nlz l Z a0 hw [] (((wq.toUInt64 >>> ((32 : Int32) &&& 0x3f).toInt64.toUInt64).toInt64).toInt32)  h0 n0 Z0 ) hZ (oW hw 113 rfl) (oW hw 112 rfl) (by decide) (by decide)) (g := (mkF m 22 #[.val (.long wq), zs, .val (.int (((wq.toUInt64 >>> ((32 : Int32) &&& 0x3f).toInt64.toUInt64).toInt64).toInt32))] [(.int (((wq.toUInt64 >>> ((32 : Int32) &&& 0x3f).toInt64.toUInt64).toInt64).toInt32))])) rfl (by rw [hml]; rfl) (argsL := [(.int (((wq.toUInt64 >>> ((32 : Int32) &&& 0x3f).toInt64.toUInt64).toInt64).toInt32))]) (rest := []) (lenOf pd5 rfl) rfl (oQ rfl) (B d13_22) (fun _ _ => ⟨rfl, e0, (by decide : 0 + 0 ≤ _), (by decide : 0 + 0 ≤ _)⟩)
  dsimp only [Pt.U, Pt.locs, Pt.cells, Pt.slots] at X_2 l_2 y_2 z_2 st_2 hQ_2
  subst y_2 z_2
  obtain ⟨rfl, N_2q, p_2_0⟩ := hQ_2
  have N_2 : Fr n0 L_2 := by rw [l_2]; exact Fr.app N0 N_2q
  clear l_2
  refine own_go (S' := T_2.setTop (mkF m 25 #[.val (.long wq), zs, .val (.int (((wq.toUInt64 >>> ((32 : Int32) &&& 0x3f).toInt64.toUInt64).toInt64).toInt32))] [(.int (own_nlz (((wq.toUInt64 >>> ((32 : Int32) &&& 0x3f).toInt64.toUInt64).toInt64).toInt32)))])) (fun target kt => ?_) ?_
  ·
   show oSt p e below s₁ m 7 #[.val (.long wq), zs, .val (.int (((wq.toUInt64 >>> ((32 : Int32) &&& 0x3f).toInt64.toUInt64).toInt64).toInt32))] [(.int (((wq.toUInt64 >>> ((32 : Int32) &&& 0x3f).toInt64.toUInt64).toInt64).toInt32))] target
   refine XS.ifYes X0.here hx rfl (pc0 := 7) (pc' := 21) rfl (B d13_7) rfl ((if0 _ _).trans (feq hc7).2) (by decide) (by decide) ?_
   refine XS.iloadN X0.here hx rfl (B d13_21) rfl ?_
   refine st_2 _ ?_
   exact kt
  obtain ⟨fs, hr, hrun, hended, hW, hsame⟩ := X_2.leave (v := some (.int (own_nlz (((wq.toUInt64 >>> ((32 : Int32) &&& 0x3f).toInt64.toUInt64).toInt64).toInt32)))) (fun h => by rw [Bd.returns] at h; cases h)
  refine ⟨_, _, retI X_2 hx Bd.returns (B d13_25) hr, hrun, hended, _, _, rfl, ?_, ⟨_, rfl⟩, hW, hsame.mono (by decide) (by decide)⟩
  show Q_nlzL Z wq h0 n0 _ T_2.heap _
  rw [p_2_0]
  exact ⟨(congrArg (fun z => some (Value.int z)) (by first | (simp only [own_nlzL, hc7, not_true_eq_false, not_false_eq_true, and_self, and_true, true_and, and_false, false_and, or_self, or_true, true_or, or_false, false_or, if_true, if_false, ↓reduceIte]; done) | (simp [own_nlzL, hc7]; done))), N_2, rfl⟩
-- com/example/carillon/carillon/Chain.drawLanes:()I
theorem d14_0 : decode cd14 0 = .ok (.aload_n 0, 1) := by decide +kernel
theorem d14_1 : decode cd14 1 = .ok (.dup, 1) := by decide +kernel
theorem d14_2 : decode cd14 2 = .ok (.getfield 27, 3) := by decide +kernel
theorem d14_5 : decode cd14 5 = .ok (.aload_n 0, 1) := by decide +kernel
theorem d14_6 : decode cd14 6 = .ok (.getfield 27, 3) := by decide +kernel
theorem d14_9 : decode cd14 9 = .ok (.bipush 12, 2) := by decide +kernel
theorem d14_11 : decode cd14 11 = .ok (.lushr, 1) := by decide +kernel
theorem d14_12 : decode cd14 12 = .ok (.lxor, 1) := by decide +kernel
theorem d14_13 : decode cd14 13 = .ok (.putfield 27, 3) := by decide +kernel
theorem d14_16 : decode cd14 16 = .ok (.aload_n 0, 1) := by decide +kernel
theorem d14_17 : decode cd14 17 = .ok (.dup, 1) := by decide +kernel
theorem d14_18 : decode cd14 18 = .ok (.getfield 27, 3) := by decide +kernel
theorem d14_21 : decode cd14 21 = .ok (.aload_n 0, 1) := by decide +kernel
theorem d14_22 : decode cd14 22 = .ok (.getfield 27, 3) := by decide +kernel
theorem d14_25 : decode cd14 25 = .ok (.bipush 25, 2) := by decide +kernel
theorem d14_27 : decode cd14 27 = .ok (.lshl, 1) := by decide +kernel
theorem d14_28 : decode cd14 28 = .ok (.lxor, 1) := by decide +kernel
theorem d14_29 : decode cd14 29 = .ok (.putfield 27, 3) := by decide +kernel
theorem d14_32 : decode cd14 32 = .ok (.aload_n 0, 1) := by decide +kernel
theorem d14_33 : decode cd14 33 = .ok (.dup, 1) := by decide +kernel
theorem d14_34 : decode cd14 34 = .ok (.getfield 27, 3) := by decide +kernel
theorem d14_37 : decode cd14 37 = .ok (.aload_n 0, 1) := by decide +kernel
theorem d14_38 : decode cd14 38 = .ok (.getfield 27, 3) := by decide +kernel
theorem d14_41 : decode cd14 41 = .ok (.bipush 27, 2) := by decide +kernel
theorem d14_43 : decode cd14 43 = .ok (.lushr, 1) := by decide +kernel
theorem d14_44 : decode cd14 44 = .ok (.lxor, 1) := by decide +kernel
theorem d14_45 : decode cd14 45 = .ok (.putfield 27, 3) := by decide +kernel
theorem d14_48 : decode cd14 48 = .ok (.aload_n 0, 1) := by decide +kernel
theorem d14_49 : decode cd14 49 = .ok (.getfield 27, 3) := by decide +kernel
theorem d14_52 : decode cd14 52 = .ok (.ldc2_w 180, 3) := by decide +kernel
theorem d14_55 : decode cd14 55 = .ok (.lmul, 1) := by decide +kernel
theorem d14_56 : decode cd14 56 = .ok (.lstore_n 1, 1) := by decide +kernel
theorem d14_57 : decode cd14 57 = .ok (.iconst 1, 1) := by decide +kernel
theorem d14_58 : decode cd14 58 = .ok (.lload_n 1, 1) := by decide +kernel
theorem d14_59 : decode cd14 59 = .ok (.ldc2_w 182, 3) := by decide +kernel
theorem d14_62 : decode cd14 62 = .ok (.lor, 1) := by decide +kernel
theorem d14_63 : decode cd14 63 = .ok (.invokestatic 184, 3) := by decide +kernel
theorem d14_66 : decode cd14 66 = .ok (.iconst 2, 1) := by decide +kernel
theorem d14_67 : decode cd14 67 = .ok (.idiv, 1) := by decide +kernel
theorem d14_68 : decode cd14 68 = .ok (.iadd, 1) := by decide +kernel
theorem d14_69 : decode cd14 69 = .ok (.ireturn, 1) := by decide +kernel
theorem ef_draw (m : MethodId) (ch : Addr) : entryFrame m #[(.ref ch)] 3 = mkF m 0 #[.val (.ref ch), .unset, .unset] [] := by first | (simp [entryFrame, mkF, argsToLocals, Value.category]; done) | rfl
def Q_draw (Z : State) (ch fn ln bl fg : Addr) (spc : Int32) (ldr : Int64) (hv tv spv fev : Value) (h0 : Heap) (n0 : Nat) (v : Option Value) (h : Heap) (L : List Loc) : Prop := v = some (.int (own_lanes ldr)) ∧ Fr n0 L ∧ Keep h0 h [ch] ∧ Exa Z h ch sg3 ∧ xF8 Z h ch hv ∧ xF9 Z h ch tv ∧ xF10 Z h ch (.ref fn) ∧ xF11 Z h ch (.ref ln) ∧ xF12 Z h ch (.ref bl) ∧ xF13 Z h ch spv ∧ xF14 Z h ch (.int spc) ∧ xF15 Z h ch (.long (own_next ldr)) ∧ xF16 Z h ch fev ∧ xF17 Z h ch (.ref fg)
set_option maxRecDepth 65536 in
set_option maxHeartbeats 40000000 in
theorem rm_draw (l : Launch) (Z : State) (a0 : Array Value) (hw : hwT Z a0) (ws : List Jvm.Cond) (ch fn ln bl fg : Addr) (spc : Int32) (ldr : Int64) (hv tv spv fev : Value) (h0 : Heap) (n0 : Nat) (Z0 : n0 ≤ h0.size) (P0_ : Exa Z h0 ch sg3) (P1_ : xF8 Z h0 ch hv) (P2_ : xF9 Z h0 ch tv) (P3_ : xF10 Z h0 ch (.ref fn)) (P4_ : xF11 Z h0 ch (.ref ln)) (P5_ : xF12 Z h0 ch (.ref bl)) (P6_ : xF13 Z h0 ch spv) (P7_ : xF14 Z h0 ch (.int spc)) (P8_ : xF15 Z h0 ch (.long ldr)) (P9_ : xF16 Z h0 ch fev) (P10_ : xF17 Z h0 ch (.ref fg)) (g_ch : n0 ≤ ch) :
  oMF l Z mn14 (Jvm.Cond.code mn14 prog_2_method_25_code 3 (some .int)) ws (rO 2 0 0 29) #[(.ref ch)] h0 (Q_draw Z ch fn ln bl fg spc ldr hv tv spv fev h0 n0) := by
 refine MetFree.of_bodySF (plainFor_of_name pn_ordc) hisR ?_
 intro p e s m args below meth c s₁ Bd hml0 hP hK
 obtain ⟨rfl, hZ, hh⟩ := hP
 have hx := Bd.exec
 have hby := Bd.bytes
 have B : ∀ {pc r}, decode cd14 pc = r → decode c.code pc = r := fun h => hb hby h
 have hml : c.maxLocals = 3 := hml0
 have hown : s.vm.findClass sg3 = some m.cls := findClass_of_methodNamed Bd.named
 have hnm := (name_of_methodNamed Bd.named Bd.method).1
 have X0 : Stand p l e (rO 2 0 0 29) s m #[(.ref ch)] below meth c s₁ [] 0 0 := Stand.of_body Bd
 have e0 : s₁.heap = h0 := by rw [← hh, Bd.state]; rfl
 have N0 := Fr.nil n0
 refine own_in ?_
 refine own_go (S' := s₁.setTop (mkF m 0 #[zr ch, zu, zu] [])) (fun tgt_ stp_ => castTop (ef_draw m ch) stp_) ?_
 have K0 : Keep h0 h0 [ch] := Keep.refl h0 _
 obtain ⟨T_1, X_1, e_1, st_1⟩ := getF X0 hx hZ hown (oV hw 50 rfl) Via.refl e0 P8_ (g := (mkF m 2 #[zr ch, zu, zu] [(.ref ch), (.ref ch)])) rfl rfl (B d14_2)
 obtain ⟨T_2, X_2, e_2, st_2⟩ := getF X_1 hx hZ hown (oV hw 50 rfl) Via.refl e_1 P8_ (g := (mkF m 6 #[zr ch, zu, zu] [(.ref ch), (.long ldr), (.ref ch)])) rfl rfl (B d14_6)
 obtain ⟨T_3, h_3, X_3, e_3, W_3, st_3⟩ := putF X_2 hx hZ hown (oV hw 50 rfl) Via.refl e_2 P8_ P0_ (Or.inl (oW hw 51 rfl)) (oW hw 18 rfl) (ty := .long) (by decide) rfl rfl (g := (mkF m 13 #[zr ch, zu, zu] [(.long (ldr ^^^ ((ldr.toUInt64 >>> ((12 : Int32) &&& 0x3f).toInt64.toUInt64).toInt64))), (.ref ch)])) rfl rfl (B d14_13)
 obtain ⟨Lg_3, XG_3, N_3⟩ := own_gen X_3 (Fr.snoc X_3 N0 g_ch)
 have F_3 := P8_.same W_3
 have Z_4 := Nat.le_trans Z0 (Keep.of_wr W_3).1
 have K_5 : Keep h0 h_3 [ch] := K0.wr W_3 (oK 0 rfl)
 have d_6 : xF15 Z h_3 ch (.long (own_d1 ldr)) := F_3
 obtain ⟨T_7, X_7, e_7, st_7⟩ := getF XG_3 hx hZ hown (oV hw 50 rfl) Via.refl e_3 d_6 (g := (mkF m 18 #[zr ch, zu, zu] [(.ref ch), (.ref ch)])) rfl rfl (B d14_18)
 obtain ⟨T_8, X_8, e_8, st_8⟩ := getF X_7 hx hZ hown (oV hw 50 rfl) Via.refl e_7 d_6 (g := (mkF m 22 #[zr ch, zu, zu] [(.ref ch), (.long (own_d1 ldr)), (.ref ch)])) rfl rfl (B d14_22)
 have f_9 := (P0_.wr W_3)
 obtain ⟨T_10, h_10, X_10, e_10, W_10, st_10⟩ := putF X_8 hx hZ hown (oV hw 50 rfl) Via.refl e_8 d_6 f_9 (Or.inl (oW hw 51 rfl)) (oW hw 18 rfl) (ty := .long) (by decide) rfl rfl (g := (mkF m 29 #[zr ch, zu, zu] [(.long ((own_d1 ldr) ^^^ ((own_d1 ldr) <<< ((25 : Int32) &&& 0x3f).toInt64))), (.ref ch)])) rfl rfl (B d14_29)
 obtain ⟨Lg_10, XG_10, N_10⟩ := own_gen X_10 (Fr.snoc X_10 N_3 g_ch)
 have F_10 := d_6.same W_10
 have Z_11 := Nat.le_trans Z_4 (Keep.of_wr W_10).1
 have K_12 : Keep h0 h_10 [ch] := K_5.wr W_10 (oK 0 rfl)
 have d_13 : xF15 Z h_10 ch (.long (own_d2 ldr)) := F_10
 obtain ⟨T_14, X_14, e_14, st_14⟩ := getF XG_10 hx hZ hown (oV hw 50 rfl) Via.refl e_10 d_13 (g := (mkF m 34 #[zr ch, zu, zu] [(.ref ch), (.ref ch)])) rfl rfl (B d14_34)
 obtain ⟨T_15, X_15, e_15, st_15⟩ := getF X_14 hx hZ hown (oV hw 50 rfl) Via.refl e_14 d_13 (g := (mkF m 38 #[zr ch, zu, zu] [(.ref ch), (.long (own_d2 ldr)), (.ref ch)])) rfl rfl (B d14_38)
 have f_16 := (f_9.wr W_10)
 obtain ⟨T_17, h_17, X_17, e_17, W_17, st_17⟩ := putF X_15 hx hZ hown (oV hw 50 rfl) Via.refl e_15 d_13 f_16 (Or.inl (oW hw 51 rfl)) (oW hw 18 rfl) (ty := .long) (by decide) rfl rfl (g := (mkF m 45 #[zr ch, zu, zu] [(.long ((own_d2 ldr) ^^^ (((own_d2 ldr).toUInt64 >>> ((27 : Int32) &&& 0x3f).toInt64.toUInt64).toInt64))), (.ref ch)])) rfl rfl (B d14_45)
 obtain ⟨Lg_17, XG_17, N_17⟩ := own_gen X_17 (Fr.snoc X_17 N_10 g_ch)
 have F_17 := d_13.same W_17
 have Z_18 := Nat.le_trans Z_11 (Keep.of_wr W_17).1
 have K_19 : Keep h0 h_17 [ch] := K_12.wr W_17 (oK 0 rfl)
 have d_20 : xF15 Z h_17 ch (.long (own_next ldr)) := F_17
 obtain ⟨T_21, X_21, e_21, st_21⟩ := getF XG_17 hx hZ hown (oV hw 50 rfl) Via.refl e_17 d_20 (g := (mkF m 49 #[zr ch, zu, zu] [(.ref ch)])) rfl rfl (B d14_49)
 obtain ⟨_, _, ⟨T_22, L_22, k_22, n_22⟩, -, X_22, ⟨Lc_22, hQ_22, l_22, y_22, z_22⟩, st_22⟩ := Jvm.LawKit.callS X_21 hx (y := mn13) hown (oT hZ hw 106 rfl) (oT hZ hw 107 rfl) (oT hZ hw 108 rfl) (oT hZ hw 109 rfl) (by decide) (backOf (W := 1) (rm_nlzL l Z a0 hw [] ((own_bits ldr) ||| (2199023255552 : Int64))  h_17 n0 Z_18 ) hZ (oW hw 109 rfl) (oW hw 108 rfl) (by decide) (by decide)) (g := (mkF m 63 #[zr ch, .val (.long (own_bits ldr)), zs] [(.long ((own_bits ldr) ||| (2199023255552 : Int64))), (.int (1 : Int32))])) rfl (by rw [hml]; rfl) (argsL := [(.long ((own_bits ldr) ||| (2199023255552 : Int64)))]) (rest := [(.int (1 : Int32))]) (lenOf pd6 rfl) rfl (oQ rfl) (B d14_63) (fun _ _ => ⟨rfl, e_21, (by decide : 0 + 0 ≤ _), (by decide : 0 + 0 ≤ _)⟩)
 dsimp only [Pt.U, Pt.locs, Pt.cells, Pt.slots] at X_22 l_22 y_22 z_22 st_22 hQ_22
 subst y_22 z_22
 obtain ⟨rfl, N_22q, p_22_0⟩ := hQ_22
 have N_22 : Fr n0 L_22 := by rw [l_22]; exact Fr.app N_17 N_22q
 clear l_22
 refine own_go (S' := T_22.setTop (mkF m 69 #[zr ch, .val (.long (own_bits ldr)), zs] [(.int ((1 : Int32) + ((own_nlzL ((own_bits ldr) ||| (2199023255552 : Int64))) / (2 : Int32))))])) (fun target kt => ?_) ?_
 ·
  show oSt p e below s₁ m 0 #[zr ch, zu, zu] [] target
  refine XS.aloadN X0.here hx rfl (B d14_0) rfl rfl ?_
  refine XS.dup X0.here hx rfl (B d14_1) rfl rfl ?_
  refine st_1 _ ?_
  refine XS.aloadN X_1.here hx rfl (B d14_5) rfl rfl ?_
  refine st_2 _ ?_
  refine XS.bipush X_2.here hx rfl (B d14_9) ?_
  refine XS.lushr X_2.here hx rfl (B d14_11) rfl ?_
  refine XS.lxor X_2.here hx rfl (B d14_12) rfl ?_
  refine st_3 _ ?_
  refine XS.aloadN XG_3.here hx rfl (B d14_16) rfl rfl ?_
  refine XS.dup XG_3.here hx rfl (B d14_17) rfl rfl ?_
  refine st_7 _ ?_
  refine XS.aloadN X_7.here hx rfl (B d14_21) rfl rfl ?_
  refine st_8 _ ?_
  refine XS.bipush X_8.here hx rfl (B d14_25) ?_
  refine XS.lshl X_8.here hx rfl (B d14_27) rfl ?_
  refine XS.lxor X_8.here hx rfl (B d14_28) rfl ?_
  show oSt p e below T_8 m 29 #[zr ch, zu, zu] [(.long ((own_d1 ldr) ^^^ ((own_d1 ldr) <<< ((25 : Int32) &&& 0x3f).toInt64))), (.ref ch)] target
  refine st_10 _ ?_
  refine XS.aloadN XG_10.here hx rfl (B d14_32) rfl rfl ?_
  refine XS.dup XG_10.here hx rfl (B d14_33) rfl rfl ?_
  refine st_14 _ ?_
  refine XS.aloadN X_14.here hx rfl (B d14_37) rfl rfl ?_
  refine st_15 _ ?_
  refine XS.bipush X_15.here hx rfl (B d14_41) ?_
  refine XS.lushr X_15.here hx rfl (B d14_43) rfl ?_
  refine XS.lxor X_15.here hx rfl (B d14_44) rfl ?_
  refine st_17 _ ?_
  refine XS.aloadN XG_17.here hx rfl (B d14_48) rfl rfl ?_
  refine st_21 _ ?_
  refine X_21.ldc2Long hx hown (oT hZ hw 104 rfl) (g := (mkF m 52 #[zr ch, zu, zu] [(.long (own_next ldr))])) rfl (B d14_52) _ ?_
  refine XS.lmul X_21.here hx rfl (B d14_55) rfl ?_
  refine XS.lstoreN X_21.here hx rfl (B d14_56) rfl (l' := #[zr ch, .val (.long ((own_next ldr) * (2685821657736338717 : Int64))), zs]) rfl ?_
  refine XS.iconst X_21.here hx rfl (B d14_57) ?_
  show oSt p e below T_21 m 58 #[zr ch, .val (.long (own_bits ldr)), zs] [(.int (1 : Int32))] target
  refine XS.lloadN X_21.here hx rfl (B d14_58) rfl ?_
  refine X_21.ldc2Long hx hown (oT hZ hw 105 rfl) (g := (mkF m 59 #[zr ch, .val (.long (own_bits ldr)), zs] [(.long (own_bits ldr)), (.int (1 : Int32))])) rfl (B d14_59) _ ?_
  refine XS.lor X_21.here hx rfl (B d14_62) rfl ?_
  refine st_22 _ ?_
  refine XS.iconst X_22.here hx rfl (B d14_66) ?_
  refine XS.idiv X_22.here hx rfl (B d14_67) rfl (by decide) ?_
  refine XS.iadd X_22.here hx rfl (B d14_68) rfl ?_
  exact kt
 obtain ⟨fs, hr, hrun, hended, hW, hsame⟩ := X_22.leave (v := some (.int ((1 : Int32) + ((own_nlzL ((own_bits ldr) ||| (2199023255552 : Int64))) / (2 : Int32))))) (fun h => by rw [Bd.returns] at h; cases h)
 refine ⟨_, _, retI X_22 hx Bd.returns (B d14_69) hr, hrun, hended, _, _, rfl, ?_, ⟨_, rfl⟩, hW, hsame.mono (by decide) (by decide)⟩
 show Q_draw Z ch fn ln bl fg spc ldr hv tv spv fev h0 n0 _ T_22.heap _
 rw [p_22_0]
 have f_23 := (f_16.wr W_17)
 have f_24 := (((P1_.other W_3 (Or.inr (sn_21 hw))).other W_10 (Or.inr (sn_21 hw))).other W_17 (Or.inr (sn_21 hw)))
 have f_25 := (((P2_.other W_3 (Or.inr (sn_22 hw))).other W_10 (Or.inr (sn_22 hw))).other W_17 (Or.inr (sn_22 hw)))
 have f_26 := (((P3_.other W_3 (Or.inr (sn_23 hw))).other W_10 (Or.inr (sn_23 hw))).other W_17 (Or.inr (sn_23 hw)))
 have f_27 := (((P4_.other W_3 (Or.inr (sn_24 hw))).other W_10 (Or.inr (sn_24 hw))).other W_17 (Or.inr (sn_24 hw)))
 have f_28 := (((P5_.other W_3 (Or.inr (sn_25 hw))).other W_10 (Or.inr (sn_25 hw))).other W_17 (Or.inr (sn_25 hw)))
 have f_29 := (((P6_.other W_3 (Or.inr (sn_26 hw))).other W_10 (Or.inr (sn_26 hw))).other W_17 (Or.inr (sn_26 hw)))
 have f_30 := (((P7_.other W_3 (Or.inr (sn_27 hw))).other W_10 (Or.inr (sn_27 hw))).other W_17 (Or.inr (sn_27 hw)))
 have f_31 := (((P9_.other W_3 (Or.inr (sn_28 hw))).other W_10 (Or.inr (sn_28 hw))).other W_17 (Or.inr (sn_28 hw)))
 have f_32 := (((P10_.other W_3 (Or.inr (sn_29 hw))).other W_10 (Or.inr (sn_29 hw))).other W_17 (Or.inr (sn_29 hw)))
 exact ⟨(congrArg (fun z => some (Value.int z)) (rfl)), N_22, K_19, f_23, f_24, f_25, f_26, f_27, f_28, f_29, f_30, d_20, f_31, f_32⟩
-- com/example/carillon/carillon/Chain$Node.<init>:()V
theorem d15_0 : decode cd15 0 = .ok (.aload_n 0, 1) := by decide +kernel
theorem d15_1 : decode cd15 1 = .ok (.invokespecial 1, 3) := by decide +kernel
theorem d15_4 : decode cd15 4 = .ok (.return_, 1) := by decide +kernel
theorem pn_ni : plainName "com/example/carillon/carillon/Chain$Node" = true := by first | (simp [plainName, overriddenIn]; done) | decide +kernel
def Q_ni (Z : State) (a1 : Addr) (h0 : Heap) (n0 : Nat) (v : Option Value) (h : Heap) (L : List Loc) : Prop := v = none ∧ Fr n0 L ∧ h = h0
set_option maxRecDepth 65536 in
set_option maxHeartbeats 40000000 in
theorem rm_ni (l : Launch) (Z : State) (a0 : Array Value) (hw : hwT Z a0) (ws : List Jvm.Cond) (a1 : Addr) (h0 : Heap) (n0 : Nat) (Z0 : n0 ≤ h0.size) :
  oMF l Z mn15 (Jvm.Cond.code mn15 prog_3_method_1_code 1 none) ws (rO 1 0 0 12) #[(.ref a1)] h0 (Q_ni Z a1 h0 n0) := by
 refine MetFree.of_bodySF (plainFor_of_name pn_ni) hisR ?_
 intro p e s m args below meth c s₁ Bd hml0 hP hK
 obtain ⟨rfl, hZ, hh⟩ := hP
 have hx := Bd.exec
 have hby := Bd.bytes
 have B : ∀ {pc r}, decode cd15 pc = r → decode c.code pc = r := fun h => hb hby h
 have hml : c.maxLocals = 1 := hml0
 have hown : s.vm.findClass sg5 = some m.cls := findClass_of_methodNamed Bd.named
 have hnm := (name_of_methodNamed Bd.named Bd.method).1
 have X0 : Stand p l e (rO 1 0 0 12) s m #[(.ref a1)] below meth c s₁ [] 0 0 := Stand.of_body Bd
 have e0 : s₁.heap = h0 := by rw [← hh, Bd.state]; rfl
 have N0 := Fr.nil n0
 refine own_in ?_
 refine own_go (S' := s₁.setTop (mkF m 0 #[zr a1] [])) (fun tgt_ stp_ => castTop (ef_mi m a1) stp_) ?_
 obtain ⟨T_1, X_1, e_1, st_1⟩ := initO X0 hx hZ hown (oW hw 136 rfl) (oW hw 7 rfl) (oW hw 8 rfl) e0 (g := (mkF m 1 #[zr a1] [(.ref a1)])) rfl (by rw [hml]; rfl) rfl (B d15_1) (by decide) (W := 0) (oQ rfl) (by decide)
 refine own_go (S' := T_1.setTop (mkF m 4 #[zr a1] [])) (fun target kt => ?_) ?_
 ·
  show oSt p e below s₁ m 0 #[zr a1] [] target
  refine XS.aloadN X0.here hx rfl (B d15_0) rfl rfl ?_
  refine st_1 _ ?_
  exact kt
 obtain ⟨fs, hr, hrun, hended, hW, hsame⟩ := X_1.leave (v := none) (fun _ => rfl)
 refine ⟨_, _, X_1.returnOut hx Bd.returns (B d15_4) hr, hrun, hended, _, _, rfl, ?_, ⟨_, rfl⟩, hW, hsame.mono (by decide) (by decide)⟩
 show Q_ni Z a1 h0 n0 _ T_1.heap _
 rw [e_1]
 exact ⟨rfl, N0, rfl⟩
-- com/example/carillon/carillon/Chain.newNode:(Lcom/example/carillon/carillon/Message;)Lcom/example/carillon/carillon/Chain$Node;
theorem d16_0 : decode cd16 0 = .ok (.aload_n 0, 1) := by decide +kernel
theorem d16_1 : decode cd16 1 = .ok (.getfield 176, 3) := by decide +kernel
theorem d16_4 : decode cd16 4 = .ok (.astore_n 2, 1) := by decide +kernel
theorem d16_5 : decode cd16 5 = .ok (.aload_n 2, 1) := by decide +kernel
theorem d16_6 : decode cd16 6 = .ok (.ifnonnull 14, 3) := by decide +kernel
theorem d16_9 : decode cd16 9 = .ok (.new 9, 3) := by decide +kernel
theorem d16_12 : decode cd16 12 = .ok (.dup, 1) := by decide +kernel
theorem d16_13 : decode cd16 13 = .ok (.invokespecial 179, 3) := by decide +kernel
theorem d16_16 : decode cd16 16 = .ok (.astore_n 2, 1) := by decide +kernel
theorem d16_17 : decode cd16 17 = .ok (.goto 26, 3) := by decide +kernel
theorem d16_43 : decode cd16 43 = .ok (.aload_n 2, 1) := by decide +kernel
theorem d16_44 : decode cd16 44 = .ok (.aload_n 1, 1) := by decide +kernel
theorem d16_45 : decode cd16 45 = .ok (.putfield 129, 3) := by decide +kernel
theorem d16_48 : decode cd16 48 = .ok (.aload_n 2, 1) := by decide +kernel
theorem d16_49 : decode cd16 49 = .ok (.areturn, 1) := by decide +kernel
theorem ef_newn (m : MethodId) (ch mx : Addr) : entryFrame m #[(.ref ch), (.ref mx)] 3 = mkF m 0 #[.val (.ref ch), .val (.ref mx), .unset] [] := by first | (simp [entryFrame, mkF, argsToLocals, Value.category]; done) | rfl
def Q_newn (Z : State) (ch mx : Addr) (h0 : Heap) (n0 : Nat) (v : Option Value) (h : Heap) (L : List Loc) : Prop := ∃ (nd : Addr), v = some (.ref nd) ∧ Fr n0 L ∧ Keep h0 h [] ∧ Exa Z h nd sg5 ∧ xF18 Z h nd (.ref mx) ∧ xF19 Z h nd .null ∧ xF20 Z h nd .null ∧ h0.size ≤ nd
set_option maxRecDepth 65536 in
set_option maxHeartbeats 40000000 in
theorem rm_newn (l : Launch) (Z : State) (a0 : Array Value) (hw : hwT Z a0) (ws : List Jvm.Cond) (ch mx : Addr) (h0 : Heap) (n0 : Nat) (Z0 : n0 ≤ h0.size) (P0_ : Exa Z h0 ch sg3) (P1_ : xF13 Z h0 ch .null) :
  oMF l Z mn16 (Jvm.Cond.code mn16 prog_2_method_24_code 3 (some (.object sg5))) ws (rO 2 1 3 25) #[(.ref ch), (.ref mx)] h0 (Q_newn Z ch mx h0 n0) := by
 refine MetFree.of_bodySF (plainFor_of_name pn_ordc) hisR ?_
 intro p e s m args below meth c s₁ Bd hml0 hP hK
 obtain ⟨rfl, hZ, hh⟩ := hP
 have hx := Bd.exec
 have hby := Bd.bytes
 have B : ∀ {pc r}, decode cd16 pc = r → decode c.code pc = r := fun h => hb hby h
 have hml : c.maxLocals = 3 := hml0
 have hown : s.vm.findClass sg3 = some m.cls := findClass_of_methodNamed Bd.named
 have hnm := (name_of_methodNamed Bd.named Bd.method).1
 have X0 : Stand p l e (rO 2 1 3 25) s m #[(.ref ch), (.ref mx)] below meth c s₁ [] 0 0 := Stand.of_body Bd
 have e0 : s₁.heap = h0 := by rw [← hh, Bd.state]; rfl
 have N0 := Fr.nil n0
 refine own_in ?_
 refine own_go (S' := s₁.setTop (mkF m 0 #[zr ch, zr mx, zu] [])) (fun tgt_ stp_ => castTop (ef_newn m ch mx) stp_) ?_
 have K0 : Keep h0 h0 [] := Keep.refl h0 _
 obtain ⟨T_1, X_1, e_1, st_1⟩ := getF X0 hx hZ hown (oV hw 129 rfl) Via.refl e0 P1_ (g := (mkF m 1 #[zr ch, zr mx, zu] [(.ref ch)])) rfl rfl (B d16_1)
 obtain ⟨T_2, h_2, X_2, e_2, E_2, A_2, D_2, -, st_2⟩ := newO X_1 hx hZ hown (oW hw 24 rfl) (oW hw 131 rfl) (oW hw 132 rfl) e_1 (g := (mkF m 9 #[zr ch, zr mx, zn] [])) rfl (B d16_9) (by decide) (by decide)
 obtain ⟨b_2, g_2⟩ : ∃ z, z = h0.size := ⟨_, rfl⟩
 rw [← g_2] at A_2 D_2 st_2
 have gn_b_2 : n0 ≤ b_2 := Nat.le_trans Z0 (Nat.le_of_eq g_2.symm)
 have sz_b_2 : h0.size ≤ b_2 := Nat.le_trans K0.1 (Nat.le_of_eq g_2.symm)
 have ne_ch_b_2 : ch ≠ b_2 := Nat.ne_of_lt (Nat.lt_of_lt_of_le P0_.lt (Nat.le_of_eq g_2.symm))
 have Z_3 := Nat.le_trans Z0 E_2.1
 have K_4 : Keep h0 h_2 [] := K0.ext E_2
 have F_2_entry : xF18 Z h_2 b_2 .null := D_2 (Or.inl (oW hw 138 rfl)) (ty := (.object sg0)) (by decide)
 have F_2_down : xF20 Z h_2 b_2 .null := D_2 (Or.inl (oW hw 140 rfl)) (ty := (.object sg5)) (by decide)
 have F_2_right : xF19 Z h_2 b_2 .null := D_2 (Or.inl (oW hw 142 rfl)) (ty := (.object sg5)) (by decide)
 obtain ⟨_, _, ⟨T_5, L_5, k_5, n_5⟩, -, X_5, ⟨Lc_5, hQ_5, l_5, y_5, z_5⟩, st_5⟩ := own_specialRef X_2 hx (y := mn15) rfl hown (own_mvR hZ (oW hw 134 rfl) (by decide) (oW hw 133 rfl)) (oT hZ hw 134 rfl) (oT hZ hw 135 rfl) (by decide) (backOf (W := 1) (rm_ni l Z a0 hw [] b_2  h_2 n0 Z_3 ) hZ (oW hw 135 rfl) (oW hw 132 rfl) (by decide) (by decide)) (g := (mkF m 13 #[zr ch, zr mx, zn] [(.ref b_2), (.ref b_2)])) rfl (by rw [hml]; rfl) (Steps.refl _) (a := b_2) (argsL := []) (rest := [(.ref b_2)]) (lenOf pd2 rfl) rfl (oQ rfl) (B d16_13) (fun _ _ => ⟨rfl, e_2, (by decide : 1 + 0 ≤ _), (by decide : 3 + 0 ≤ _)⟩)
 dsimp only [Pt.U, Pt.locs, Pt.cells, Pt.slots] at X_5 l_5 y_5 z_5 st_5 hQ_5
 subst y_5 z_5
 obtain ⟨rfl, N_5q, p_5_0⟩ := hQ_5
 have N_5 : Fr n0 L_5 := by rw [l_5]; exact Fr.app N0 N_5q
 clear l_5
 obtain ⟨T_6, h_6, X_6, e_6, W_6, st_6⟩ := putF X_5 hx hZ hown (oV hw 137 rfl) Via.refl p_5_0 F_2_entry A_2 (Or.inl (oW hw 138 rfl)) (oW hw 131 rfl) (ty := (.object sg0)) (by decide) rfl rfl (g := (mkF m 45 #[zr ch, zr mx, zr b_2] [(.ref mx), (.ref b_2)])) rfl rfl (B d16_45)
 obtain ⟨Lg_6, XG_6, N_6⟩ := own_gen X_6 (Fr.snoc X_6 N_5 gn_b_2)
 have F_6 := F_2_entry.same W_6
 have Z_7 := Nat.le_trans Z_3 (Keep.of_wr W_6).1
 have K_8 : Keep h0 h_6 [] := K_4.wr W_6 (Or.inr sz_b_2)
 refine own_go (S' := T_6.setTop (mkF m 49 #[zr ch, zr mx, zr b_2] [(.ref b_2)])) (fun target kt => ?_) ?_
 ·
  show oSt p e below s₁ m 0 #[zr ch, zr mx, zu] [] target
  refine XS.aloadN X0.here hx rfl (B d16_0) rfl rfl ?_
  refine st_1 _ ?_
  refine XS.astoreN X_1.here hx rfl (B d16_4) rfl rfl (l' := #[zr ch, zr mx, zn]) rfl ?_
  refine XS.aloadN X_1.here hx rfl (B d16_5) rfl rfl ?_
  refine XS.ifnonnullNo X_1.here hx rfl (B d16_6) rfl ?_
  refine st_2 _ ?_
  refine XS.dup X_2.here hx rfl (B d16_12) rfl rfl ?_
  refine st_5.trans ?_
  refine XS.astoreN X_5.here hx rfl (B d16_16) rfl rfl (l' := #[zr ch, zr mx, zr b_2]) rfl ?_
  refine XS.goto X_5.here hx rfl (pc0 := 17) (pc' := 43) rfl (B d16_17) (by decide) (by decide) ?_
  refine XS.aloadN X_5.here hx rfl (B d16_43) rfl rfl ?_
  refine XS.aloadN X_5.here hx rfl (B d16_44) rfl rfl ?_
  refine st_6 _ ?_
  refine XS.aloadN XG_6.here hx rfl (B d16_48) rfl rfl ?_
  exact kt
 obtain ⟨fs, hr, hrun, hended, hW, hsame⟩ := XG_6.leave (v := some (.ref b_2)) (fun h => by rw [Bd.returns] at h; cases h)
 refine ⟨_, _, retOut XG_6 hx Bd.returns rfl (Or.inr (Or.inr (Or.inr (Or.inr ⟨rfl, rfl, rfl⟩)))) (B d16_49) hr, hrun, hended, _, _, rfl, ?_, ⟨_, rfl⟩, hW, hsame.mono (by decide) (by decide)⟩
 show Q_newn Z ch mx h0 n0 _ T_6.heap _
 rw [e_6]
 have f_9 := (A_2.wr W_6)
 have f_10 := (F_2_right.other W_6 (Or.inr (sn_30 hw)))
 have f_11 := (F_2_down.other W_6 (Or.inr (sn_31 hw)))
 exact ⟨b_2, rfl, N_6, K_8, f_9, F_6, f_10, f_11, sz_b_2⟩
-- com/example/carillon/carillon/Chain.linkAfter:(ILcom/example/carillon/carillon/Chain$Node;Lcom/example/carillon/carillon/Chain$Node;)V
theorem d17_0 : decode cd17 0 = .ok (.aload_n 2, 1) := by decide +kernel
theorem d17_1 : decode cd17 1 = .ok (.ifnonnull 15, 3) := by decide +kernel
theorem d17_4 : decode cd17 4 = .ok (.aload_n 0, 1) := by decide +kernel
theorem d17_5 : decode cd17 5 = .ok (.getfield 11, 3) := by decide +kernel
theorem d17_8 : decode cd17 8 = .ok (.iload_n 1, 1) := by decide +kernel
theorem d17_9 : decode cd17 9 = .ok (.iconst 1, 1) := by decide +kernel
theorem d17_10 : decode cd17 10 = .ok (.isub, 1) := by decide +kernel
theorem d17_11 : decode cd17 11 = .ok (.aload_n 3, 1) := by decide +kernel
theorem d17_12 : decode cd17 12 = .ok (.aastore, 1) := by decide +kernel
theorem d17_13 : decode cd17 13 = .ok (.goto 8, 3) := by decide +kernel
theorem d17_21 : decode cd17 21 = .ok (.aload_n 3, 1) := by decide +kernel
theorem d17_22 : decode cd17 22 = .ok (.getfield 125, 3) := by decide +kernel
theorem d17_25 : decode cd17 25 = .ok (.ifnonnull 12, 3) := by decide +kernel
theorem d17_28 : decode cd17 28 = .ok (.aload_n 0, 1) := by decide +kernel
theorem d17_29 : decode cd17 29 = .ok (.getfield 15, 3) := by decide +kernel
theorem d17_32 : decode cd17 32 = .ok (.iload_n 1, 1) := by decide +kernel
theorem d17_33 : decode cd17 33 = .ok (.iconst 1, 1) := by decide +kernel
theorem d17_34 : decode cd17 34 = .ok (.isub, 1) := by decide +kernel
theorem d17_35 : decode cd17 35 = .ok (.aload_n 3, 1) := by decide +kernel
theorem d17_36 : decode cd17 36 = .ok (.aastore, 1) := by decide +kernel
theorem d17_37 : decode cd17 37 = .ok (.return_, 1) := by decide +kernel
theorem ef_lka1 (m : MethodId) (ch nd fn ln : Addr) (kkf kkl : ClassId) : entryFrame m #[(.ref ch), (.int (1 : Int32)), .null, (.ref nd)] 4 = mkF m 0 #[.val (.ref ch), .val (.int (1 : Int32)), .val .null, .val (.ref nd)] [] := by first | (simp [entryFrame, mkF, argsToLocals, Value.category]; done) | rfl
def Q_lka1 (Z : State) (ch nd fn ln : Addr) (kkf kkl : ClassId) (h0 : Heap) (n0 : Nat) (v : Option Value) (h : Heap) (L : List Loc) : Prop := v = none ∧ Fr n0 L ∧ Keep h0 h [fn, ln] ∧ aN Z h fn kkf (.ref nd) .null ∧ aN Z h ln kkl (.ref nd) .null
set_option maxRecDepth 65536 in
set_option maxHeartbeats 40000000 in
theorem rm_lka1 (l : Launch) (Z : State) (a0 : Array Value) (hw : hwT Z a0) (ws : List Jvm.Cond) (ch nd fn ln : Addr) (kkf kkl : ClassId) (h0 : Heap) (n0 : Nat) (Z0 : n0 ≤ h0.size) (P0_ : xF10 Z h0 ch (.ref fn)) (P1_ : xF11 Z h0 ch (.ref ln)) (P2_ : Exa Z h0 nd sg5) (P3_ : xF19 Z h0 nd .null) (P4_ : aN Z h0 fn kkf .null .null) (P5_ : aN Z h0 ln kkl .null .null) (Okkf : Ovr Z kkf sg5) (Okkl : Ovr Z kkl sg5) (g_fn : n0 ≤ fn) (g_ln : n0 ≤ ln) (n_ch_fn : ch ≠ fn) (n_ch_ln : ch ≠ ln) (n_nd_fn : nd ≠ fn) (n_nd_ln : nd ≠ ln) (n_fn_ln : fn ≠ ln) :
  oMF l Z mn17 (Jvm.Cond.code mn17 prog_2_method_22_code 4 none) ws (rO 0 0 0 0) #[(.ref ch), (.int (1 : Int32)), .null, (.ref nd)] h0 (Q_lka1 Z ch nd fn ln kkf kkl h0 n0) := by
 refine MetFree.of_bodySF (plainFor_of_name pn_ordc) hisR ?_
 intro p e s m args below meth c s₁ Bd hml0 hP hK
 obtain ⟨rfl, hZ, hh⟩ := hP
 have hx := Bd.exec
 have hby := Bd.bytes
 have B : ∀ {pc r}, decode cd17 pc = r → decode c.code pc = r := fun h => hb hby h
 have hml : c.maxLocals = 4 := hml0
 have hown : s.vm.findClass sg3 = some m.cls := findClass_of_methodNamed Bd.named
 have hnm := (name_of_methodNamed Bd.named Bd.method).1
 have X0 : Stand p l e (rO 0 0 0 0) s m #[(.ref ch), (.int (1 : Int32)), .null, (.ref nd)] below meth c s₁ [] 0 0 := Stand.of_body Bd
 have e0 : s₁.heap = h0 := by rw [← hh, Bd.state]; rfl
 have N0 := Fr.nil n0
 refine own_in ?_
 refine own_go (S' := s₁.setTop (mkF m 0 #[zr ch, zi 1, zn, zr nd] [])) (fun tgt_ stp_ => castTop (ef_lka1 m ch nd fn ln kkf kkl) stp_) ?_
 have K0 : Keep h0 h0 [fn, ln] := Keep.refl h0 _
 obtain ⟨T_1, X_1, e_1, st_1⟩ := getF X0 hx hZ hown (oV hw 26 rfl) Via.refl e0 P0_ (g := (mkF m 5 #[zr ch, zi 1, zn, zr nd] [(.ref ch)])) rfl rfl (B d17_5)
 obtain ⟨c_2, Ar_2, q_2, S_2, M_2, Hs_2, G_2⟩ := id P4_
 have hin_2 : ¬ ((0 : Int32) < 0 ∨ c_2.slots.size ≤ ((0 : Int32)).toNatClampNeg) := inb_of S_2 ⟨by decide, by decide⟩
 obtain ⟨T_2, h_2, X_2, e_2, W_2, st_2⟩ := stR X_1 hx hZ e_1 Ar_2 (j := (0 : Int32)) hin_2 rfl (Sto.ofV Ar_2 q_2 Okkf (Ins.self P2_)) (g := (mkF m 12 #[zr ch, zi 1, zn, zr nd] [(.ref nd), (.int (0 : Int32)), (.ref fn)])) rfl rfl (B d17_12)
 obtain ⟨Lg_2, XG_2, N_2⟩ := own_gen X_2 (Fr.snoc X_2 N0 g_fn)
 have V_2 : aN Z h_2 fn kkf (.ref nd) .null := Arv.set Ar_2 q_2 S_2 M_2 Hs_2 G_2 rfl W_2 0 rfl (Nat.le_of_ble_eq_true rfl)
 have Z_3 := Nat.le_trans Z0 (Keep.of_wr W_2).1
 have K_4 : Keep h0 h_2 [fn, ln] := K0.wr W_2 (oK 0 rfl)
 have f_5 := (P3_.other W_2 (Or.inl n_nd_fn))
 obtain ⟨T_6, X_6, e_6, st_6⟩ := getF XG_2 hx hZ hown (oV hw 141 rfl) Via.refl e_2 f_5 (g := (mkF m 22 #[zr ch, zi 1, zn, zr nd] [(.ref nd)])) rfl rfl (B d17_22)
 have f_7 := (P1_.other W_2 (Or.inl n_ch_fn))
 obtain ⟨T_8, X_8, e_8, st_8⟩ := getF X_6 hx hZ hown (oV hw 28 rfl) Via.refl e_6 f_7 (g := (mkF m 29 #[zr ch, zi 1, zn, zr nd] [(.ref ch)])) rfl rfl (B d17_29)
 have f_9 := (P5_.other W_2 (Ne.symm n_fn_ln))
 have f_10 := (P2_.wr W_2)
 obtain ⟨c_11, Ar_11, q_11, S_11, M_11, Hs_11, G_11⟩ := id f_9
 have hin_11 : ¬ ((0 : Int32) < 0 ∨ c_11.slots.size ≤ ((0 : Int32)).toNatClampNeg) := inb_of S_11 ⟨by decide, by decide⟩
 obtain ⟨T_11, h_11, X_11, e_11, W_11, st_11⟩ := stR X_8 hx hZ e_8 Ar_11 (j := (0 : Int32)) hin_11 rfl (Sto.ofV Ar_11 q_11 Okkl (Ins.self f_10)) (g := (mkF m 36 #[zr ch, zi 1, zn, zr nd] [(.ref nd), (.int (0 : Int32)), (.ref ln)])) rfl rfl (B d17_36)
 obtain ⟨Lg_11, XG_11, N_11⟩ := own_gen X_11 (Fr.snoc X_11 N_2 g_ln)
 have V_11 : aN Z h_11 ln kkl (.ref nd) .null := Arv.set Ar_11 q_11 S_11 M_11 Hs_11 G_11 rfl W_11 0 rfl (Nat.le_of_ble_eq_true rfl)
 have Z_12 := Nat.le_trans Z_3 (Keep.of_wr W_11).1
 have K_13 : Keep h0 h_11 [fn, ln] := K_4.wr W_11 (oK 1 rfl)
 refine own_go (S' := T_11.setTop (mkF m 37 #[zr ch, zi 1, zn, zr nd] [])) (fun target kt => ?_) ?_
 ·
  show oSt p e below s₁ m 0 #[zr ch, zi 1, zn, zr nd] [] target
  refine XS.aloadN X0.here hx rfl (B d17_0) rfl rfl ?_
  refine XS.ifnonnullNo X0.here hx rfl (B d17_1) rfl ?_
  refine XS.aloadN X0.here hx rfl (B d17_4) rfl rfl ?_
  refine st_1 _ ?_
  refine XS.iloadN X_1.here hx rfl (B d17_8) rfl ?_
  refine XS.iconst X_1.here hx rfl (B d17_9) ?_
  refine XS.isub X_1.here hx rfl (B d17_10) rfl ?_
  show oSt p e below T_1 m 11 #[zr ch, zi 1, zn, zr nd] [(.int ((1 : Int32) - (1 : Int32))), (.ref fn)] target
  rw [show (1 : Int32) - (1 : Int32) = (0 : Int32) from by decide]
  show oSt p e below T_1 m 11 #[zr ch, zi 1, zn, zr nd] [(.int (0 : Int32)), (.ref fn)] target
  refine XS.aloadN X_1.here hx rfl (B d17_11) rfl rfl ?_
  refine st_2 _ ?_
  refine XS.goto XG_2.here hx rfl (pc0 := 13) (pc' := 21) rfl (B d17_13) (by decide) (by decide) ?_
  refine XS.aloadN XG_2.here hx rfl (B d17_21) rfl rfl ?_
  refine st_6 _ ?_
  refine XS.ifnonnullNo X_6.here hx rfl (B d17_25) rfl ?_
  refine XS.aloadN X_6.here hx rfl (B d17_28) rfl rfl ?_
  refine st_8 _ ?_
  refine XS.iloadN X_8.here hx rfl (B d17_32) rfl ?_
  refine XS.iconst X_8.here hx rfl (B d17_33) ?_
  refine XS.isub X_8.here hx rfl (B d17_34) rfl ?_
  show oSt p e below T_8 m 35 #[zr ch, zi 1, zn, zr nd] [(.int ((1 : Int32) - (1 : Int32))), (.ref ln)] target
  rw [show (1 : Int32) - (1 : Int32) = (0 : Int32) from by decide]
  show oSt p e below T_8 m 35 #[zr ch, zi 1, zn, zr nd] [(.int (0 : Int32)), (.ref ln)] target
  refine XS.aloadN X_8.here hx rfl (B d17_35) rfl rfl ?_
  refine st_11 _ ?_
  exact kt
 obtain ⟨fs, hr, hrun, hended, hW, hsame⟩ := XG_11.leave (v := none) (fun _ => rfl)
 refine ⟨_, _, XG_11.returnOut hx Bd.returns (B d17_37) hr, hrun, hended, _, _, rfl, ?_, ⟨_, rfl⟩, hW, hsame.mono (by decide) (by decide)⟩
 show Q_lka1 Z ch nd fn ln kkf kkl h0 n0 _ T_11.heap _
 rw [e_11]
 have f_14 := (V_2.other W_11 n_fn_ln)
 exact ⟨rfl, N_11, K_13, f_14, V_11⟩
-- com/example/carillon/carillon/Chain.linkAfter:(ILcom/example/carillon/carillon/Chain$Node;Lcom/example/carillon/carillon/Chain$Node;)V
theorem ef_lka2 (m : MethodId) (ch nd fn ln na : Addr) (kkf kkl : ClassId) : entryFrame m #[(.ref ch), (.int (2 : Int32)), .null, (.ref nd)] 4 = mkF m 0 #[.val (.ref ch), .val (.int (2 : Int32)), .val .null, .val (.ref nd)] [] := by first | (simp [entryFrame, mkF, argsToLocals, Value.category]; done) | rfl
def Q_lka2 (Z : State) (ch nd fn ln na : Addr) (kkf kkl : ClassId) (h0 : Heap) (n0 : Nat) (v : Option Value) (h : Heap) (L : List Loc) : Prop := v = none ∧ Fr n0 L ∧ Keep h0 h [fn, ln] ∧ aN Z h fn kkf (.ref na) (.ref nd) ∧ aN Z h ln kkl (.ref na) (.ref nd)
set_option maxRecDepth 65536 in
set_option maxHeartbeats 40000000 in
theorem rm_lka2 (l : Launch) (Z : State) (a0 : Array Value) (hw : hwT Z a0) (ws : List Jvm.Cond) (ch nd fn ln na : Addr) (kkf kkl : ClassId) (h0 : Heap) (n0 : Nat) (Z0 : n0 ≤ h0.size) (P0_ : xF10 Z h0 ch (.ref fn)) (P1_ : xF11 Z h0 ch (.ref ln)) (P2_ : Exa Z h0 nd sg5) (P3_ : xF19 Z h0 nd .null) (P4_ : aN Z h0 fn kkf (.ref na) .null) (P5_ : aN Z h0 ln kkl (.ref na) .null) (Okkf : Ovr Z kkf sg5) (Okkl : Ovr Z kkl sg5) (g_fn : n0 ≤ fn) (g_ln : n0 ≤ ln) (n_ch_fn : ch ≠ fn) (n_ch_ln : ch ≠ ln) (n_nd_fn : nd ≠ fn) (n_nd_ln : nd ≠ ln) (n_fn_ln : fn ≠ ln) :
  oMF l Z mn17 (Jvm.Cond.code mn17 prog_2_method_22_code 4 none) ws (rO 0 0 0 0) #[(.ref ch), (.int (2 : Int32)), .null, (.ref nd)] h0 (Q_lka2 Z ch nd fn ln na kkf kkl h0 n0) := by
 refine MetFree.of_bodySF (plainFor_of_name pn_ordc) hisR ?_
 intro p e s m args below meth c s₁ Bd hml0 hP hK
 obtain ⟨rfl, hZ, hh⟩ := hP
 have hx := Bd.exec
 have hby := Bd.bytes
 have B : ∀ {pc r}, decode cd17 pc = r → decode c.code pc = r := fun h => hb hby h
 have hml : c.maxLocals = 4 := hml0
 have hown : s.vm.findClass sg3 = some m.cls := findClass_of_methodNamed Bd.named
 have hnm := (name_of_methodNamed Bd.named Bd.method).1
 have X0 : Stand p l e (rO 0 0 0 0) s m #[(.ref ch), (.int (2 : Int32)), .null, (.ref nd)] below meth c s₁ [] 0 0 := Stand.of_body Bd
 have e0 : s₁.heap = h0 := by rw [← hh, Bd.state]; rfl
 have N0 := Fr.nil n0
 refine own_in ?_
 refine own_go (S' := s₁.setTop (mkF m 0 #[zr ch, zi 2, zn, zr nd] [])) (fun tgt_ stp_ => castTop (ef_lka2 m ch nd fn ln na kkf kkl) stp_) ?_
 have K0 : Keep h0 h0 [fn, ln] := Keep.refl h0 _
 obtain ⟨T_1, X_1, e_1, st_1⟩ := getF X0 hx hZ hown (oV hw 26 rfl) Via.refl e0 P0_ (g := (mkF m 5 #[zr ch, zi 2, zn, zr nd] [(.ref ch)])) rfl rfl (B d17_5)
 obtain ⟨c_2, Ar_2, q_2, S_2, M_2, Hs_2, G_2⟩ := id P4_
 have hin_2 : ¬ ((1 : Int32) < 0 ∨ c_2.slots.size ≤ ((1 : Int32)).toNatClampNeg) := inb_of S_2 ⟨by decide, by decide⟩
 obtain ⟨T_2, h_2, X_2, e_2, W_2, st_2⟩ := stR X_1 hx hZ e_1 Ar_2 (j := (1 : Int32)) hin_2 rfl (Sto.ofV Ar_2 q_2 Okkf (Ins.self P2_)) (g := (mkF m 12 #[zr ch, zi 2, zn, zr nd] [(.ref nd), (.int (1 : Int32)), (.ref fn)])) rfl rfl (B d17_12)
 obtain ⟨Lg_2, XG_2, N_2⟩ := own_gen X_2 (Fr.snoc X_2 N0 g_fn)
 have V_2 : aN Z h_2 fn kkf (.ref na) (.ref nd) := Arv.set Ar_2 q_2 S_2 M_2 Hs_2 G_2 rfl W_2 1 rfl (Nat.le_of_ble_eq_true rfl)
 have Z_3 := Nat.le_trans Z0 (Keep.of_wr W_2).1
 have K_4 : Keep h0 h_2 [fn, ln] := K0.wr W_2 (oK 0 rfl)
 have f_5 := (P3_.other W_2 (Or.inl n_nd_fn))
 obtain ⟨T_6, X_6, e_6, st_6⟩ := getF XG_2 hx hZ hown (oV hw 141 rfl) Via.refl e_2 f_5 (g := (mkF m 22 #[zr ch, zi 2, zn, zr nd] [(.ref nd)])) rfl rfl (B d17_22)
 have f_7 := (P1_.other W_2 (Or.inl n_ch_fn))
 obtain ⟨T_8, X_8, e_8, st_8⟩ := getF X_6 hx hZ hown (oV hw 28 rfl) Via.refl e_6 f_7 (g := (mkF m 29 #[zr ch, zi 2, zn, zr nd] [(.ref ch)])) rfl rfl (B d17_29)
 have f_9 := (P5_.other W_2 (Ne.symm n_fn_ln))
 have f_10 := (P2_.wr W_2)
 obtain ⟨c_11, Ar_11, q_11, S_11, M_11, Hs_11, G_11⟩ := id f_9
 have hin_11 : ¬ ((1 : Int32) < 0 ∨ c_11.slots.size ≤ ((1 : Int32)).toNatClampNeg) := inb_of S_11 ⟨by decide, by decide⟩
 obtain ⟨T_11, h_11, X_11, e_11, W_11, st_11⟩ := stR X_8 hx hZ e_8 Ar_11 (j := (1 : Int32)) hin_11 rfl (Sto.ofV Ar_11 q_11 Okkl (Ins.self f_10)) (g := (mkF m 36 #[zr ch, zi 2, zn, zr nd] [(.ref nd), (.int (1 : Int32)), (.ref ln)])) rfl rfl (B d17_36)
 obtain ⟨Lg_11, XG_11, N_11⟩ := own_gen X_11 (Fr.snoc X_11 N_2 g_ln)
 have V_11 : aN Z h_11 ln kkl (.ref na) (.ref nd) := Arv.set Ar_11 q_11 S_11 M_11 Hs_11 G_11 rfl W_11 1 rfl (Nat.le_of_ble_eq_true rfl)
 have Z_12 := Nat.le_trans Z_3 (Keep.of_wr W_11).1
 have K_13 : Keep h0 h_11 [fn, ln] := K_4.wr W_11 (oK 1 rfl)
 refine own_go (S' := T_11.setTop (mkF m 37 #[zr ch, zi 2, zn, zr nd] [])) (fun target kt => ?_) ?_
 ·
  show oSt p e below s₁ m 0 #[zr ch, zi 2, zn, zr nd] [] target
  refine XS.aloadN X0.here hx rfl (B d17_0) rfl rfl ?_
  refine XS.ifnonnullNo X0.here hx rfl (B d17_1) rfl ?_
  refine XS.aloadN X0.here hx rfl (B d17_4) rfl rfl ?_
  refine st_1 _ ?_
  refine XS.iloadN X_1.here hx rfl (B d17_8) rfl ?_
  refine XS.iconst X_1.here hx rfl (B d17_9) ?_
  refine XS.isub X_1.here hx rfl (B d17_10) rfl ?_
  show oSt p e below T_1 m 11 #[zr ch, zi 2, zn, zr nd] [(.int ((2 : Int32) - (1 : Int32))), (.ref fn)] target
  rw [show (2 : Int32) - (1 : Int32) = (1 : Int32) from by decide]
  show oSt p e below T_1 m 11 #[zr ch, zi 2, zn, zr nd] [(.int (1 : Int32)), (.ref fn)] target
  refine XS.aloadN X_1.here hx rfl (B d17_11) rfl rfl ?_
  refine st_2 _ ?_
  refine XS.goto XG_2.here hx rfl (pc0 := 13) (pc' := 21) rfl (B d17_13) (by decide) (by decide) ?_
  refine XS.aloadN XG_2.here hx rfl (B d17_21) rfl rfl ?_
  refine st_6 _ ?_
  refine XS.ifnonnullNo X_6.here hx rfl (B d17_25) rfl ?_
  refine XS.aloadN X_6.here hx rfl (B d17_28) rfl rfl ?_
  refine st_8 _ ?_
  refine XS.iloadN X_8.here hx rfl (B d17_32) rfl ?_
  refine XS.iconst X_8.here hx rfl (B d17_33) ?_
  refine XS.isub X_8.here hx rfl (B d17_34) rfl ?_
  show oSt p e below T_8 m 35 #[zr ch, zi 2, zn, zr nd] [(.int ((2 : Int32) - (1 : Int32))), (.ref ln)] target
  rw [show (2 : Int32) - (1 : Int32) = (1 : Int32) from by decide]
  show oSt p e below T_8 m 35 #[zr ch, zi 2, zn, zr nd] [(.int (1 : Int32)), (.ref ln)] target
  refine XS.aloadN X_8.here hx rfl (B d17_35) rfl rfl ?_
  refine st_11 _ ?_
  exact kt
 obtain ⟨fs, hr, hrun, hended, hW, hsame⟩ := XG_11.leave (v := none) (fun _ => rfl)
 refine ⟨_, _, XG_11.returnOut hx Bd.returns (B d17_37) hr, hrun, hended, _, _, rfl, ?_, ⟨_, rfl⟩, hW, hsame.mono (by decide) (by decide)⟩
 show Q_lka2 Z ch nd fn ln na kkf kkl h0 n0 _ T_11.heap _
 rw [e_11]
 have f_14 := (V_2.other W_11 n_fn_ln)
 exact ⟨rfl, N_11, K_13, f_14, V_11⟩
-- com/example/carillon/carillon/Chain.linkNodes:(Lcom/example/carillon/carillon/Message;I[Lcom/example/carillon/carillon/Chain$Node;)V
theorem d18_0 : decode cd18 0 = .ok (.aconst_null, 1) := by decide +kernel
theorem d18_1 : decode cd18 1 = .ok (.astore 4, 2) := by decide +kernel
theorem d18_3 : decode cd18 3 = .ok (.iconst 1, 1) := by decide +kernel
theorem d18_4 : decode cd18 4 = .ok (.istore 5, 2) := by decide +kernel
theorem d18_6 : decode cd18 6 = .ok (.iload 5, 2) := by decide +kernel
theorem d18_8 : decode cd18 8 = .ok (.iload_n 2, 1) := by decide +kernel
theorem d18_9 : decode cd18 9 = .ok (.if_icmp .ge 80, 3) := by decide +kernel
theorem d18_89 : decode cd18 89 = .ok (.return_, 1) := by decide +kernel
theorem ef_lnk1 (m : MethodId) (ch me fg : Addr) : entryFrame m #[(.ref ch), (.ref me), (.int (1 : Int32)), (.ref fg)] 8 = mkF m 0 #[.val (.ref ch), .val (.ref me), .val (.int (1 : Int32)), .val (.ref fg), .unset, .unset, .unset, .unset] [] := by first | (simp [entryFrame, mkF, argsToLocals, Value.category]; done) | rfl
def Q_lnk1 (Z : State) (ch me fg : Addr) (h0 : Heap) (n0 : Nat) (v : Option Value) (h : Heap) (L : List Loc) : Prop := v = none ∧ Fr n0 L ∧ h = h0
set_option maxRecDepth 65536 in
set_option maxHeartbeats 40000000 in
theorem rm_lnk1 (l : Launch) (Z : State) (a0 : Array Value) (hw : hwT Z a0) (ws : List Jvm.Cond) (ch me fg : Addr) (h0 : Heap) (n0 : Nat) (Z0 : n0 ≤ h0.size) :
  oMF l Z mn18 (Jvm.Cond.code mn18 prog_2_method_15_code 8 none) ws (rO 0 0 0 0) #[(.ref ch), (.ref me), (.int (1 : Int32)), (.ref fg)] h0 (Q_lnk1 Z ch me fg h0 n0) := by
 refine MetFree.of_bodySF (plainFor_of_name pn_ordc) hisR ?_
 intro p e s m args below meth c s₁ Bd hml0 hP hK
 obtain ⟨rfl, hZ, hh⟩ := hP
 have hx := Bd.exec
 have hby := Bd.bytes
 have B : ∀ {pc r}, decode cd18 pc = r → decode c.code pc = r := fun h => hb hby h
 have hml : c.maxLocals = 8 := hml0
 have hown : s.vm.findClass sg3 = some m.cls := findClass_of_methodNamed Bd.named
 have hnm := (name_of_methodNamed Bd.named Bd.method).1
 have X0 : Stand p l e (rO 0 0 0 0) s m #[(.ref ch), (.ref me), (.int (1 : Int32)), (.ref fg)] below meth c s₁ [] 0 0 := Stand.of_body Bd
 have e0 : s₁.heap = h0 := by rw [← hh, Bd.state]; rfl
 have N0 := Fr.nil n0
 refine own_in ?_
 refine own_go (S' := s₁.setTop (mkF m 0 #[zr ch, zr me, zi 1, zr fg, zu, zu, zu, zu] [])) (fun tgt_ stp_ => castTop (ef_lnk1 m ch me fg) stp_) ?_
 refine own_go (S' := s₁.setTop (mkF m 89 #[zr ch, zr me, zi 1, zr fg, zn, zi 1, zu, zu] [])) (fun target kt => ?_) ?_
 ·
  show oSt p e below s₁ m 0 #[zr ch, zr me, zi 1, zr fg, zu, zu, zu, zu] [] target
  refine XS.aconstNull X0.here hx rfl (B d18_0) ?_
  refine XS.astore X0.here hx rfl (B d18_1) rfl rfl (l' := #[zr ch, zr me, zi 1, zr fg, zn, zu, zu, zu]) rfl ?_
  refine XS.iconst X0.here hx rfl (B d18_3) ?_
  refine XS.istore X0.here hx rfl (B d18_4) rfl (l' := #[zr ch, zr me, zi 1, zr fg, zn, zi 1, zu, zu]) rfl ?_
  refine XS.iload X0.here hx rfl (B d18_6) rfl ?_
  refine XS.iloadN X0.here hx rfl (B d18_8) rfl ?_
  refine XS.icmpYes X0.here hx rfl (pc0 := 9) (pc' := 89) rfl (B d18_9) rfl (flt (by decide : ¬ ((1 : Int32) < (1 : Int32)))).2.1 (by decide) (by decide) ?_
  exact kt
 obtain ⟨fs, hr, hrun, hended, hW, hsame⟩ := X0.leave (v := none) (fun _ => rfl)
 refine ⟨_, _, X0.returnOut hx Bd.returns (B d18_89) hr, hrun, hended, _, _, rfl, ?_, ⟨_, rfl⟩, hW, hsame.mono (by decide) (by decide)⟩
 show Q_lnk1 Z ch me fg h0 n0 _ s₁.heap _
 rw [e0]
 exact ⟨rfl, N0, rfl⟩
-- com/example/carillon/carillon/Chain.linkNodes:(Lcom/example/carillon/carillon/Message;I[Lcom/example/carillon/carillon/Chain$Node;)V
theorem d18_12 : decode cd18 12 = .ok (.aload_n 0, 1) := by decide +kernel
theorem d18_13 : decode cd18 13 = .ok (.aload_n 1, 1) := by decide +kernel
theorem d18_14 : decode cd18 14 = .ok (.invokevirtual 138, 3) := by decide +kernel
theorem d18_17 : decode cd18 17 = .ok (.astore 6, 2) := by decide +kernel
theorem d18_19 : decode cd18 19 = .ok (.aload 6, 2) := by decide +kernel
theorem d18_21 : decode cd18 21 = .ok (.aload 4, 2) := by decide +kernel
theorem d18_23 : decode cd18 23 = .ok (.putfield 132, 3) := by decide +kernel
theorem d18_26 : decode cd18 26 = .ok (.aload_n 3, 1) := by decide +kernel
theorem d18_27 : decode cd18 27 = .ok (.iload 5, 2) := by decide +kernel
theorem d18_29 : decode cd18 29 = .ok (.iconst 1, 1) := by decide +kernel
theorem d18_30 : decode cd18 30 = .ok (.isub, 1) := by decide +kernel
theorem d18_31 : decode cd18 31 = .ok (.aaload, 1) := by decide +kernel
theorem d18_32 : decode cd18 32 = .ok (.astore 7, 2) := by decide +kernel
theorem d18_34 : decode cd18 34 = .ok (.aload 6, 2) := by decide +kernel
theorem d18_36 : decode cd18 36 = .ok (.aload 7, 2) := by decide +kernel
theorem d18_38 : decode cd18 38 = .ok (.ifnonnull 15, 3) := by decide +kernel
theorem d18_41 : decode cd18 41 = .ok (.aload_n 0, 1) := by decide +kernel
theorem d18_42 : decode cd18 42 = .ok (.getfield 11, 3) := by decide +kernel
theorem d18_45 : decode cd18 45 = .ok (.iload 5, 2) := by decide +kernel
theorem d18_47 : decode cd18 47 = .ok (.iconst 1, 1) := by decide +kernel
theorem d18_48 : decode cd18 48 = .ok (.isub, 1) := by decide +kernel
theorem d18_49 : decode cd18 49 = .ok (.aaload, 1) := by decide +kernel
theorem d18_50 : decode cd18 50 = .ok (.goto 8, 3) := by decide +kernel
theorem d18_58 : decode cd18 58 = .ok (.putfield 125, 3) := by decide +kernel
theorem d18_61 : decode cd18 61 = .ok (.aload_n 0, 1) := by decide +kernel
theorem d18_62 : decode cd18 62 = .ok (.iload 5, 2) := by decide +kernel
theorem d18_64 : decode cd18 64 = .ok (.aload 7, 2) := by decide +kernel
theorem d18_66 : decode cd18 66 = .ok (.aload 6, 2) := by decide +kernel
theorem d18_68 : decode cd18 68 = .ok (.invokevirtual 142, 3) := by decide +kernel
theorem d18_71 : decode cd18 71 = .ok (.aload_n 3, 1) := by decide +kernel
theorem d18_72 : decode cd18 72 = .ok (.iload 5, 2) := by decide +kernel
theorem d18_74 : decode cd18 74 = .ok (.iconst 1, 1) := by decide +kernel
theorem d18_75 : decode cd18 75 = .ok (.isub, 1) := by decide +kernel
theorem d18_76 : decode cd18 76 = .ok (.aload 6, 2) := by decide +kernel
theorem d18_78 : decode cd18 78 = .ok (.aastore, 1) := by decide +kernel
theorem d18_79 : decode cd18 79 = .ok (.aload 6, 2) := by decide +kernel
theorem d18_81 : decode cd18 81 = .ok (.astore 4, 2) := by decide +kernel
theorem d18_83 : decode cd18 83 = .ok (.iinc 5 1, 3) := by decide +kernel
theorem d18_86 : decode cd18 86 = .ok (.goto (-80), 3) := by decide +kernel
theorem ef_lnk3 (m : MethodId) (ch me ln fn : Addr) (kkf kkl : ClassId) : entryFrame m #[(.ref ch), (.ref me), (.int (3 : Int32)), (.ref ln)] 8 = mkF m 0 #[.val (.ref ch), .val (.ref me), .val (.int (3 : Int32)), .val (.ref ln), .unset, .unset, .unset, .unset] [] := by first | (simp [entryFrame, mkF, argsToLocals, Value.category]; done) | rfl
def Q_lnk3 (Z : State) (ch me ln fn : Addr) (kkf kkl : ClassId) (h0 : Heap) (n0 : Nat) (v : Option Value) (h : Heap) (L : List Loc) : Prop := ∃ (na : Addr), ∃ (nb : Addr), v = none ∧ Fr n0 L ∧ Keep h0 h [fn, ln] ∧ Exa Z h na sg5 ∧ xF18 Z h na (.ref me) ∧ xF19 Z h na .null ∧ xF20 Z h na .null ∧ Exa Z h nb sg5 ∧ xF18 Z h nb (.ref me) ∧ xF19 Z h nb .null ∧ xF20 Z h nb (.ref na) ∧ aN Z h fn kkf (.ref na) (.ref nb) ∧ aN Z h ln kkl (.ref na) (.ref nb) ∧ h0.size ≤ na ∧ h0.size ≤ nb ∧ na ≠ nb
set_option maxRecDepth 65536 in
set_option maxHeartbeats 40000000 in
theorem rm_lnk3 (l : Launch) (Z : State) (a0 : Array Value) (hw : hwT Z a0) (ws : List Jvm.Cond) (ch me ln fn : Addr) (kkf kkl : ClassId) (h0 : Heap) (n0 : Nat) (Z0 : n0 ≤ h0.size) (P0_ : Exa Z h0 ch sg3) (P1_ : xF13 Z h0 ch .null) (P2_ : xF10 Z h0 ch (.ref fn)) (P3_ : xF11 Z h0 ch (.ref ln)) (P4_ : aN Z h0 fn kkf .null .null) (P5_ : aN Z h0 ln kkl .null .null) (Okkf : Ovr Z kkf sg5) (Okkl : Ovr Z kkl sg5) (g_fn : n0 ≤ fn) (g_ln : n0 ≤ ln) (n_ch_fn : ch ≠ fn) (n_ch_ln : ch ≠ ln) (n_fn_ln : fn ≠ ln) :
  oMF l Z mn18 (Jvm.Cond.code mn18 prog_2_method_15_code 8 none) ws (rO 3 2 6 39) #[(.ref ch), (.ref me), (.int (3 : Int32)), (.ref ln)] h0 (Q_lnk3 Z ch me ln fn kkf kkl h0 n0) := by
 refine MetFree.of_bodySF (plainFor_of_name pn_ordc) hisR ?_
 intro p e s m args below meth c s₁ Bd hml0 hP hK
 obtain ⟨rfl, hZ, hh⟩ := hP
 have hx := Bd.exec
 have hby := Bd.bytes
 have B : ∀ {pc r}, decode cd18 pc = r → decode c.code pc = r := fun h => hb hby h
 have hml : c.maxLocals = 8 := hml0
 have hown : s.vm.findClass sg3 = some m.cls := findClass_of_methodNamed Bd.named
 have hnm := (name_of_methodNamed Bd.named Bd.method).1
 have X0 : Stand p l e (rO 3 2 6 39) s m #[(.ref ch), (.ref me), (.int (3 : Int32)), (.ref ln)] below meth c s₁ [] 0 0 := Stand.of_body Bd
 have e0 : s₁.heap = h0 := by rw [← hh, Bd.state]; rfl
 have N0 := Fr.nil n0
 refine own_in ?_
 refine own_go (S' := s₁.setTop (mkF m 0 #[zr ch, zr me, zi 3, zr ln, zu, zu, zu, zu] [])) (fun tgt_ stp_ => castTop (ef_lnk3 m ch me ln fn kkf kkl) stp_) ?_
 have K0 : Keep h0 h0 [fn, ln] := Keep.refl h0 _
 obtain ⟨cq_1, q_1, q_1'⟩ := P0_.cell
 obtain ⟨_, _, ⟨T_1, L_1, k_1, n_1⟩, -, X_1, ⟨Lc_1, hQ_1, l_1, y_1, z_1⟩, st_1⟩ := X0.privateBack hx (y := mn16) hown (oT hZ hw 125 rfl) (oT hZ hw 126 rfl) (psl_1 hZ hw) (oP hZ hw 127 rfl) (oT hZ hw 128 rfl) (by decide) (backOf (W := 0) (rm_newn l Z a0 hw [] ch me  h0 n0 Z0 P0_ P1_) hZ (oW hw 128 rfl) (oW hw 19 rfl) (by decide) (by decide)) (g := (mkF m 14 #[zr ch, zr me, zi 3, zr ln, zn, zi 1, zu, zu] [(.ref me), (.ref ch)])) rfl (by rw [hml]; rfl) (Steps.refl _) (a := ch) (by rw [e0]; exact q_1) q_1' (argsL := [(.ref me)]) (rest := []) (lenOf pd7 rfl) rfl (oQ rfl) (B d18_14) (fun _ _ => ⟨rfl, e0, (by decide : 0 + 1 ≤ _), (by decide : 0 + 3 ≤ _)⟩)
 dsimp only [Pt.U, Pt.locs, Pt.cells, Pt.slots] at X_1 l_1 y_1 z_1 st_1 hQ_1
 subst y_1 z_1
 obtain ⟨ndx_1, rfl, N_1q, p_1_0, p_1_1, p_1_2, p_1_3, p_1_4, p_1_5⟩ := hQ_1
 have N_1 : Fr n0 L_1 := by rw [l_1]; exact Fr.app N0 N_1q
 clear l_1
 have Z_2 := Nat.le_trans Z0 p_1_0.1
 have K_3 : Keep h0 T_1.heap [fn, ln] := K0.trans p_1_0 fun x q => absurd q oN
 have gn_ndx_1 : n0 ≤ ndx_1 := Nat.le_trans Z0 p_1_5
 have sz_ndx_1 : h0.size ≤ ndx_1 := Nat.le_trans K0.1 p_1_5
 have ne_ch_ndx_1 : ch ≠ ndx_1 := Nat.ne_of_lt (Nat.lt_of_lt_of_le P0_.lt p_1_5)
 have ne_fn_ndx_1 : fn ≠ ndx_1 := Nat.ne_of_lt (Nat.lt_of_lt_of_le P4_.lt p_1_5)
 have ne_ln_ndx_1 : ln ≠ ndx_1 := Nat.ne_of_lt (Nat.lt_of_lt_of_le P5_.lt p_1_5)
 obtain ⟨T_4, h_4, X_4, e_4, W_4, st_4⟩ := putF X_1 hx hZ hown (oV hw 139 rfl) Via.refl rfl p_1_4 p_1_1 (Or.inl (oW hw 140 rfl)) (oW hw 131 rfl) (ty := (.object sg5)) (by decide) rfl rfl (g := (mkF m 23 #[zr ch, zr me, zi 3, zr ln, zn, zi 1, zr ndx_1, zu] [.null, (.ref ndx_1)])) rfl rfl (B d18_23)
 obtain ⟨Lg_4, XG_4, N_4⟩ := own_gen X_4 (Fr.snoc X_4 N_1 gn_ndx_1)
 have F_4 := p_1_4.same W_4
 have Z_5 := Nat.le_trans Z_2 (Keep.of_wr W_4).1
 have K_6 : Keep h0 h_4 [fn, ln] := K_3.wr W_4 (Or.inr sz_ndx_1)
 have f_7 := ((P5_.keep p_1_0 oN).other W_4 ne_ln_ndx_1)
 obtain ⟨c_8, Ar_8, q_8, S_8, M_8, Hs_8, G_8⟩ := id f_7
 have hin_8 : ¬ ((0 : Int32) < 0 ∨ c_8.slots.size ≤ ((0 : Int32)).toNatClampNeg) := inb_of S_8 ⟨by decide, by decide⟩
 have hat_8 : c_8.slots[((0 : Int32)).toNatClampNeg]? = some .null := Hs_8.at hin_8 rfl
 have f_9 := ((P2_.keep p_1_0 oN).other W_4 (Or.inl ne_ch_ndx_1))
 obtain ⟨T_10, X_10, e_10, st_10⟩ := getF XG_4 hx hZ hown (oV hw 26 rfl) Via.refl e_4 f_9 (g := (mkF m 42 #[zr ch, zr me, zi 3, zr ln, zn, zi 1, zr ndx_1, zn] [(.ref ch), (.ref ndx_1)])) rfl rfl (B d18_42)
 have f_11 := ((P4_.keep p_1_0 oN).other W_4 ne_fn_ndx_1)
 obtain ⟨c_12, Ar_12, q_12, S_12, M_12, Hs_12, G_12⟩ := id f_11
 have hin_12 : ¬ ((0 : Int32) < 0 ∨ c_12.slots.size ≤ ((0 : Int32)).toNatClampNeg) := inb_of S_12 ⟨by decide, by decide⟩
 have hat_12 : c_12.slots[((0 : Int32)).toNatClampNeg]? = some .null := Hs_12.at hin_12 rfl
 have f_13 := (p_1_1.wr W_4)
 have f_14 := (p_1_3.other W_4 (Or.inr (sn_32 hw)))
 obtain ⟨T_15, h_15, X_15, e_15, W_15, st_15⟩ := putF X_10 hx hZ hown (oV hw 141 rfl) Via.refl e_10 f_14 f_13 (Or.inl (oW hw 142 rfl)) (oW hw 131 rfl) (ty := (.object sg5)) (by decide) rfl rfl (g := (mkF m 58 #[zr ch, zr me, zi 3, zr ln, zn, zi 1, zr ndx_1, zn] [.null, (.ref ndx_1)])) rfl rfl (B d18_58)
 obtain ⟨Lg_15, XG_15, N_15⟩ := own_gen X_15 (Fr.snoc X_15 N_4 gn_ndx_1)
 have F_15 := f_14.same W_15
 have Z_16 := Nat.le_trans Z_5 (Keep.of_wr W_15).1
 have K_17 : Keep h0 h_15 [fn, ln] := K_6.wr W_15 (Or.inr sz_ndx_1)
 have f_19 := (f_9.other W_15 (Or.inl ne_ch_ndx_1))
 have f_20 := (((P3_.keep p_1_0 oN).other W_4 (Or.inl ne_ch_ndx_1)).other W_15 (Or.inl ne_ch_ndx_1))
 have f_21 := (f_13.wr W_15)
 have f_22 := (f_11.other W_15 ne_fn_ndx_1)
 have f_23 := (f_7.other W_15 ne_ln_ndx_1)
 have f_24 := (((P0_.keep p_1_0).wr W_4).wr W_15)
 obtain ⟨cq_18, q_18, q_18'⟩ := f_24.cell
 obtain ⟨_, _, ⟨T_18, L_18, k_18, n_18⟩, -, X_18, ⟨Lc_18, hQ_18, l_18, y_18, z_18⟩, st_18⟩ := XG_15.privateBack hx (y := mn17) hown (oT hZ hw 143 rfl) (oT hZ hw 144 rfl) (psl_2 hZ hw) (oP hZ hw 145 rfl) (oT hZ hw 146 rfl) (by decide) (backOf (W := 0) (rm_lka1 l Z a0 hw [] ch ndx_1 fn ln kkf kkl h_15 n0 Z_16 f_19 f_20 f_21 F_15 f_22 f_23 Okkf Okkl g_fn g_ln n_ch_fn n_ch_ln (Ne.symm ne_fn_ndx_1) (Ne.symm ne_ln_ndx_1) n_fn_ln) hZ (oW hw 146 rfl) (oW hw 19 rfl) (by decide) (by decide)) (g := (mkF m 68 #[zr ch, zr me, zi 3, zr ln, zn, zi 1, zr ndx_1, zn] [(.ref ndx_1), .null, (.int (1 : Int32)), (.ref ch)])) rfl (by rw [hml]; rfl) (Steps.refl _) (a := ch) (by rw [e_15]; exact q_18) q_18' (argsL := [(.int (1 : Int32)), .null, (.ref ndx_1)]) (rest := []) (lenOf pd8 rfl) rfl (oQ rfl) (B d18_68) (fun _ _ => ⟨rfl, e_15, (by decide : 1 + 0 ≤ _), (by decide : 3 + 0 ≤ _)⟩)
 dsimp only [Pt.U, Pt.locs, Pt.cells, Pt.slots] at X_18 l_18 y_18 z_18 st_18 hQ_18
 subst y_18 z_18
 obtain ⟨rfl, N_18q, p_18_0, p_18_1, p_18_2⟩ := hQ_18
 have N_18 : Fr n0 L_18 := by rw [l_18]; exact Fr.app N_15 N_18q
 clear l_18
 have Z_25 := Nat.le_trans Z_16 p_18_0.1
 have K_26 : Keep h0 T_18.heap [fn, ln] := K_17.trans p_18_0 fun x q => Or.inl (oM q 0 rfl fun q => oM1 q 1 rfl)
 have f_27 := (f_21.keep p_18_0)
 obtain ⟨c_28, Ar_28, q_28, S_28, M_28, Hs_28, G_28⟩ := id p_18_2
 have hin_28 : ¬ ((0 : Int32) < 0 ∨ c_28.slots.size ≤ ((0 : Int32)).toNatClampNeg) := inb_of S_28 ⟨by decide, by decide⟩
 obtain ⟨T_28, h_28, X_28, e_28, W_28, st_28⟩ := stR X_18 hx hZ rfl Ar_28 (j := (0 : Int32)) hin_28 rfl (Sto.ofV Ar_28 q_28 Okkl (Ins.self f_27)) (g := (mkF m 78 #[zr ch, zr me, zi 3, zr ln, zn, zi 1, zr ndx_1, zn] [(.ref ndx_1), (.int (0 : Int32)), (.ref ln)])) rfl rfl (B d18_78)
 obtain ⟨Lg_28, XG_28, N_28⟩ := own_gen X_28 (Fr.snoc X_28 N_18 g_ln)
 have V_28 : aN Z h_28 ln kkl (.ref ndx_1) .null := Arv.set Ar_28 q_28 S_28 M_28 Hs_28 G_28 rfl W_28 0 rfl (Nat.le_of_ble_eq_true rfl)
 have Z_29 := Nat.le_trans Z_25 (Keep.of_wr W_28).1
 have K_30 : Keep h0 h_28 [fn, ln] := K_26.wr W_28 (oK 1 rfl)
 have f_32 := ((f_24.keep p_18_0).wr W_28)
 have f_33 := (((((P1_.keep p_1_0 oN).other W_4 (Or.inl ne_ch_ndx_1)).other W_15 (Or.inl ne_ch_ndx_1)).keep p_18_0 (oN1 n_ch_fn (oN1 n_ch_ln oN))).other W_28 (Or.inl n_ch_ln))
 obtain ⟨cq_31, q_31, q_31'⟩ := f_32.cell
 obtain ⟨_, _, ⟨T_31, L_31, k_31, n_31⟩, -, X_31, ⟨Lc_31, hQ_31, l_31, y_31, z_31⟩, st_31⟩ := XG_28.privateBack hx (y := mn16) hown (oT hZ hw 125 rfl) (oT hZ hw 126 rfl) (psl_1 hZ hw) (oP hZ hw 127 rfl) (oT hZ hw 128 rfl) (by decide) (backOf (W := 0) (rm_newn l Z a0 hw [] ch me  h_28 n0 Z_29 f_32 f_33) hZ (oW hw 128 rfl) (oW hw 19 rfl) (by decide) (by decide)) (g := (mkF m 14 #[zr ch, zr me, zi 3, zr ln, zr ndx_1, zi 2, zr ndx_1, zn] [(.ref me), (.ref ch)])) rfl (by rw [hml]; rfl) (Steps.refl _) (a := ch) (by rw [e_28]; exact q_31) q_31' (argsL := [(.ref me)]) (rest := []) (lenOf pd7 rfl) rfl (oQ rfl) (B d18_14) (fun _ _ => ⟨rfl, e_28, (by decide : 1 + 1 ≤ _), (by decide : 3 + 3 ≤ _)⟩)
 dsimp only [Pt.U, Pt.locs, Pt.cells, Pt.slots] at X_31 l_31 y_31 z_31 st_31 hQ_31
 subst y_31 z_31
 have f_34 := (p_18_1.other W_28 n_fn_ln)
 have f_35 := (f_27.wr W_28)
 obtain ⟨ndx_31, rfl, N_31q, p_31_0, p_31_1, p_31_2, p_31_3, p_31_4, p_31_5⟩ := hQ_31
 have N_31 : Fr n0 L_31 := by rw [l_31]; exact Fr.app N_28 N_31q
 clear l_31
 have Z_36 := Nat.le_trans Z_29 p_31_0.1
 have K_37 : Keep h0 T_31.heap [fn, ln] := K_30.trans p_31_0 fun x q => absurd q oN
 have gn_ndx_31 : n0 ≤ ndx_31 := Nat.le_trans Z_29 p_31_5
 have sz_ndx_31 : h0.size ≤ ndx_31 := Nat.le_trans K_30.1 p_31_5
 have ne_ch_ndx_31 : ch ≠ ndx_31 := Nat.ne_of_lt (Nat.lt_of_lt_of_le f_32.lt p_31_5)
 have ne_fn_ndx_31 : fn ≠ ndx_31 := Nat.ne_of_lt (Nat.lt_of_lt_of_le f_34.lt p_31_5)
 have ne_ln_ndx_31 : ln ≠ ndx_31 := Nat.ne_of_lt (Nat.lt_of_lt_of_le V_28.lt p_31_5)
 have ne_ndx_1_ndx_31 : ndx_1 ≠ ndx_31 := Nat.ne_of_lt (Nat.lt_of_lt_of_le f_35.lt p_31_5)
 obtain ⟨T_38, h_38, X_38, e_38, W_38, st_38⟩ := putF X_31 hx hZ hown (oV hw 139 rfl) Via.refl rfl p_31_4 p_31_1 (Or.inl (oW hw 140 rfl)) (oW hw 131 rfl) (ty := (.object sg5)) (by decide) rfl rfl (g := (mkF m 23 #[zr ch, zr me, zi 3, zr ln, zr ndx_1, zi 2, zr ndx_31, zn] [(.ref ndx_1), (.ref ndx_31)])) rfl rfl (B d18_23)
 obtain ⟨Lg_38, XG_38, N_38⟩ := own_gen X_38 (Fr.snoc X_38 N_31 gn_ndx_31)
 have F_38 := p_31_4.same W_38
 have Z_39 := Nat.le_trans Z_36 (Keep.of_wr W_38).1
 have K_40 : Keep h0 h_38 [fn, ln] := K_37.wr W_38 (Or.inr sz_ndx_31)
 have f_41 := ((V_28.keep p_31_0 oN).other W_38 ne_ln_ndx_31)
 obtain ⟨c_42, Ar_42, q_42, S_42, M_42, Hs_42, G_42⟩ := id f_41
 have hin_42 : ¬ ((1 : Int32) < 0 ∨ c_42.slots.size ≤ ((1 : Int32)).toNatClampNeg) := inb_of S_42 ⟨by decide, by decide⟩
 have hat_42 : c_42.slots[((1 : Int32)).toNatClampNeg]? = some .null := Hs_42.at hin_42 rfl
 have f_43 := ((((f_19.keep p_18_0 (oN1 n_ch_fn (oN1 n_ch_ln oN))).other W_28 (Or.inl n_ch_ln)).keep p_31_0 oN).other W_38 (Or.inl ne_ch_ndx_31))
 obtain ⟨T_44, X_44, e_44, st_44⟩ := getF XG_38 hx hZ hown (oV hw 26 rfl) Via.refl e_38 f_43 (g := (mkF m 42 #[zr ch, zr me, zi 3, zr ln, zr ndx_1, zi 2, zr ndx_31, zn] [(.ref ch), (.ref ndx_31)])) rfl rfl (B d18_42)
 have f_45 := ((f_34.keep p_31_0 oN).other W_38 ne_fn_ndx_31)
 obtain ⟨c_46, Ar_46, q_46, S_46, M_46, Hs_46, G_46⟩ := id f_45
 have hin_46 : ¬ ((1 : Int32) < 0 ∨ c_46.slots.size ≤ ((1 : Int32)).toNatClampNeg) := inb_of S_46 ⟨by decide, by decide⟩
 have hat_46 : c_46.slots[((1 : Int32)).toNatClampNeg]? = some .null := Hs_46.at hin_46 rfl
 have f_47 := (p_31_1.wr W_38)
 have f_48 := (p_31_3.other W_38 (Or.inr (sn_32 hw)))
 obtain ⟨T_49, h_49, X_49, e_49, W_49, st_49⟩ := putF X_44 hx hZ hown (oV hw 141 rfl) Via.refl e_44 f_48 f_47 (Or.inl (oW hw 142 rfl)) (oW hw 131 rfl) (ty := (.object sg5)) (by decide) rfl rfl (g := (mkF m 58 #[zr ch, zr me, zi 3, zr ln, zr ndx_1, zi 2, zr ndx_31, zn] [.null, (.ref ndx_31)])) rfl rfl (B d18_58)
 obtain ⟨Lg_49, XG_49, N_49⟩ := own_gen X_49 (Fr.snoc X_49 N_38 gn_ndx_31)
 have F_49 := f_48.same W_49
 have Z_50 := Nat.le_trans Z_39 (Keep.of_wr W_49).1
 have K_51 : Keep h0 h_49 [fn, ln] := K_40.wr W_49 (Or.inr sz_ndx_31)
 have f_53 := (f_43.other W_49 (Or.inl ne_ch_ndx_31))
 have f_54 := (((((f_20.keep p_18_0 (oN1 n_ch_fn (oN1 n_ch_ln oN))).other W_28 (Or.inl n_ch_ln)).keep p_31_0 oN).other W_38 (Or.inl ne_ch_ndx_31)).other W_49 (Or.inl ne_ch_ndx_31))
 have f_55 := (f_47.wr W_49)
 have f_56 := (f_45.other W_49 ne_fn_ndx_31)
 have f_57 := (f_41.other W_49 ne_ln_ndx_31)
 have f_58 := (((f_32.keep p_31_0).wr W_38).wr W_49)
 obtain ⟨cq_52, q_52, q_52'⟩ := f_58.cell
 obtain ⟨_, _, ⟨T_52, L_52, k_52, n_52⟩, -, X_52, ⟨Lc_52, hQ_52, l_52, y_52, z_52⟩, st_52⟩ := XG_49.privateBack hx (y := mn17) hown (oT hZ hw 143 rfl) (oT hZ hw 144 rfl) (psl_2 hZ hw) (oP hZ hw 145 rfl) (oT hZ hw 146 rfl) (by decide) (backOf (W := 0) (rm_lka2 l Z a0 hw [] ch ndx_31 fn ln ndx_1 kkf kkl h_49 n0 Z_50 f_53 f_54 f_55 F_49 f_56 f_57 Okkf Okkl g_fn g_ln n_ch_fn n_ch_ln (Ne.symm ne_fn_ndx_31) (Ne.symm ne_ln_ndx_31) n_fn_ln) hZ (oW hw 146 rfl) (oW hw 19 rfl) (by decide) (by decide)) (g := (mkF m 68 #[zr ch, zr me, zi 3, zr ln, zr ndx_1, zi 2, zr ndx_31, zn] [(.ref ndx_31), .null, (.int (2 : Int32)), (.ref ch)])) rfl (by rw [hml]; rfl) (Steps.refl _) (a := ch) (by rw [e_49]; exact q_52) q_52' (argsL := [(.int (2 : Int32)), .null, (.ref ndx_31)]) (rest := []) (lenOf pd8 rfl) rfl (oQ rfl) (B d18_68) (fun _ _ => ⟨rfl, e_49, (by decide : 2 + 0 ≤ _), (by decide : 6 + 0 ≤ _)⟩)
 dsimp only [Pt.U, Pt.locs, Pt.cells, Pt.slots] at X_52 l_52 y_52 z_52 st_52 hQ_52
 subst y_52 z_52
 obtain ⟨rfl, N_52q, p_52_0, p_52_1, p_52_2⟩ := hQ_52
 have N_52 : Fr n0 L_52 := by rw [l_52]; exact Fr.app N_49 N_52q
 clear l_52
 have Z_59 := Nat.le_trans Z_50 p_52_0.1
 have K_60 : Keep h0 T_52.heap [fn, ln] := K_51.trans p_52_0 fun x q => Or.inl (oM q 0 rfl fun q => oM1 q 1 rfl)
 have f_61 := (f_55.keep p_52_0)
 obtain ⟨c_62, Ar_62, q_62, S_62, M_62, Hs_62, G_62⟩ := id p_52_2
 have hin_62 : ¬ ((1 : Int32) < 0 ∨ c_62.slots.size ≤ ((1 : Int32)).toNatClampNeg) := inb_of S_62 ⟨by decide, by decide⟩
 obtain ⟨T_62, h_62, X_62, e_62, W_62, st_62⟩ := stR X_52 hx hZ rfl Ar_62 (j := (1 : Int32)) hin_62 rfl (Sto.ofV Ar_62 q_62 Okkl (Ins.self f_61)) (g := (mkF m 78 #[zr ch, zr me, zi 3, zr ln, zr ndx_1, zi 2, zr ndx_31, zn] [(.ref ndx_31), (.int (1 : Int32)), (.ref ln)])) rfl rfl (B d18_78)
 obtain ⟨Lg_62, XG_62, N_62⟩ := own_gen X_62 (Fr.snoc X_62 N_52 g_ln)
 have V_62 : aN Z h_62 ln kkl (.ref ndx_1) (.ref ndx_31) := Arv.set Ar_62 q_62 S_62 M_62 Hs_62 G_62 rfl W_62 1 rfl (Nat.le_of_ble_eq_true rfl)
 have Z_63 := Nat.le_trans Z_59 (Keep.of_wr W_62).1
 have K_64 : Keep h0 h_62 [fn, ln] := K_60.wr W_62 (oK 1 rfl)
 refine own_go (S' := T_62.setTop (mkF m 89 #[zr ch, zr me, zi 3, zr ln, zr ndx_31, zi 3, zr ndx_31, zn] [])) (fun target kt => ?_) ?_
 ·
  show oSt p e below s₁ m 0 #[zr ch, zr me, zi 3, zr ln, zu, zu, zu, zu] [] target
  refine XS.aconstNull X0.here hx rfl (B d18_0) ?_
  refine XS.astore X0.here hx rfl (B d18_1) rfl rfl (l' := #[zr ch, zr me, zi 3, zr ln, zn, zu, zu, zu]) rfl ?_
  refine XS.iconst X0.here hx rfl (B d18_3) ?_
  refine XS.istore X0.here hx rfl (B d18_4) rfl (l' := #[zr ch, zr me, zi 3, zr ln, zn, zi 1, zu, zu]) rfl ?_
  refine XS.iload X0.here hx rfl (B d18_6) rfl ?_
  refine XS.iloadN X0.here hx rfl (B d18_8) rfl ?_
  refine XS.icmpNo X0.here hx rfl (B d18_9) rfl (tlt (by decide : (1 : Int32) < (3 : Int32))).2.1 ?_
  refine XS.aloadN X0.here hx rfl (B d18_12) rfl rfl ?_
  refine XS.aloadN X0.here hx rfl (B d18_13) rfl rfl ?_
  refine st_1.trans ?_
  refine XS.astore X_1.here hx rfl (B d18_17) rfl rfl (l' := #[zr ch, zr me, zi 3, zr ln, zn, zi 1, zr ndx_1, zu]) rfl ?_
  refine XS.aload X_1.here hx rfl (B d18_19) rfl rfl ?_
  refine XS.aload X_1.here hx rfl (B d18_21) rfl rfl ?_
  refine st_4 _ ?_
  refine XS.aloadN XG_4.here hx rfl (B d18_26) rfl rfl ?_
  refine XS.iload XG_4.here hx rfl (B d18_27) rfl ?_
  refine XS.iconst XG_4.here hx rfl (B d18_29) ?_
  show oSt p e below T_4 m 30 #[zr ch, zr me, zi 3, zr ln, zn, zi 1, zr ndx_1, zu] [(.int (1 : Int32)), (.int (1 : Int32)), (.ref ln)] target
  refine XS.isub XG_4.here hx rfl (B d18_30) rfl ?_
  show oSt p e below T_4 m 31 #[zr ch, zr me, zi 3, zr ln, zn, zi 1, zr ndx_1, zu] [(.int ((1 : Int32) - (1 : Int32))), (.ref ln)] target
  rw [show (1 : Int32) - (1 : Int32) = (0 : Int32) from by decide]
  show oSt p e below T_4 m 31 #[zr ch, zr me, zi 3, zr ln, zn, zi 1, zr ndx_1, zu] [(.int (0 : Int32)), (.ref ln)] target
  refine XG_4.aaload hx (j := (0 : Int32)) (v := .null) (by rw [e_4]; exact Ar_8.1) (State.isArrayOf_alike hZ.alike Ar_8.2.1) rfl Ar_8.2.2 hin_8 hat_8 (g := (mkF m 31 #[zr ch, zr me, zi 3, zr ln, zn, zi 1, zr ndx_1, zu] [(.int (0 : Int32)), (.ref ln)])) rfl rfl (B d18_31) _ ?_
  refine XS.astore XG_4.here hx rfl (B d18_32) rfl rfl (l' := #[zr ch, zr me, zi 3, zr ln, zn, zi 1, zr ndx_1, zn]) rfl ?_
  refine XS.aload XG_4.here hx rfl (B d18_34) rfl rfl ?_
  refine XS.aload XG_4.here hx rfl (B d18_36) rfl rfl ?_
  refine XS.ifnonnullNo XG_4.here hx rfl (B d18_38) rfl ?_
  refine XS.aloadN XG_4.here hx rfl (B d18_41) rfl rfl ?_
  refine st_10 _ ?_
  refine XS.iload X_10.here hx rfl (B d18_45) rfl ?_
  refine XS.iconst X_10.here hx rfl (B d18_47) ?_
  refine XS.isub X_10.here hx rfl (B d18_48) rfl ?_
  show oSt p e below T_10 m 49 #[zr ch, zr me, zi 3, zr ln, zn, zi 1, zr ndx_1, zn] [(.int ((1 : Int32) - (1 : Int32))), (.ref fn), (.ref ndx_1)] target
  rw [show (1 : Int32) - (1 : Int32) = (0 : Int32) from by decide]
  show oSt p e below T_10 m 49 #[zr ch, zr me, zi 3, zr ln, zn, zi 1, zr ndx_1, zn] [(.int (0 : Int32)), (.ref fn), (.ref ndx_1)] target
  refine X_10.aaload hx (j := (0 : Int32)) (v := .null) (by rw [e_10]; exact Ar_12.1) (State.isArrayOf_alike hZ.alike Ar_12.2.1) rfl Ar_12.2.2 hin_12 hat_12 (g := (mkF m 49 #[zr ch, zr me, zi 3, zr ln, zn, zi 1, zr ndx_1, zn] [(.int (0 : Int32)), (.ref fn), (.ref ndx_1)])) rfl rfl (B d18_49) _ ?_
  refine XS.goto X_10.here hx rfl (pc0 := 50) (pc' := 58) rfl (B d18_50) (by decide) (by decide) ?_
  refine st_15 _ ?_
  refine XS.aloadN XG_15.here hx rfl (B d18_61) rfl rfl ?_
  refine XS.iload XG_15.here hx rfl (B d18_62) rfl ?_
  refine XS.aload XG_15.here hx rfl (B d18_64) rfl rfl ?_
  refine XS.aload XG_15.here hx rfl (B d18_66) rfl rfl ?_
  refine st_18.trans ?_
  refine XS.aloadN X_18.here hx rfl (B d18_71) rfl rfl ?_
  refine XS.iload X_18.here hx rfl (B d18_72) rfl ?_
  refine XS.iconst X_18.here hx rfl (B d18_74) ?_
  refine XS.isub X_18.here hx rfl (B d18_75) rfl ?_
  show oSt p e below T_18 m 76 #[zr ch, zr me, zi 3, zr ln, zn, zi 1, zr ndx_1, zn] [(.int ((1 : Int32) - (1 : Int32))), (.ref ln)] target
  rw [show (1 : Int32) - (1 : Int32) = (0 : Int32) from by decide]
  show oSt p e below T_18 m 76 #[zr ch, zr me, zi 3, zr ln, zn, zi 1, zr ndx_1, zn] [(.int (0 : Int32)), (.ref ln)] target
  refine XS.aload X_18.here hx rfl (B d18_76) rfl rfl ?_
  refine st_28 _ ?_
  refine XS.aload XG_28.here hx rfl (B d18_79) rfl rfl ?_
  refine XS.astore XG_28.here hx rfl (B d18_81) rfl rfl (l' := #[zr ch, zr me, zi 3, zr ln, zr ndx_1, zi 1, zr ndx_1, zn]) rfl ?_
  refine XS.iinc XG_28.here hx rfl (B d18_83) rfl (l' := #[zr ch, zr me, zi 3, zr ln, zr ndx_1, .val (.int ((1 : Int32) + (1 : Int32))), zr ndx_1, zn]) rfl ?_
  show oSt p e below T_28 m 86 #[zr ch, zr me, zi 3, zr ln, zr ndx_1, .val (.int ((1 : Int32) + (1 : Int32))), zr ndx_1, zn] [] target
  rw [show (1 : Int32) + (1 : Int32) = (2 : Int32) from by decide]
  show oSt p e below T_28 m 86 #[zr ch, zr me, zi 3, zr ln, zr ndx_1, zi 2, zr ndx_1, zn] [] target
  refine XS.goto XG_28.here hx rfl (pc0 := 86) (pc' := 6) rfl (B d18_86) (by decide) (by decide) ?_
  refine XS.iload XG_28.here hx rfl (B d18_6) rfl ?_
  refine XS.iloadN XG_28.here hx rfl (B d18_8) rfl ?_
  refine XS.icmpNo XG_28.here hx rfl (B d18_9) rfl (tlt (by decide : (2 : Int32) < (3 : Int32))).2.1 ?_
  refine XS.aloadN XG_28.here hx rfl (B d18_12) rfl rfl ?_
  refine XS.aloadN XG_28.here hx rfl (B d18_13) rfl rfl ?_
  refine st_31.trans ?_
  refine XS.astore X_31.here hx rfl (B d18_17) rfl rfl (l' := #[zr ch, zr me, zi 3, zr ln, zr ndx_1, zi 2, zr ndx_31, zn]) rfl ?_
  refine XS.aload X_31.here hx rfl (B d18_19) rfl rfl ?_
  refine XS.aload X_31.here hx rfl (B d18_21) rfl rfl ?_
  refine st_38 _ ?_
  refine XS.aloadN XG_38.here hx rfl (B d18_26) rfl rfl ?_
  refine XS.iload XG_38.here hx rfl (B d18_27) rfl ?_
  refine XS.iconst XG_38.here hx rfl (B d18_29) ?_
  refine XS.isub XG_38.here hx rfl (B d18_30) rfl ?_
  show oSt p e below T_38 m 31 #[zr ch, zr me, zi 3, zr ln, zr ndx_1, zi 2, zr ndx_31, zn] [(.int ((2 : Int32) - (1 : Int32))), (.ref ln)] target
  rw [show (2 : Int32) - (1 : Int32) = (1 : Int32) from by decide]
  show oSt p e below T_38 m 31 #[zr ch, zr me, zi 3, zr ln, zr ndx_1, zi 2, zr ndx_31, zn] [(.int (1 : Int32)), (.ref ln)] target
  refine XG_38.aaload hx (j := (1 : Int32)) (v := .null) (by rw [e_38]; exact Ar_42.1) (State.isArrayOf_alike hZ.alike Ar_42.2.1) rfl Ar_42.2.2 hin_42 hat_42 (g := (mkF m 31 #[zr ch, zr me, zi 3, zr ln, zr ndx_1, zi 2, zr ndx_31, zn] [(.int (1 : Int32)), (.ref ln)])) rfl rfl (B d18_31) _ ?_
  refine XS.astore XG_38.here hx rfl (B d18_32) rfl rfl (l' := #[zr ch, zr me, zi 3, zr ln, zr ndx_1, zi 2, zr ndx_31, zn]) rfl ?_
  refine XS.aload XG_38.here hx rfl (B d18_34) rfl rfl ?_
  refine XS.aload XG_38.here hx rfl (B d18_36) rfl rfl ?_
  refine XS.ifnonnullNo XG_38.here hx rfl (B d18_38) rfl ?_
  refine XS.aloadN XG_38.here hx rfl (B d18_41) rfl rfl ?_
  refine st_44 _ ?_
  refine XS.iload X_44.here hx rfl (B d18_45) rfl ?_
  refine XS.iconst X_44.here hx rfl (B d18_47) ?_
  refine XS.isub X_44.here hx rfl (B d18_48) rfl ?_
  show oSt p e below T_44 m 49 #[zr ch, zr me, zi 3, zr ln, zr ndx_1, zi 2, zr ndx_31, zn] [(.int ((2 : Int32) - (1 : Int32))), (.ref fn), (.ref ndx_31)] target
  rw [show (2 : Int32) - (1 : Int32) = (1 : Int32) from by decide]
  show oSt p e below T_44 m 49 #[zr ch, zr me, zi 3, zr ln, zr ndx_1, zi 2, zr ndx_31, zn] [(.int (1 : Int32)), (.ref fn), (.ref ndx_31)] target
  refine X_44.aaload hx (j := (1 : Int32)) (v := .null) (by rw [e_44]; exact Ar_46.1) (State.isArrayOf_alike hZ.alike Ar_46.2.1) rfl Ar_46.2.2 hin_46 hat_46 (g := (mkF m 49 #[zr ch, zr me, zi 3, zr ln, zr ndx_1, zi 2, zr ndx_31, zn] [(.int (1 : Int32)), (.ref fn), (.ref ndx_31)])) rfl rfl (B d18_49) _ ?_
  refine XS.goto X_44.here hx rfl (pc0 := 50) (pc' := 58) rfl (B d18_50) (by decide) (by decide) ?_
  refine st_49 _ ?_
  refine XS.aloadN XG_49.here hx rfl (B d18_61) rfl rfl ?_
  refine XS.iload XG_49.here hx rfl (B d18_62) rfl ?_
  refine XS.aload XG_49.here hx rfl (B d18_64) rfl rfl ?_
  refine XS.aload XG_49.here hx rfl (B d18_66) rfl rfl ?_
  refine st_52.trans ?_
  refine XS.aloadN X_52.here hx rfl (B d18_71) rfl rfl ?_
  refine XS.iload X_52.here hx rfl (B d18_72) rfl ?_
  refine XS.iconst X_52.here hx rfl (B d18_74) ?_
  refine XS.isub X_52.here hx rfl (B d18_75) rfl ?_
  show oSt p e below T_52 m 76 #[zr ch, zr me, zi 3, zr ln, zr ndx_1, zi 2, zr ndx_31, zn] [(.int ((2 : Int32) - (1 : Int32))), (.ref ln)] target
  rw [show (2 : Int32) - (1 : Int32) = (1 : Int32) from by decide]
  show oSt p e below T_52 m 76 #[zr ch, zr me, zi 3, zr ln, zr ndx_1, zi 2, zr ndx_31, zn] [(.int (1 : Int32)), (.ref ln)] target
  refine XS.aload X_52.here hx rfl (B d18_76) rfl rfl ?_
  refine st_62 _ ?_
  refine XS.aload XG_62.here hx rfl (B d18_79) rfl rfl ?_
  refine XS.astore XG_62.here hx rfl (B d18_81) rfl rfl (l' := #[zr ch, zr me, zi 3, zr ln, zr ndx_31, zi 2, zr ndx_31, zn]) rfl ?_
  refine XS.iinc XG_62.here hx rfl (B d18_83) rfl (l' := #[zr ch, zr me, zi 3, zr ln, zr ndx_31, .val (.int ((2 : Int32) + (1 : Int32))), zr ndx_31, zn]) rfl ?_
  show oSt p e below T_62 m 86 #[zr ch, zr me, zi 3, zr ln, zr ndx_31, .val (.int ((2 : Int32) + (1 : Int32))), zr ndx_31, zn] [] target
  rw [show (2 : Int32) + (1 : Int32) = (3 : Int32) from by decide]
  show oSt p e below T_62 m 86 #[zr ch, zr me, zi 3, zr ln, zr ndx_31, zi 3, zr ndx_31, zn] [] target
  refine XS.goto XG_62.here hx rfl (pc0 := 86) (pc' := 6) rfl (B d18_86) (by decide) (by decide) ?_
  refine XS.iload XG_62.here hx rfl (B d18_6) rfl ?_
  refine XS.iloadN XG_62.here hx rfl (B d18_8) rfl ?_
  refine XS.icmpYes XG_62.here hx rfl (pc0 := 9) (pc' := 89) rfl (B d18_9) rfl (flt (by decide : ¬ ((3 : Int32) < (3 : Int32)))).2.1 (by decide) (by decide) ?_
  exact kt
 obtain ⟨fs, hr, hrun, hended, hW, hsame⟩ := XG_62.leave (v := none) (fun _ => rfl)
 refine ⟨_, _, XG_62.returnOut hx Bd.returns (B d18_89) hr, hrun, hended, _, _, rfl, ?_, ⟨_, rfl⟩, hW, hsame.mono (by decide) (by decide)⟩
 show Q_lnk3 Z ch me ln fn kkf kkl h0 n0 _ T_62.heap _
 rw [e_62]
 have f_65 := (((((f_35.keep p_31_0).wr W_38).wr W_49).keep p_52_0).wr W_62)
 have f_66 := (((((((((p_1_2.other W_4 (Or.inr (sn_33 hw))).other W_15 (Or.inr (sn_34 hw))).keep p_18_0 (oN1 (Ne.symm ne_fn_ndx_1) (oN1 (Ne.symm ne_ln_ndx_1) oN))).other W_28 (Or.inl (Ne.symm ne_ln_ndx_1))).keep p_31_0 oN).other W_38 (Or.inl ne_ndx_1_ndx_31)).other W_49 (Or.inl ne_ndx_1_ndx_31)).keep p_52_0 (oN1 (Ne.symm ne_fn_ndx_1) (oN1 (Ne.symm ne_ln_ndx_1) oN))).other W_62 (Or.inl (Ne.symm ne_ln_ndx_1)))
 have f_67 := (((((((F_15.keep p_18_0 (oN1 (Ne.symm ne_fn_ndx_1) (oN1 (Ne.symm ne_ln_ndx_1) oN))).other W_28 (Or.inl (Ne.symm ne_ln_ndx_1))).keep p_31_0 oN).other W_38 (Or.inl ne_ndx_1_ndx_31)).other W_49 (Or.inl ne_ndx_1_ndx_31)).keep p_52_0 (oN1 (Ne.symm ne_fn_ndx_1) (oN1 (Ne.symm ne_ln_ndx_1) oN))).other W_62 (Or.inl (Ne.symm ne_ln_ndx_1)))
 have f_68 := ((((((((F_4.other W_15 (Or.inr (sn_35 hw))).keep p_18_0 (oN1 (Ne.symm ne_fn_ndx_1) (oN1 (Ne.symm ne_ln_ndx_1) oN))).other W_28 (Or.inl (Ne.symm ne_ln_ndx_1))).keep p_31_0 oN).other W_38 (Or.inl ne_ndx_1_ndx_31)).other W_49 (Or.inl ne_ndx_1_ndx_31)).keep p_52_0 (oN1 (Ne.symm ne_fn_ndx_1) (oN1 (Ne.symm ne_ln_ndx_1) oN))).other W_62 (Or.inl (Ne.symm ne_ln_ndx_1)))
 have f_69 := (f_61.wr W_62)
 have f_70 := ((((p_31_2.other W_38 (Or.inr (sn_33 hw))).other W_49 (Or.inr (sn_34 hw))).keep p_52_0 (oN1 (Ne.symm ne_fn_ndx_31) (oN1 (Ne.symm ne_ln_ndx_31) oN))).other W_62 (Or.inl (Ne.symm ne_ln_ndx_31)))
 have f_71 := ((F_49.keep p_52_0 (oN1 (Ne.symm ne_fn_ndx_31) (oN1 (Ne.symm ne_ln_ndx_31) oN))).other W_62 (Or.inl (Ne.symm ne_ln_ndx_31)))
 have f_72 := (((F_38.other W_49 (Or.inr (sn_35 hw))).keep p_52_0 (oN1 (Ne.symm ne_fn_ndx_31) (oN1 (Ne.symm ne_ln_ndx_31) oN))).other W_62 (Or.inl (Ne.symm ne_ln_ndx_31)))
 have f_73 := (p_52_1.other W_62 n_fn_ln)
 exact ⟨ndx_1, ndx_31, rfl, N_62, K_64, f_65, f_66, f_67, f_68, f_69, f_70, f_71, f_72, f_73, V_62, sz_ndx_1, sz_ndx_31, ne_ndx_1_ndx_31⟩
-- com/example/carillon/carillon/Chain.append:(Lcom/example/carillon/carillon/Message;)V
theorem d19_0 : decode cd19 0 = .ok (.aload_n 0, 1) := by decide +kernel
theorem d19_1 : decode cd19 1 = .ok (.invokevirtual 113, 3) := by decide +kernel
theorem d19_4 : decode cd19 4 = .ok (.istore_n 2, 1) := by decide +kernel
theorem d19_5 : decode cd19 5 = .ok (.aload_n 1, 1) := by decide +kernel
theorem d19_6 : decode cd19 6 = .ok (.iload_n 2, 1) := by decide +kernel
theorem d19_7 : decode cd19 7 = .ok (.i2b, 1) := by decide +kernel
theorem d19_8 : decode cd19 8 = .ok (.putfield 117, 3) := by decide +kernel
theorem d19_11 : decode cd19 11 = .ok (.aload_n 1, 1) := by decide +kernel
theorem d19_12 : decode cd19 12 = .ok (.aconst_null, 1) := by decide +kernel
theorem d19_13 : decode cd19 13 = .ok (.putfield 68, 3) := by decide +kernel
theorem d19_16 : decode cd19 16 = .ok (.aload_n 0, 1) := by decide +kernel
theorem d19_17 : decode cd19 17 = .ok (.getfield 38, 3) := by decide +kernel
theorem d19_20 : decode cd19 20 = .ok (.ifnonnull 11, 3) := by decide +kernel
theorem d19_23 : decode cd19 23 = .ok (.aload_n 0, 1) := by decide +kernel
theorem d19_24 : decode cd19 24 = .ok (.aload_n 1, 1) := by decide +kernel
theorem d19_25 : decode cd19 25 = .ok (.putfield 34, 3) := by decide +kernel
theorem d19_28 : decode cd19 28 = .ok (.goto 11, 3) := by decide +kernel
theorem d19_39 : decode cd19 39 = .ok (.aload_n 0, 1) := by decide +kernel
theorem d19_40 : decode cd19 40 = .ok (.aload_n 1, 1) := by decide +kernel
theorem d19_41 : decode cd19 41 = .ok (.putfield 38, 3) := by decide +kernel
theorem d19_44 : decode cd19 44 = .ok (.aload_n 0, 1) := by decide +kernel
theorem d19_45 : decode cd19 45 = .ok (.aload_n 1, 1) := by decide +kernel
theorem d19_46 : decode cd19 46 = .ok (.iload_n 2, 1) := by decide +kernel
theorem d19_47 : decode cd19 47 = .ok (.aload_n 0, 1) := by decide +kernel
theorem d19_48 : decode cd19 48 = .ok (.getfield 15, 3) := by decide +kernel
theorem d19_51 : decode cd19 51 = .ok (.invokevirtual 121, 3) := by decide +kernel
theorem d19_54 : decode cd19 54 = .ok (.return_, 1) := by decide +kernel
theorem ef_ap0 (m : MethodId) (ch me : Addr) : entryFrame m #[(.ref ch), (.ref me)] 3 = mkF m 0 #[.val (.ref ch), .val (.ref me), .unset] [] := by first | (simp [entryFrame, mkF, argsToLocals, Value.category]; done) | rfl
def Q_ap0 (Z : State) (ch me fn ln bl fg : Addr) (kkf kkl : ClassId) (spc fme lme : Int32) (ldr wme : Int64) (hv fev : Value) (h0 : Heap) (n0 : Nat) (v : Option Value) (h : Heap) (L : List Loc) : Prop := ∃ (na : Addr), ∃ (nb : Addr), v = none ∧ Fr n0 L ∧ Keep h0 h [ch, me, fn, ln] ∧ Exa Z h ch sg3 ∧ xF8 Z h ch (.ref me) ∧ xF9 Z h ch (.ref me) ∧ xF10 Z h ch (.ref fn) ∧ xF11 Z h ch (.ref ln) ∧ xF12 Z h ch (.ref bl) ∧ xF13 Z h ch .null ∧ xF14 Z h ch (.int spc) ∧ xF15 Z h ch (.long (own_next ldr)) ∧ xF16 Z h ch fev ∧ xF17 Z h ch (.ref fg) ∧ Exa Z h me sg0 ∧ xF0 Z h me .null ∧ xF1 Z h me (.long wme) ∧ xF2 Z h me (.int fme) ∧ xF3 Z h me (.int (3 : Int32)) ∧ Exa Z h na sg5 ∧ xF18 Z h na (.ref me) ∧ xF19 Z h na .null ∧ xF20 Z h na .null ∧ Exa Z h nb sg5 ∧ xF18 Z h nb (.ref me) ∧ xF19 Z h nb .null ∧ xF20 Z h nb (.ref na) ∧ aN Z h fn kkf (.ref na) (.ref nb) ∧ aN Z h ln kkl (.ref na) (.ref nb) ∧ h0.size ≤ na ∧ h0.size ≤ nb ∧ na ≠ nb
set_option maxRecDepth 65536 in
set_option maxHeartbeats 40000000 in
theorem rm_ap0 (l : Launch) (Z : State) (a0 : Array Value) (hw : hwT Z a0) (ws : List Jvm.Cond) (ch me fn ln bl fg : Addr) (kkf kkl : ClassId) (spc fme lme : Int32) (ldr wme : Int64) (hv fev : Value) (h0 : Heap) (n0 : Nat) (Z0 : n0 ≤ h0.size) (P0_ : Exa Z h0 ch sg3) (P1_ : xF8 Z h0 ch hv) (P2_ : xF9 Z h0 ch .null) (P3_ : xF10 Z h0 ch (.ref fn)) (P4_ : xF11 Z h0 ch (.ref ln)) (P5_ : xF12 Z h0 ch (.ref bl)) (P6_ : xF13 Z h0 ch .null) (P7_ : xF14 Z h0 ch (.int spc)) (P8_ : xF15 Z h0 ch (.long ldr)) (P9_ : xF16 Z h0 ch fev) (P10_ : xF17 Z h0 ch (.ref fg)) (P11_ : aN Z h0 fn kkf .null .null) (P12_ : aN Z h0 ln kkl .null .null) (P13_ : Exa Z h0 me sg0) (P14_ : xF0 Z h0 me .null) (P15_ : xF1 Z h0 me (.long wme)) (P16_ : xF2 Z h0 me (.int fme)) (P17_ : xF3 Z h0 me (.int lme)) (Okkf : Ovr Z kkf sg5) (Okkl : Ovr Z kkl sg5) (g_ch : n0 ≤ ch) (g_me : n0 ≤ me) (g_fn : n0 ≤ fn) (g_ln : n0 ≤ ln) (n_ch_fn : ch ≠ fn) (n_ch_ln : ch ≠ ln) (n_ch_me : ch ≠ me) (n_fn_ln : fn ≠ ln) (n_fn_me : fn ≠ me) (n_ln_me : ln ≠ me) (hdr : (own_lanes ldr = (3 : Int32))) :
  oMF l Z mn19 (Jvm.Cond.code mn19 prog_2_method_13_code 3 none) ws (rO 4 2 6 58) #[(.ref ch), (.ref me)] h0 (Q_ap0 Z ch me fn ln bl fg kkf kkl spc fme lme ldr wme hv fev h0 n0) := by
 refine MetFree.of_bodySF (plainFor_of_name pn_ordc) hisR ?_
 intro p e s m args below meth c s₁ Bd hml0 hP hK
 obtain ⟨rfl, hZ, hh⟩ := hP
 have hx := Bd.exec
 have hby := Bd.bytes
 have B : ∀ {pc r}, decode cd19 pc = r → decode c.code pc = r := fun h => hb hby h
 have hml : c.maxLocals = 3 := hml0
 have hown : s.vm.findClass sg3 = some m.cls := findClass_of_methodNamed Bd.named
 have hnm := (name_of_methodNamed Bd.named Bd.method).1
 have X0 : Stand p l e (rO 4 2 6 58) s m #[(.ref ch), (.ref me)] below meth c s₁ [] 0 0 := Stand.of_body Bd
 have e0 : s₁.heap = h0 := by rw [← hh, Bd.state]; rfl
 have N0 := Fr.nil n0
 refine own_in ?_
 refine own_go (S' := s₁.setTop (mkF m 0 #[zr ch, zr me, zu] [])) (fun tgt_ stp_ => castTop (ef_ap0 m ch me) stp_) ?_
 have K0 : Keep h0 h0 [ch, me, fn, ln] := Keep.refl h0 _
 obtain ⟨cq_1, q_1, q_1'⟩ := P0_.cell
 obtain ⟨_, _, ⟨T_1, L_1, k_1, n_1⟩, -, X_1, ⟨Lc_1, hQ_1, l_1, y_1, z_1⟩, st_1⟩ := X0.privateBack hx (y := mn14) hown (oT hZ hw 100 rfl) (oT hZ hw 101 rfl) (psl_3 hZ hw) (oP hZ hw 102 rfl) (oT hZ hw 103 rfl) (by decide) (backOf (W := 0) (rm_draw l Z a0 hw [] ch fn ln bl fg spc ldr hv .null .null fev h0 n0 Z0 P0_ P1_ P2_ P3_ P4_ P5_ P6_ P7_ P8_ P9_ P10_ g_ch) hZ (oW hw 103 rfl) (oW hw 19 rfl) (by decide) (by decide)) (g := (mkF m 1 #[zr ch, zr me, zu] [(.ref ch)])) rfl (by rw [hml]; rfl) (Steps.refl _) (a := ch) (by rw [e0]; exact q_1) q_1' (argsL := []) (rest := []) (lenOf pd9 rfl) rfl (oQ rfl) (B d19_1) (fun _ _ => ⟨rfl, e0, (by decide : 0 + 0 ≤ _), (by decide : 0 + 0 ≤ _)⟩)
 dsimp only [Pt.U, Pt.locs, Pt.cells, Pt.slots] at X_1 l_1 y_1 z_1 st_1 hQ_1
 subst y_1 z_1
 obtain ⟨rfl, N_1q, p_1_0, p_1_1, p_1_2, p_1_3, p_1_4, p_1_5, p_1_6, p_1_7, p_1_8, p_1_9, p_1_10, p_1_11⟩ := hQ_1
 have N_1 : Fr n0 L_1 := by rw [l_1]; exact Fr.app N0 N_1q
 clear l_1
 have Z_2 := Nat.le_trans Z0 p_1_0.1
 have K_3 : Keep h0 T_1.heap [ch, me, fn, ln] := K0.trans p_1_0 fun x q => Or.inl (oM1 q 0 rfl)
 have f_4 := (P13_.keep p_1_0)
 have f_5 := (P17_.keep p_1_0 (oN1 (Ne.symm n_ch_me) oN))
 obtain ⟨T_6, h_6, X_6, e_6, W_6, st_6⟩ := putFN X_1 hx hZ hown (oW hw 115 rfl) Via.refl rfl f_5 f_4 (Or.inl (oW hw 116 rfl)) (oW hw 1 rfl) (ty := .byte) (v' := (.int (3 : Int32))) (by decide) rfl (by decide) (g := (mkF m 8 #[zr ch, zr me, zi 3] [(.int (3 : Int32)), (.ref me)])) rfl rfl (B d19_8)
 obtain ⟨Lg_6, XG_6, N_6⟩ := own_gen X_6 (Fr.snoc X_6 N_1 g_me)
 have F_6 := f_5.same W_6
 have Z_7 := Nat.le_trans Z_2 (Keep.of_wr W_6).1
 have K_8 : Keep h0 h_6 [ch, me, fn, ln] := K_3.wr W_6 (oK 1 rfl)
 have f_9 := (f_4.wr W_6)
 have f_10 := ((P14_.keep p_1_0 (oN1 (Ne.symm n_ch_me) oN)).other W_6 (Or.inr (sn_36 hw)))
 obtain ⟨T_11, h_11, X_11, e_11, W_11, st_11⟩ := putF XG_6 hx hZ hown (oV hw 117 rfl) Via.refl e_6 f_10 f_9 (Or.inl (oW hw 118 rfl)) (oW hw 1 rfl) (ty := (.object sg0)) (by decide) rfl rfl (g := (mkF m 13 #[zr ch, zr me, zi 3] [.null, (.ref me)])) rfl rfl (B d19_13)
 obtain ⟨Lg_11, XG_11, N_11⟩ := own_gen X_11 (Fr.snoc X_11 N_6 g_me)
 have F_11 := f_10.same W_11
 have Z_12 := Nat.le_trans Z_7 (Keep.of_wr W_11).1
 have K_13 : Keep h0 h_11 [ch, me, fn, ln] := K_8.wr W_11 (oK 1 rfl)
 have f_14 := ((p_1_3.other W_6 (Or.inl n_ch_me)).other W_11 (Or.inl n_ch_me))
 obtain ⟨T_15, X_15, e_15, st_15⟩ := getF XG_11 hx hZ hown (oV hw 94 rfl) Via.refl e_11 f_14 (g := (mkF m 17 #[zr ch, zr me, zi 3] [(.ref ch)])) rfl rfl (B d19_17)
 have f_16 := ((p_1_1.wr W_6).wr W_11)
 have f_17 := ((p_1_2.other W_6 (Or.inl n_ch_me)).other W_11 (Or.inl n_ch_me))
 obtain ⟨T_18, h_18, X_18, e_18, W_18, st_18⟩ := putF X_15 hx hZ hown (oV hw 119 rfl) Via.refl e_15 f_17 f_16 (Or.inl (oW hw 120 rfl)) (oW hw 18 rfl) (ty := (.object sg0)) (by decide) rfl rfl (g := (mkF m 25 #[zr ch, zr me, zi 3] [(.ref me), (.ref ch)])) rfl rfl (B d19_25)
 obtain ⟨Lg_18, XG_18, N_18⟩ := own_gen X_18 (Fr.snoc X_18 N_11 g_ch)
 have F_18 := f_17.same W_18
 have Z_19 := Nat.le_trans Z_12 (Keep.of_wr W_18).1
 have K_20 : Keep h0 h_18 [ch, me, fn, ln] := K_13.wr W_18 (oK 0 rfl)
 have f_21 := (f_16.wr W_18)
 have f_22 := (f_14.other W_18 (Or.inr (sn_37 hw)))
 obtain ⟨T_23, h_23, X_23, e_23, W_23, st_23⟩ := putF XG_18 hx hZ hown (oV hw 94 rfl) Via.refl e_18 f_22 f_21 (Or.inl (oW hw 95 rfl)) (oW hw 18 rfl) (ty := (.object sg0)) (by decide) rfl rfl (g := (mkF m 41 #[zr ch, zr me, zi 3] [(.ref me), (.ref ch)])) rfl rfl (B d19_41)
 obtain ⟨Lg_23, XG_23, N_23⟩ := own_gen X_23 (Fr.snoc X_23 N_18 g_ch)
 have F_23 := f_22.same W_23
 have Z_24 := Nat.le_trans Z_19 (Keep.of_wr W_23).1
 have K_25 : Keep h0 h_23 [ch, me, fn, ln] := K_20.wr W_23 (oK 0 rfl)
 have f_26 := ((((p_1_5.other W_6 (Or.inl n_ch_me)).other W_11 (Or.inl n_ch_me)).other W_18 (Or.inr (sn_38 hw))).other W_23 (Or.inr (sn_39 hw)))
 obtain ⟨T_27, X_27, e_27, st_27⟩ := getF XG_23 hx hZ hown (oV hw 28 rfl) Via.refl e_23 f_26 (g := (mkF m 48 #[zr ch, zr me, zi 3] [(.ref ch), (.int (3 : Int32)), (.ref me), (.ref ch)])) rfl rfl (B d19_48)
 have f_29 := (f_21.wr W_23)
 have f_30 := ((((p_1_7.other W_6 (Or.inl n_ch_me)).other W_11 (Or.inl n_ch_me)).other W_18 (Or.inr (sn_40 hw))).other W_23 (Or.inr (sn_41 hw)))
 have f_31 := ((((p_1_4.other W_6 (Or.inl n_ch_me)).other W_11 (Or.inl n_ch_me)).other W_18 (Or.inr (sn_42 hw))).other W_23 (Or.inr (sn_43 hw)))
 have f_32 := (((((P11_.keep p_1_0 (oN1 (Ne.symm n_ch_fn) oN)).other W_6 n_fn_me).other W_11 n_fn_me).other W_18 (Ne.symm n_ch_fn)).other W_23 (Ne.symm n_ch_fn))
 have f_33 := (((((P12_.keep p_1_0 (oN1 (Ne.symm n_ch_ln) oN)).other W_6 n_ln_me).other W_11 n_ln_me).other W_18 (Ne.symm n_ch_ln)).other W_23 (Ne.symm n_ch_ln))
 obtain ⟨cq_28, q_28, q_28'⟩ := f_29.cell
 obtain ⟨_, _, ⟨T_28, L_28, k_28, n_28⟩, -, X_28, ⟨Lc_28, hQ_28, l_28, y_28, z_28⟩, st_28⟩ := X_27.privateBack hx (y := mn18) hown (oT hZ hw 121 rfl) (oT hZ hw 122 rfl) (psl_4 hZ hw) (oP hZ hw 123 rfl) (oT hZ hw 124 rfl) (by decide) (backOf (W := 0) (rm_lnk3 l Z a0 hw [] ch me ln fn kkf kkl h_23 n0 Z_24 f_29 f_30 f_31 f_26 f_32 f_33 Okkf Okkl g_fn g_ln n_ch_fn n_ch_ln n_fn_ln) hZ (oW hw 124 rfl) (oW hw 19 rfl) (by decide) (by decide)) (g := (mkF m 51 #[zr ch, zr me, zi 3] [(.ref ln), (.int (3 : Int32)), (.ref me), (.ref ch)])) rfl (by rw [hml]; rfl) (Steps.refl _) (a := ch) (by rw [e_27]; exact q_28) q_28' (argsL := [(.ref me), (.int (3 : Int32)), (.ref ln)]) (rest := []) (lenOf pd10 rfl) rfl (oQ rfl) (B d19_51) (fun _ _ => ⟨rfl, e_27, (by decide : 0 + 2 ≤ _), (by decide : 0 + 6 ≤ _)⟩)
 dsimp only [Pt.U, Pt.locs, Pt.cells, Pt.slots] at X_28 l_28 y_28 z_28 st_28 hQ_28
 subst y_28 z_28
 have f_34 := (((f_9.wr W_11).wr W_18).wr W_23)
 obtain ⟨nax_28, nbx_28, rfl, N_28q, p_28_0, p_28_1, p_28_2, p_28_3, p_28_4, p_28_5, p_28_6, p_28_7, p_28_8, p_28_9, p_28_10, p_28_11, p_28_12, p_28_13⟩ := hQ_28
 have N_28 : Fr n0 L_28 := by rw [l_28]; exact Fr.app N_23 N_28q
 clear l_28
 have Z_35 := Nat.le_trans Z_24 p_28_0.1
 have K_36 : Keep h0 T_28.heap [ch, me, fn, ln] := K_25.trans p_28_0 fun x q => Or.inl (oM q 2 rfl fun q => oM1 q 3 rfl)
 have gn_nax_28 : n0 ≤ nax_28 := Nat.le_trans Z_24 p_28_11
 have sz_nax_28 : h0.size ≤ nax_28 := Nat.le_trans K_25.1 p_28_11
 have ne_ch_nax_28 : ch ≠ nax_28 := Nat.ne_of_lt (Nat.lt_of_lt_of_le f_29.lt p_28_11)
 have ne_fn_nax_28 : fn ≠ nax_28 := Nat.ne_of_lt (Nat.lt_of_lt_of_le f_32.lt p_28_11)
 have ne_ln_nax_28 : ln ≠ nax_28 := Nat.ne_of_lt (Nat.lt_of_lt_of_le f_33.lt p_28_11)
 have ne_me_nax_28 : me ≠ nax_28 := Nat.ne_of_lt (Nat.lt_of_lt_of_le f_34.lt p_28_11)
 have gn_nbx_28 : n0 ≤ nbx_28 := Nat.le_trans Z_24 p_28_12
 have sz_nbx_28 : h0.size ≤ nbx_28 := Nat.le_trans K_25.1 p_28_12
 have ne_ch_nbx_28 : ch ≠ nbx_28 := Nat.ne_of_lt (Nat.lt_of_lt_of_le f_29.lt p_28_12)
 have ne_fn_nbx_28 : fn ≠ nbx_28 := Nat.ne_of_lt (Nat.lt_of_lt_of_le f_32.lt p_28_12)
 have ne_ln_nbx_28 : ln ≠ nbx_28 := Nat.ne_of_lt (Nat.lt_of_lt_of_le f_33.lt p_28_12)
 have ne_me_nbx_28 : me ≠ nbx_28 := Nat.ne_of_lt (Nat.lt_of_lt_of_le f_34.lt p_28_12)
 refine own_go (S' := T_28.setTop (mkF m 54 #[zr ch, zr me, zi 3] [])) (fun target kt => ?_) ?_
 ·
  show oSt p e below s₁ m 0 #[zr ch, zr me, zu] [] target
  refine XS.aloadN X0.here hx rfl (B d19_0) rfl rfl ?_
  refine st_1.trans ?_
  show oSt p e below T_1 m 4 #[zr ch, zr me, zu] [(.int (own_lanes ldr))] target
  rw [hdr]
  show oSt p e below T_1 m 4 #[zr ch, zr me, zu] [(.int (3 : Int32))] target
  refine XS.istoreN X_1.here hx rfl (B d19_4) rfl (l' := #[zr ch, zr me, zi 3]) rfl ?_
  refine XS.aloadN X_1.here hx rfl (B d19_5) rfl rfl ?_
  refine XS.iloadN X_1.here hx rfl (B d19_6) rfl ?_
  refine XS.i2b X_1.here hx rfl (B d19_7) rfl ?_
  show oSt p e below T_1 m 8 #[zr ch, zr me, zi 3] [(.int ((3 : Int32).toInt8.toInt32)), (.ref me)] target
  rw [show ((3 : Int32).toInt8.toInt32) = (3 : Int32) from by decide]
  show oSt p e below T_1 m 8 #[zr ch, zr me, zi 3] [(.int (3 : Int32)), (.ref me)] target
  refine st_6 _ ?_
  refine XS.aloadN XG_6.here hx rfl (B d19_11) rfl rfl ?_
  refine XS.aconstNull XG_6.here hx rfl (B d19_12) ?_
  refine st_11 _ ?_
  refine XS.aloadN XG_11.here hx rfl (B d19_16) rfl rfl ?_
  refine st_15 _ ?_
  refine XS.ifnonnullNo X_15.here hx rfl (B d19_20) rfl ?_
  refine XS.aloadN X_15.here hx rfl (B d19_23) rfl rfl ?_
  refine XS.aloadN X_15.here hx rfl (B d19_24) rfl rfl ?_
  refine st_18 _ ?_
  refine XS.goto XG_18.here hx rfl (pc0 := 28) (pc' := 39) rfl (B d19_28) (by decide) (by decide) ?_
  refine XS.aloadN XG_18.here hx rfl (B d19_39) rfl rfl ?_
  refine XS.aloadN XG_18.here hx rfl (B d19_40) rfl rfl ?_
  refine st_23 _ ?_
  refine XS.aloadN XG_23.here hx rfl (B d19_44) rfl rfl ?_
  refine XS.aloadN XG_23.here hx rfl (B d19_45) rfl rfl ?_
  refine XS.iloadN XG_23.here hx rfl (B d19_46) rfl ?_
  show oSt p e below T_23 m 47 #[zr ch, zr me, zi 3] [(.int (3 : Int32)), (.ref me), (.ref ch)] target
  refine XS.aloadN XG_23.here hx rfl (B d19_47) rfl rfl ?_
  refine st_27 _ ?_
  refine st_28.trans ?_
  exact kt
 obtain ⟨fs, hr, hrun, hended, hW, hsame⟩ := X_28.leave (v := none) (fun _ => rfl)
 refine ⟨_, _, X_28.returnOut hx Bd.returns (B d19_54) hr, hrun, hended, _, _, rfl, ?_, ⟨_, rfl⟩, hW, hsame.mono (by decide) (by decide)⟩
 show Q_ap0 Z ch me fn ln bl fg kkf kkl spc fme lme ldr wme hv fev h0 n0 _ T_28.heap _
 have f_37 := (f_29.keep p_28_0)
 have f_38 := ((F_18.other W_23 (Or.inr (sn_44 hw))).keep p_28_0 (oN1 n_ch_fn (oN1 n_ch_ln oN)))
 have f_39 := (F_23.keep p_28_0 (oN1 n_ch_fn (oN1 n_ch_ln oN)))
 have f_40 := (f_31.keep p_28_0 (oN1 n_ch_fn (oN1 n_ch_ln oN)))
 have f_41 := (f_26.keep p_28_0 (oN1 n_ch_fn (oN1 n_ch_ln oN)))
 have f_42 := (((((p_1_6.other W_6 (Or.inl n_ch_me)).other W_11 (Or.inl n_ch_me)).other W_18 (Or.inr (sn_45 hw))).other W_23 (Or.inr (sn_46 hw))).keep p_28_0 (oN1 n_ch_fn (oN1 n_ch_ln oN)))
 have f_43 := (f_30.keep p_28_0 (oN1 n_ch_fn (oN1 n_ch_ln oN)))
 have f_44 := (((((p_1_8.other W_6 (Or.inl n_ch_me)).other W_11 (Or.inl n_ch_me)).other W_18 (Or.inr (sn_47 hw))).other W_23 (Or.inr (sn_48 hw))).keep p_28_0 (oN1 n_ch_fn (oN1 n_ch_ln oN)))
 have f_45 := (((((p_1_9.other W_6 (Or.inl n_ch_me)).other W_11 (Or.inl n_ch_me)).other W_18 (Or.inr (sn_49 hw))).other W_23 (Or.inr (sn_50 hw))).keep p_28_0 (oN1 n_ch_fn (oN1 n_ch_ln oN)))
 have f_46 := (((((p_1_10.other W_6 (Or.inl n_ch_me)).other W_11 (Or.inl n_ch_me)).other W_18 (Or.inr (sn_51 hw))).other W_23 (Or.inr (sn_52 hw))).keep p_28_0 (oN1 n_ch_fn (oN1 n_ch_ln oN)))
 have f_47 := (((((p_1_11.other W_6 (Or.inl n_ch_me)).other W_11 (Or.inl n_ch_me)).other W_18 (Or.inr (sn_53 hw))).other W_23 (Or.inr (sn_54 hw))).keep p_28_0 (oN1 n_ch_fn (oN1 n_ch_ln oN)))
 have f_48 := (f_34.keep p_28_0)
 have f_49 := (((F_11.other W_18 (Or.inl (Ne.symm n_ch_me))).other W_23 (Or.inl (Ne.symm n_ch_me))).keep p_28_0 (oN1 (Ne.symm n_fn_me) (oN1 (Ne.symm n_ln_me) oN)))
 have f_50 := ((((((P15_.keep p_1_0 (oN1 (Ne.symm n_ch_me) oN)).other W_6 (Or.inr (sn_55 hw))).other W_11 (Or.inr (sn_56 hw))).other W_18 (Or.inl (Ne.symm n_ch_me))).other W_23 (Or.inl (Ne.symm n_ch_me))).keep p_28_0 (oN1 (Ne.symm n_fn_me) (oN1 (Ne.symm n_ln_me) oN)))
 have f_51 := ((((((P16_.keep p_1_0 (oN1 (Ne.symm n_ch_me) oN)).other W_6 (Or.inr (sn_57 hw))).other W_11 (Or.inr (sn_58 hw))).other W_18 (Or.inl (Ne.symm n_ch_me))).other W_23 (Or.inl (Ne.symm n_ch_me))).keep p_28_0 (oN1 (Ne.symm n_fn_me) (oN1 (Ne.symm n_ln_me) oN)))
 have f_52 := ((((F_6.other W_11 (Or.inr (sn_59 hw))).other W_18 (Or.inl (Ne.symm n_ch_me))).other W_23 (Or.inl (Ne.symm n_ch_me))).keep p_28_0 (oN1 (Ne.symm n_fn_me) (oN1 (Ne.symm n_ln_me) oN)))
 exact ⟨nax_28, nbx_28, rfl, N_28, K_36, f_37, f_38, f_39, f_40, f_41, f_42, f_43, f_44, f_45, f_46, f_47, f_48, f_49, f_50, f_51, f_52, p_28_1, p_28_2, p_28_3, p_28_4, p_28_5, p_28_6, p_28_7, p_28_8, p_28_9, p_28_10, sz_nax_28, sz_nbx_28, p_28_13⟩
-- com/example/carillon/carillon/Chain.append:(Lcom/example/carillon/carillon/Message;)V
theorem d19_31 : decode cd19 31 = .ok (.aload_n 0, 1) := by decide +kernel
theorem d19_32 : decode cd19 32 = .ok (.getfield 38, 3) := by decide +kernel
theorem d19_35 : decode cd19 35 = .ok (.aload_n 1, 1) := by decide +kernel
theorem d19_36 : decode cd19 36 = .ok (.putfield 68, 3) := by decide +kernel
def Q_ap1 (Z : State) (ch me mt fn ln bl fg : Addr) (spc fmt lmt fme lme : Int32) (ldr wmt wme : Int64) (hv spv fev : Value) (h0 : Heap) (n0 : Nat) (v : Option Value) (h : Heap) (L : List Loc) : Prop := v = none ∧ Fr n0 L ∧ Keep h0 h [ch, me, mt] ∧ Exa Z h ch sg3 ∧ xF8 Z h ch hv ∧ xF9 Z h ch (.ref me) ∧ xF10 Z h ch (.ref fn) ∧ xF11 Z h ch (.ref ln) ∧ xF12 Z h ch (.ref bl) ∧ xF13 Z h ch spv ∧ xF14 Z h ch (.int spc) ∧ xF15 Z h ch (.long (own_next ldr)) ∧ xF16 Z h ch fev ∧ xF17 Z h ch (.ref fg) ∧ Exa Z h mt sg0 ∧ xF0 Z h mt (.ref me) ∧ xF1 Z h mt (.long wmt) ∧ xF2 Z h mt (.int fmt) ∧ xF3 Z h mt (.int lmt) ∧ Exa Z h me sg0 ∧ xF0 Z h me .null ∧ xF1 Z h me (.long wme) ∧ xF2 Z h me (.int fme) ∧ xF3 Z h me (.int (1 : Int32))
set_option maxRecDepth 65536 in
set_option maxHeartbeats 40000000 in
theorem rm_ap1 (l : Launch) (Z : State) (a0 : Array Value) (hw : hwT Z a0) (ws : List Jvm.Cond) (ch me mt fn ln bl fg : Addr) (spc fmt lmt fme lme : Int32) (ldr wmt wme : Int64) (hv spv fev : Value) (h0 : Heap) (n0 : Nat) (Z0 : n0 ≤ h0.size) (P0_ : Exa Z h0 ch sg3) (P1_ : xF8 Z h0 ch hv) (P2_ : xF9 Z h0 ch (.ref mt)) (P3_ : xF10 Z h0 ch (.ref fn)) (P4_ : xF11 Z h0 ch (.ref ln)) (P5_ : xF12 Z h0 ch (.ref bl)) (P6_ : xF13 Z h0 ch spv) (P7_ : xF14 Z h0 ch (.int spc)) (P8_ : xF15 Z h0 ch (.long ldr)) (P9_ : xF16 Z h0 ch fev) (P10_ : xF17 Z h0 ch (.ref fg)) (P11_ : Exa Z h0 mt sg0) (P12_ : xF0 Z h0 mt .null) (P13_ : xF1 Z h0 mt (.long wmt)) (P14_ : xF2 Z h0 mt (.int fmt)) (P15_ : xF3 Z h0 mt (.int lmt)) (P16_ : Exa Z h0 me sg0) (P17_ : xF0 Z h0 me .null) (P18_ : xF1 Z h0 me (.long wme)) (P19_ : xF2 Z h0 me (.int fme)) (P20_ : xF3 Z h0 me (.int lme)) (g_ch : n0 ≤ ch) (g_me : n0 ≤ me) (g_mt : n0 ≤ mt) (n_ch_mt : ch ≠ mt) (n_ch_me : ch ≠ me) (n_mt_me : mt ≠ me) (hdr : (own_lanes ldr = (1 : Int32))) :
  oMF l Z mn19 (Jvm.Cond.code mn19 prog_2_method_13_code 3 none) ws (rO 3 0 0 43) #[(.ref ch), (.ref me)] h0 (Q_ap1 Z ch me mt fn ln bl fg spc fmt lmt fme lme ldr wmt wme hv spv fev h0 n0) := by
 refine MetFree.of_bodySF (plainFor_of_name pn_ordc) hisR ?_
 intro p e s m args below meth c s₁ Bd hml0 hP hK
 obtain ⟨rfl, hZ, hh⟩ := hP
 have hx := Bd.exec
 have hby := Bd.bytes
 have B : ∀ {pc r}, decode cd19 pc = r → decode c.code pc = r := fun h => hb hby h
 have hml : c.maxLocals = 3 := hml0
 have hown : s.vm.findClass sg3 = some m.cls := findClass_of_methodNamed Bd.named
 have hnm := (name_of_methodNamed Bd.named Bd.method).1
 have X0 : Stand p l e (rO 3 0 0 43) s m #[(.ref ch), (.ref me)] below meth c s₁ [] 0 0 := Stand.of_body Bd
 have e0 : s₁.heap = h0 := by rw [← hh, Bd.state]; rfl
 have N0 := Fr.nil n0
 refine own_in ?_
 refine own_go (S' := s₁.setTop (mkF m 0 #[zr ch, zr me, zu] [])) (fun tgt_ stp_ => castTop (ef_ap0 m ch me) stp_) ?_
 have K0 : Keep h0 h0 [ch, me, mt] := Keep.refl h0 _
 obtain ⟨cq_1, q_1, q_1'⟩ := P0_.cell
 obtain ⟨_, _, ⟨T_1, L_1, k_1, n_1⟩, -, X_1, ⟨Lc_1, hQ_1, l_1, y_1, z_1⟩, st_1⟩ := X0.privateBack hx (y := mn14) hown (oT hZ hw 100 rfl) (oT hZ hw 101 rfl) (psl_3 hZ hw) (oP hZ hw 102 rfl) (oT hZ hw 103 rfl) (by decide) (backOf (W := 0) (rm_draw l Z a0 hw [] ch fn ln bl fg spc ldr hv (.ref mt) spv fev h0 n0 Z0 P0_ P1_ P2_ P3_ P4_ P5_ P6_ P7_ P8_ P9_ P10_ g_ch) hZ (oW hw 103 rfl) (oW hw 19 rfl) (by decide) (by decide)) (g := (mkF m 1 #[zr ch, zr me, zu] [(.ref ch)])) rfl (by rw [hml]; rfl) (Steps.refl _) (a := ch) (by rw [e0]; exact q_1) q_1' (argsL := []) (rest := []) (lenOf pd9 rfl) rfl (oQ rfl) (B d19_1) (fun _ _ => ⟨rfl, e0, (by decide : 0 + 0 ≤ _), (by decide : 0 + 0 ≤ _)⟩)
 dsimp only [Pt.U, Pt.locs, Pt.cells, Pt.slots] at X_1 l_1 y_1 z_1 st_1 hQ_1
 subst y_1 z_1
 obtain ⟨rfl, N_1q, p_1_0, p_1_1, p_1_2, p_1_3, p_1_4, p_1_5, p_1_6, p_1_7, p_1_8, p_1_9, p_1_10, p_1_11⟩ := hQ_1
 have N_1 : Fr n0 L_1 := by rw [l_1]; exact Fr.app N0 N_1q
 clear l_1
 have Z_2 := Nat.le_trans Z0 p_1_0.1
 have K_3 : Keep h0 T_1.heap [ch, me, mt] := K0.trans p_1_0 fun x q => Or.inl (oM1 q 0 rfl)
 have f_4 := (P16_.keep p_1_0)
 have f_5 := (P20_.keep p_1_0 (oN1 (Ne.symm n_ch_me) oN))
 obtain ⟨T_6, h_6, X_6, e_6, W_6, st_6⟩ := putFN X_1 hx hZ hown (oW hw 115 rfl) Via.refl rfl f_5 f_4 (Or.inl (oW hw 116 rfl)) (oW hw 1 rfl) (ty := .byte) (v' := (.int (1 : Int32))) (by decide) rfl (by decide) (g := (mkF m 8 #[zr ch, zr me, zi 1] [(.int (1 : Int32)), (.ref me)])) rfl rfl (B d19_8)
 obtain ⟨Lg_6, XG_6, N_6⟩ := own_gen X_6 (Fr.snoc X_6 N_1 g_me)
 have F_6 := f_5.same W_6
 have Z_7 := Nat.le_trans Z_2 (Keep.of_wr W_6).1
 have K_8 : Keep h0 h_6 [ch, me, mt] := K_3.wr W_6 (oK 1 rfl)
 have f_9 := (f_4.wr W_6)
 have f_10 := ((P17_.keep p_1_0 (oN1 (Ne.symm n_ch_me) oN)).other W_6 (Or.inr (sn_36 hw)))
 obtain ⟨T_11, h_11, X_11, e_11, W_11, st_11⟩ := putF XG_6 hx hZ hown (oV hw 117 rfl) Via.refl e_6 f_10 f_9 (Or.inl (oW hw 118 rfl)) (oW hw 1 rfl) (ty := (.object sg0)) (by decide) rfl rfl (g := (mkF m 13 #[zr ch, zr me, zi 1] [.null, (.ref me)])) rfl rfl (B d19_13)
 obtain ⟨Lg_11, XG_11, N_11⟩ := own_gen X_11 (Fr.snoc X_11 N_6 g_me)
 have F_11 := f_10.same W_11
 have Z_12 := Nat.le_trans Z_7 (Keep.of_wr W_11).1
 have K_13 : Keep h0 h_11 [ch, me, mt] := K_8.wr W_11 (oK 1 rfl)
 have f_14 := ((p_1_3.other W_6 (Or.inl n_ch_me)).other W_11 (Or.inl n_ch_me))
 obtain ⟨T_15, X_15, e_15, st_15⟩ := getF XG_11 hx hZ hown (oV hw 94 rfl) Via.refl e_11 f_14 (g := (mkF m 17 #[zr ch, zr me, zi 1] [(.ref ch)])) rfl rfl (B d19_17)
 obtain ⟨T_16, X_16, e_16, st_16⟩ := getF X_15 hx hZ hown (oV hw 94 rfl) Via.refl e_15 f_14 (g := (mkF m 32 #[zr ch, zr me, zi 1] [(.ref ch)])) rfl rfl (B d19_32)
 have f_17 := (((P11_.keep p_1_0).wr W_6).wr W_11)
 have f_18 := (((P12_.keep p_1_0 (oN1 (Ne.symm n_ch_mt) oN)).other W_6 (Or.inl n_mt_me)).other W_11 (Or.inl n_mt_me))
 obtain ⟨T_19, h_19, X_19, e_19, W_19, st_19⟩ := putF X_16 hx hZ hown (oV hw 117 rfl) Via.refl e_16 f_18 f_17 (Or.inl (oW hw 118 rfl)) (oW hw 1 rfl) (ty := (.object sg0)) (by decide) rfl rfl (g := (mkF m 36 #[zr ch, zr me, zi 1] [(.ref me), (.ref mt)])) rfl rfl (B d19_36)
 obtain ⟨Lg_19, XG_19, N_19⟩ := own_gen X_19 (Fr.snoc X_19 N_11 g_mt)
 have F_19 := f_18.same W_19
 have Z_20 := Nat.le_trans Z_12 (Keep.of_wr W_19).1
 have K_21 : Keep h0 h_19 [ch, me, mt] := K_13.wr W_19 (oK 2 rfl)
 have f_22 := (((p_1_1.wr W_6).wr W_11).wr W_19)
 have f_23 := (f_14.other W_19 (Or.inl n_ch_mt))
 obtain ⟨T_24, h_24, X_24, e_24, W_24, st_24⟩ := putF XG_19 hx hZ hown (oV hw 94 rfl) Via.refl e_19 f_23 f_22 (Or.inl (oW hw 95 rfl)) (oW hw 18 rfl) (ty := (.object sg0)) (by decide) rfl rfl (g := (mkF m 41 #[zr ch, zr me, zi 1] [(.ref me), (.ref ch)])) rfl rfl (B d19_41)
 obtain ⟨Lg_24, XG_24, N_24⟩ := own_gen X_24 (Fr.snoc X_24 N_19 g_ch)
 have F_24 := f_23.same W_24
 have Z_25 := Nat.le_trans Z_20 (Keep.of_wr W_24).1
 have K_26 : Keep h0 h_24 [ch, me, mt] := K_21.wr W_24 (oK 0 rfl)
 have f_27 := ((((p_1_5.other W_6 (Or.inl n_ch_me)).other W_11 (Or.inl n_ch_me)).other W_19 (Or.inl n_ch_mt)).other W_24 (Or.inr (sn_39 hw)))
 obtain ⟨T_28, X_28, e_28, st_28⟩ := getF XG_24 hx hZ hown (oV hw 28 rfl) Via.refl e_24 f_27 (g := (mkF m 48 #[zr ch, zr me, zi 1] [(.ref ch), (.int (1 : Int32)), (.ref me), (.ref ch)])) rfl rfl (B d19_48)
 have f_30 := (f_22.wr W_24)
 obtain ⟨cq_29, q_29, q_29'⟩ := f_30.cell
 obtain ⟨_, _, ⟨T_29, L_29, k_29, n_29⟩, -, X_29, ⟨Lc_29, hQ_29, l_29, y_29, z_29⟩, st_29⟩ := X_28.privateBack hx (y := mn18) hown (oT hZ hw 121 rfl) (oT hZ hw 122 rfl) (psl_4 hZ hw) (oP hZ hw 123 rfl) (oT hZ hw 124 rfl) (by decide) (backOf (W := 0) (rm_lnk1 l Z a0 hw [] ch me ln  h_24 n0 Z_25 ) hZ (oW hw 124 rfl) (oW hw 19 rfl) (by decide) (by decide)) (g := (mkF m 51 #[zr ch, zr me, zi 1] [(.ref ln), (.int (1 : Int32)), (.ref me), (.ref ch)])) rfl (by rw [hml]; rfl) (Steps.refl _) (a := ch) (by rw [e_28]; exact q_29) q_29' (argsL := [(.ref me), (.int (1 : Int32)), (.ref ln)]) (rest := []) (lenOf pd10 rfl) rfl (oQ rfl) (B d19_51) (fun _ _ => ⟨rfl, e_28, (by decide : 0 + 0 ≤ _), (by decide : 0 + 0 ≤ _)⟩)
 dsimp only [Pt.U, Pt.locs, Pt.cells, Pt.slots] at X_29 l_29 y_29 z_29 st_29 hQ_29
 subst y_29 z_29
 obtain ⟨rfl, N_29q, p_29_0⟩ := hQ_29
 have N_29 : Fr n0 L_29 := by rw [l_29]; exact Fr.app N_24 N_29q
 clear l_29
 refine own_go (S' := T_29.setTop (mkF m 54 #[zr ch, zr me, zi 1] [])) (fun target kt => ?_) ?_
 ·
  show oSt p e below s₁ m 0 #[zr ch, zr me, zu] [] target
  refine XS.aloadN X0.here hx rfl (B d19_0) rfl rfl ?_
  refine st_1.trans ?_
  show oSt p e below T_1 m 4 #[zr ch, zr me, zu] [(.int (own_lanes ldr))] target
  rw [hdr]
  show oSt p e below T_1 m 4 #[zr ch, zr me, zu] [(.int (1 : Int32))] target
  refine XS.istoreN X_1.here hx rfl (B d19_4) rfl (l' := #[zr ch, zr me, zi 1]) rfl ?_
  refine XS.aloadN X_1.here hx rfl (B d19_5) rfl rfl ?_
  refine XS.iloadN X_1.here hx rfl (B d19_6) rfl ?_
  refine XS.i2b X_1.here hx rfl (B d19_7) rfl ?_
  show oSt p e below T_1 m 8 #[zr ch, zr me, zi 1] [(.int ((1 : Int32).toInt8.toInt32)), (.ref me)] target
  rw [show ((1 : Int32).toInt8.toInt32) = (1 : Int32) from by decide]
  show oSt p e below T_1 m 8 #[zr ch, zr me, zi 1] [(.int (1 : Int32)), (.ref me)] target
  refine st_6 _ ?_
  refine XS.aloadN XG_6.here hx rfl (B d19_11) rfl rfl ?_
  refine XS.aconstNull XG_6.here hx rfl (B d19_12) ?_
  refine st_11 _ ?_
  refine XS.aloadN XG_11.here hx rfl (B d19_16) rfl rfl ?_
  refine st_15 _ ?_
  refine XS.ifnonnullYes X_15.here hx rfl (pc0 := 20) (pc' := 31) rfl (B d19_20) rfl (by decide) (by decide) ?_
  refine XS.aloadN X_15.here hx rfl (B d19_31) rfl rfl ?_
  refine st_16 _ ?_
  refine XS.aloadN X_16.here hx rfl (B d19_35) rfl rfl ?_
  refine st_19 _ ?_
  refine XS.aloadN XG_19.here hx rfl (B d19_39) rfl rfl ?_
  refine XS.aloadN XG_19.here hx rfl (B d19_40) rfl rfl ?_
  refine st_24 _ ?_
  refine XS.aloadN XG_24.here hx rfl (B d19_44) rfl rfl ?_
  refine XS.aloadN XG_24.here hx rfl (B d19_45) rfl rfl ?_
  refine XS.iloadN XG_24.here hx rfl (B d19_46) rfl ?_
  show oSt p e below T_24 m 47 #[zr ch, zr me, zi 1] [(.int (1 : Int32)), (.ref me), (.ref ch)] target
  refine XS.aloadN XG_24.here hx rfl (B d19_47) rfl rfl ?_
  refine st_28 _ ?_
  refine st_29.trans ?_
  exact kt
 obtain ⟨fs, hr, hrun, hended, hW, hsame⟩ := X_29.leave (v := none) (fun _ => rfl)
 refine ⟨_, _, X_29.returnOut hx Bd.returns (B d19_54) hr, hrun, hended, _, _, rfl, ?_, ⟨_, rfl⟩, hW, hsame.mono (by decide) (by decide)⟩
 show Q_ap1 Z ch me mt fn ln bl fg spc fmt lmt fme lme ldr wmt wme hv spv fev h0 n0 _ T_29.heap _
 rw [p_29_0]
 have f_31 := ((((p_1_2.other W_6 (Or.inl n_ch_me)).other W_11 (Or.inl n_ch_me)).other W_19 (Or.inl n_ch_mt)).other W_24 (Or.inr (sn_44 hw)))
 have f_32 := ((((p_1_4.other W_6 (Or.inl n_ch_me)).other W_11 (Or.inl n_ch_me)).other W_19 (Or.inl n_ch_mt)).other W_24 (Or.inr (sn_43 hw)))
 have f_33 := ((((p_1_6.other W_6 (Or.inl n_ch_me)).other W_11 (Or.inl n_ch_me)).other W_19 (Or.inl n_ch_mt)).other W_24 (Or.inr (sn_46 hw)))
 have f_34 := ((((p_1_7.other W_6 (Or.inl n_ch_me)).other W_11 (Or.inl n_ch_me)).other W_19 (Or.inl n_ch_mt)).other W_24 (Or.inr (sn_41 hw)))
 have f_35 := ((((p_1_8.other W_6 (Or.inl n_ch_me)).other W_11 (Or.inl n_ch_me)).other W_19 (Or.inl n_ch_mt)).other W_24 (Or.inr (sn_48 hw)))
 have f_36 := ((((p_1_9.other W_6 (Or.inl n_ch_me)).other W_11 (Or.inl n_ch_me)).other W_19 (Or.inl n_ch_mt)).other W_24 (Or.inr (sn_50 hw)))
 have f_37 := ((((p_1_10.other W_6 (Or.inl n_ch_me)).other W_11 (Or.inl n_ch_me)).other W_19 (Or.inl n_ch_mt)).other W_24 (Or.inr (sn_52 hw)))
 have f_38 := ((((p_1_11.other W_6 (Or.inl n_ch_me)).other W_11 (Or.inl n_ch_me)).other W_19 (Or.inl n_ch_mt)).other W_24 (Or.inr (sn_54 hw)))
 have f_39 := ((f_17.wr W_19).wr W_24)
 have f_40 := (F_19.other W_24 (Or.inl (Ne.symm n_ch_mt)))
 have f_41 := (((((P13_.keep p_1_0 (oN1 (Ne.symm n_ch_mt) oN)).other W_6 (Or.inl n_mt_me)).other W_11 (Or.inl n_mt_me)).other W_19 (Or.inr (sn_56 hw))).other W_24 (Or.inl (Ne.symm n_ch_mt)))
 have f_42 := (((((P14_.keep p_1_0 (oN1 (Ne.symm n_ch_mt) oN)).other W_6 (Or.inl n_mt_me)).other W_11 (Or.inl n_mt_me)).other W_19 (Or.inr (sn_58 hw))).other W_24 (Or.inl (Ne.symm n_ch_mt)))
 have f_43 := (((((P15_.keep p_1_0 (oN1 (Ne.symm n_ch_mt) oN)).other W_6 (Or.inl n_mt_me)).other W_11 (Or.inl n_mt_me)).other W_19 (Or.inr (sn_59 hw))).other W_24 (Or.inl (Ne.symm n_ch_mt)))
 have f_44 := (((f_9.wr W_11).wr W_19).wr W_24)
 have f_45 := ((F_11.other W_19 (Or.inl (Ne.symm n_mt_me))).other W_24 (Or.inl (Ne.symm n_ch_me)))
 have f_46 := (((((P18_.keep p_1_0 (oN1 (Ne.symm n_ch_me) oN)).other W_6 (Or.inr (sn_55 hw))).other W_11 (Or.inr (sn_56 hw))).other W_19 (Or.inl (Ne.symm n_mt_me))).other W_24 (Or.inl (Ne.symm n_ch_me)))
 have f_47 := (((((P19_.keep p_1_0 (oN1 (Ne.symm n_ch_me) oN)).other W_6 (Or.inr (sn_57 hw))).other W_11 (Or.inr (sn_58 hw))).other W_19 (Or.inl (Ne.symm n_mt_me))).other W_24 (Or.inl (Ne.symm n_ch_me)))
 have f_48 := (((F_6.other W_11 (Or.inr (sn_59 hw))).other W_19 (Or.inl (Ne.symm n_mt_me))).other W_24 (Or.inl (Ne.symm n_ch_me)))
 exact ⟨rfl, N_29, K_26, f_30, f_31, F_24, f_32, f_27, f_33, f_34, f_35, f_36, f_37, f_38, f_39, f_40, f_41, f_42, f_43, f_44, f_45, f_46, f_47, f_48⟩
-- com/example/carillon/carillon/Chain.linkBySearch:(Lcom/example/carillon/carillon/Message;)V
theorem d20_0 : decode cd20 0 = .ok (.aload_n 0, 1) := by decide +kernel
theorem d20_1 : decode cd20 1 = .ok (.invokevirtual 113, 3) := by decide +kernel
theorem d20_4 : decode cd20 4 = .ok (.istore_n 2, 1) := by decide +kernel
theorem d20_5 : decode cd20 5 = .ok (.aload_n 1, 1) := by decide +kernel
theorem d20_6 : decode cd20 6 = .ok (.iload_n 2, 1) := by decide +kernel
theorem d20_7 : decode cd20 7 = .ok (.i2b, 1) := by decide +kernel
theorem d20_8 : decode cd20 8 = .ok (.putfield 117, 3) := by decide +kernel
theorem d20_11 : decode cd20 11 = .ok (.iconst 0, 1) := by decide +kernel
theorem d20_12 : decode cd20 12 = .ok (.istore_n 3, 1) := by decide +kernel
theorem d20_13 : decode cd20 13 = .ok (.iload_n 3, 1) := by decide +kernel
theorem d20_14 : decode cd20 14 = .ok (.bipush 11, 2) := by decide +kernel
theorem d20_16 : decode cd20 16 = .ok (.if_icmp .ge 58, 3) := by decide +kernel
theorem d20_19 : decode cd20 19 = .ok (.aload_n 0, 1) := by decide +kernel
theorem d20_20 : decode cd20 20 = .ok (.getfield 31, 3) := by decide +kernel
theorem d20_23 : decode cd20 23 = .ok (.iload_n 3, 1) := by decide +kernel
theorem d20_24 : decode cd20 24 = .ok (.aaload, 1) := by decide +kernel
theorem d20_25 : decode cd20 25 = .ok (.astore 4, 2) := by decide +kernel
theorem d20_27 : decode cd20 27 = .ok (.aload 4, 2) := by decide +kernel
theorem d20_29 : decode cd20 29 = .ok (.ifnonnull 12, 3) := by decide +kernel
theorem d20_32 : decode cd20 32 = .ok (.aload_n 0, 1) := by decide +kernel
theorem d20_33 : decode cd20 33 = .ok (.getfield 11, 3) := by decide +kernel
theorem d20_36 : decode cd20 36 = .ok (.iload_n 3, 1) := by decide +kernel
theorem d20_37 : decode cd20 37 = .ok (.aaload, 1) := by decide +kernel
theorem d20_38 : decode cd20 38 = .ok (.goto 8, 3) := by decide +kernel
theorem d20_46 : decode cd20 46 = .ok (.astore 5, 2) := by decide +kernel
theorem d20_48 : decode cd20 48 = .ok (.aload 5, 2) := by decide +kernel
theorem d20_50 : decode cd20 50 = .ok (.ifnull 24, 3) := by decide +kernel
theorem d20_53 : decode cd20 53 = .ok (.aload_n 1, 1) := by decide +kernel
theorem d20_54 : decode cd20 54 = .ok (.aload 5, 2) := by decide +kernel
theorem d20_56 : decode cd20 56 = .ok (.getfield 129, 3) := by decide +kernel
theorem d20_59 : decode cd20 59 = .ok (.invokestatic 75, 3) := by decide +kernel
theorem d20_62 : decode cd20 62 = .ok (.ifCond .ne 6, 3) := by decide +kernel
theorem d20_65 : decode cd20 65 = .ok (.goto 9, 3) := by decide +kernel
theorem d20_74 : decode cd20 74 = .ok (.iconst 0, 1) := by decide +kernel
theorem d20_75 : decode cd20 75 = .ok (.istore 4, 2) := by decide +kernel
theorem d20_77 : decode cd20 77 = .ok (.aconst_null, 1) := by decide +kernel
theorem d20_78 : decode cd20 78 = .ok (.astore 5, 2) := by decide +kernel
theorem d20_80 : decode cd20 80 = .ok (.iload_n 3, 1) := by decide +kernel
theorem d20_81 : decode cd20 81 = .ok (.istore 6, 2) := by decide +kernel
theorem d20_83 : decode cd20 83 = .ok (.iload 6, 2) := by decide +kernel
theorem d20_85 : decode cd20 85 = .ok (.ifCond .le 120, 3) := by decide +kernel
theorem d20_205 : decode cd20 205 = .ok (.iload 4, 2) := by decide +kernel
theorem d20_207 : decode cd20 207 = .ok (.ifCond .eq 11, 3) := by decide +kernel
theorem d20_218 : decode cd20 218 = .ok (.aload_n 0, 1) := by decide +kernel
theorem d20_219 : decode cd20 219 = .ok (.getfield 135, 3) := by decide +kernel
theorem d20_222 : decode cd20 222 = .ok (.astore 6, 2) := by decide +kernel
theorem d20_224 : decode cd20 224 = .ok (.aload 6, 2) := by decide +kernel
theorem d20_226 : decode cd20 226 = .ok (.ifnonnull 10, 3) := by decide +kernel
theorem d20_229 : decode cd20 229 = .ok (.aload_n 0, 1) := by decide +kernel
theorem d20_230 : decode cd20 230 = .ok (.getfield 34, 3) := by decide +kernel
theorem d20_233 : decode cd20 233 = .ok (.goto 8, 3) := by decide +kernel
theorem d20_241 : decode cd20 241 = .ok (.astore 7, 2) := by decide +kernel
theorem d20_243 : decode cd20 243 = .ok (.aload 7, 2) := by decide +kernel
theorem d20_245 : decode cd20 245 = .ok (.ifnull 26, 3) := by decide +kernel
theorem d20_248 : decode cd20 248 = .ok (.aload_n 1, 1) := by decide +kernel
theorem d20_249 : decode cd20 249 = .ok (.aload 7, 2) := by decide +kernel
theorem d20_251 : decode cd20 251 = .ok (.invokestatic 75, 3) := by decide +kernel
theorem d20_254 : decode cd20 254 = .ok (.ifCond .eq 17, 3) := by decide +kernel
theorem d20_271 : decode cd20 271 = .ok (.aload_n 1, 1) := by decide +kernel
theorem d20_272 : decode cd20 272 = .ok (.aload 7, 2) := by decide +kernel
theorem d20_274 : decode cd20 274 = .ok (.putfield 68, 3) := by decide +kernel
theorem d20_277 : decode cd20 277 = .ok (.aload 6, 2) := by decide +kernel
theorem d20_279 : decode cd20 279 = .ok (.ifnonnull 11, 3) := by decide +kernel
theorem d20_282 : decode cd20 282 = .ok (.aload_n 0, 1) := by decide +kernel
theorem d20_283 : decode cd20 283 = .ok (.aload_n 1, 1) := by decide +kernel
theorem d20_284 : decode cd20 284 = .ok (.putfield 34, 3) := by decide +kernel
theorem d20_287 : decode cd20 287 = .ok (.goto 9, 3) := by decide +kernel
theorem d20_296 : decode cd20 296 = .ok (.aload 7, 2) := by decide +kernel
theorem d20_298 : decode cd20 298 = .ok (.ifnonnull 8, 3) := by decide +kernel
theorem d20_306 : decode cd20 306 = .ok (.aload_n 0, 1) := by decide +kernel
theorem d20_307 : decode cd20 307 = .ok (.aload_n 1, 1) := by decide +kernel
theorem d20_308 : decode cd20 308 = .ok (.putfield 135, 3) := by decide +kernel
theorem d20_311 : decode cd20 311 = .ok (.aload_n 0, 1) := by decide +kernel
theorem d20_312 : decode cd20 312 = .ok (.aload_n 1, 1) := by decide +kernel
theorem d20_313 : decode cd20 313 = .ok (.iload_n 2, 1) := by decide +kernel
theorem d20_314 : decode cd20 314 = .ok (.aload_n 0, 1) := by decide +kernel
theorem d20_315 : decode cd20 315 = .ok (.getfield 31, 3) := by decide +kernel
theorem d20_318 : decode cd20 318 = .ok (.invokevirtual 121, 3) := by decide +kernel
theorem d20_321 : decode cd20 321 = .ok (.return_, 1) := by decide +kernel
theorem ef_lbf (m : MethodId) (ch me : Addr) : entryFrame m #[(.ref ch), (.ref me)] 8 = mkF m 0 #[.val (.ref ch), .val (.ref me), .unset, .unset, .unset, .unset, .unset, .unset] [] := by first | (simp [entryFrame, mkF, argsToLocals, Value.category]; done) | rfl
def Q_lbf (Z : State) (ch me mx my fn ln bl fg na nb : Addr) (kkg kkf : ClassId) (spc fmx fmy fme lme : Int32) (ldr wmx wmy wme : Int64) (spv u0 u1 ev ra ew rb db : Value) (h0 : Heap) (n0 : Nat) (v : Option Value) (h : Heap) (L : List Loc) : Prop := v = none ∧ Fr n0 L ∧ Keep h0 h [ch, me] ∧ Exa Z h ch sg3 ∧ xF8 Z h ch (.ref me) ∧ xF9 Z h ch (.ref my) ∧ xF10 Z h ch (.ref fn) ∧ xF11 Z h ch (.ref ln) ∧ xF12 Z h ch (.ref bl) ∧ xF13 Z h ch spv ∧ xF14 Z h ch (.int spc) ∧ xF15 Z h ch (.long (own_next ldr)) ∧ xF16 Z h ch (.ref me) ∧ xF17 Z h ch (.ref fg) ∧ Exa Z h me sg0 ∧ xF0 Z h me (.ref mx) ∧ xF1 Z h me (.long wme) ∧ xF2 Z h me (.int fme) ∧ xF3 Z h me (.int (1 : Int32))
set_option maxRecDepth 65536 in
set_option maxHeartbeats 40000000 in
theorem rm_lbf (l : Launch) (Z : State) (a0 : Array Value) (hw : hwT Z a0) (ws : List Jvm.Cond) (ch me mx my fn ln bl fg na nb : Addr) (kkg kkf : ClassId) (spc fmx fmy fme lme : Int32) (ldr wmx wmy wme : Int64) (spv u0 u1 ev ra ew rb db : Value) (h0 : Heap) (n0 : Nat) (Z0 : n0 ≤ h0.size) (P0_ : Exa Z h0 ch sg3) (P1_ : xF8 Z h0 ch (.ref mx)) (P2_ : xF9 Z h0 ch (.ref my)) (P3_ : xF10 Z h0 ch (.ref fn)) (P4_ : xF11 Z h0 ch (.ref ln)) (P5_ : xF12 Z h0 ch (.ref bl)) (P6_ : xF13 Z h0 ch spv) (P7_ : xF14 Z h0 ch (.int spc)) (P8_ : xF15 Z h0 ch (.long ldr)) (P9_ : xF16 Z h0 ch .null) (P10_ : xF17 Z h0 ch (.ref fg)) (P11_ : aN Z h0 fg kkg .null .null) (P12_ : aN Z h0 fn kkf u0 u1) (P13_ : Exa Z h0 na sg5) (P14_ : xF18 Z h0 na ev) (P15_ : xF19 Z h0 na ra) (P16_ : Exa Z h0 nb sg5) (P17_ : xF18 Z h0 nb ew) (P18_ : xF19 Z h0 nb rb) (P19_ : xF20 Z h0 nb db) (P20_ : Exa Z h0 mx sg0) (P21_ : xF1 Z h0 mx (.long wmx)) (P22_ : xF2 Z h0 mx (.int fmx)) (P23_ : Exa Z h0 my sg0) (P24_ : xF1 Z h0 my (.long wmy)) (P25_ : xF2 Z h0 my (.int fmy)) (P26_ : Exa Z h0 me sg0) (P27_ : xF0 Z h0 me .null) (P28_ : xF1 Z h0 me (.long wme)) (P29_ : xF2 Z h0 me (.int fme)) (P30_ : xF3 Z h0 me (.int lme)) (g_ch : n0 ≤ ch) (g_me : n0 ≤ me) (n_ch_fg : ch ≠ fg) (n_ch_fn : ch ≠ fn) (n_ch_na : ch ≠ na) (n_ch_nb : ch ≠ nb) (n_ch_mx : ch ≠ mx) (n_ch_my : ch ≠ my) (n_ch_me : ch ≠ me) (n_fg_me : fg ≠ me) (n_fn_me : fn ≠ me) (n_na_me : na ≠ me) (n_nb_me : nb ≠ me) (n_mx_me : mx ≠ me) (n_my_me : my ≠ me) (hdr : (own_lanes ldr = (1 : Int32))) (hgx : ((own_gb fme wme fmx wmx) = (0 : Int32))) (hgy : ((own_gb fme wme fmy wmy) = (0 : Int32))) (hDD : (own_DD u0 u1 ev ew ra rb db na nb mx my)) :
  oMF l Z mn20 (Jvm.Cond.code mn20 prog_2_method_14_code 8 none) ws (rO 3 0 0 43) #[(.ref ch), (.ref me)] h0 (Q_lbf Z ch me mx my fn ln bl fg na nb kkg kkf spc fmx fmy fme lme ldr wmx wmy wme spv u0 u1 ev ra ew rb db h0 n0) := by
 refine MetFree.of_bodySF (plainFor_of_name pn_ordc) hisR ?_
 intro p e s m args below meth c s₁ Bd hml0 hP hK
 obtain ⟨rfl, hZ, hh⟩ := hP
 have hx := Bd.exec
 have hby := Bd.bytes
 have B : ∀ {pc r}, decode cd20 pc = r → decode c.code pc = r := fun h => hb hby h
 have hml : c.maxLocals = 8 := hml0
 have hown : s.vm.findClass sg3 = some m.cls := findClass_of_methodNamed Bd.named
 have hnm := (name_of_methodNamed Bd.named Bd.method).1
 have X0 : Stand p l e (rO 3 0 0 43) s m #[(.ref ch), (.ref me)] below meth c s₁ [] 0 0 := Stand.of_body Bd
 have e0 : s₁.heap = h0 := by rw [← hh, Bd.state]; rfl
 have N0 := Fr.nil n0
 refine own_in ?_
 refine own_go (S' := s₁.setTop (mkF m 0 #[zr ch, zr me, zu, zu, zu, zu, zu, zu] [])) (fun tgt_ stp_ => castTop (ef_lbf m ch me) stp_) ?_
 have K0 : Keep h0 h0 [ch, me] := Keep.refl h0 _
 obtain ⟨cq_1, q_1, q_1'⟩ := P0_.cell
 obtain ⟨_, _, ⟨T_1, L_1, k_1, n_1⟩, -, X_1, ⟨Lc_1, hQ_1, l_1, y_1, z_1⟩, st_1⟩ := X0.privateBack hx (y := mn14) hown (oT hZ hw 100 rfl) (oT hZ hw 101 rfl) (psl_3 hZ hw) (oP hZ hw 102 rfl) (oT hZ hw 103 rfl) (by decide) (backOf (W := 0) (rm_draw l Z a0 hw [] ch fn ln bl fg spc ldr (.ref mx) (.ref my) spv .null h0 n0 Z0 P0_ P1_ P2_ P3_ P4_ P5_ P6_ P7_ P8_ P9_ P10_ g_ch) hZ (oW hw 103 rfl) (oW hw 19 rfl) (by decide) (by decide)) (g := (mkF m 1 #[zr ch, zr me, zu, zu, zu, zu, zu, zu] [(.ref ch)])) rfl (by rw [hml]; rfl) (Steps.refl _) (a := ch) (by rw [e0]; exact q_1) q_1' (argsL := []) (rest := []) (lenOf pd9 rfl) rfl (oQ rfl) (B d20_1) (fun _ _ => ⟨rfl, e0, (by decide : 0 + 0 ≤ _), (by decide : 0 + 0 ≤ _)⟩)
 dsimp only [Pt.U, Pt.locs, Pt.cells, Pt.slots] at X_1 l_1 y_1 z_1 st_1 hQ_1
 subst y_1 z_1
 obtain ⟨rfl, N_1q, p_1_0, p_1_1, p_1_2, p_1_3, p_1_4, p_1_5, p_1_6, p_1_7, p_1_8, p_1_9, p_1_10, p_1_11⟩ := hQ_1
 have N_1 : Fr n0 L_1 := by rw [l_1]; exact Fr.app N0 N_1q
 clear l_1
 have Z_2 := Nat.le_trans Z0 p_1_0.1
 have K_3 : Keep h0 T_1.heap [ch, me] := K0.trans p_1_0 fun x q => Or.inl (oM1 q 0 rfl)
 have f_4 := (P26_.keep p_1_0)
 have f_5 := (P30_.keep p_1_0 (oN1 (Ne.symm n_ch_me) oN))
 obtain ⟨T_6, h_6, X_6, e_6, W_6, st_6⟩ := putFN X_1 hx hZ hown (oW hw 115 rfl) Via.refl rfl f_5 f_4 (Or.inl (oW hw 116 rfl)) (oW hw 1 rfl) (ty := .byte) (v' := (.int (1 : Int32))) (by decide) rfl (by decide) (g := (mkF m 8 #[zr ch, zr me, zi 1, zu, zu, zu, zu, zu] [(.int (1 : Int32)), (.ref me)])) rfl rfl (B d20_8)
 obtain ⟨Lg_6, XG_6, N_6⟩ := own_gen X_6 (Fr.snoc X_6 N_1 g_me)
 have F_6 := f_5.same W_6
 have Z_7 := Nat.le_trans Z_2 (Keep.of_wr W_6).1
 have K_8 : Keep h0 h_6 [ch, me] := K_3.wr W_6 (oK 1 rfl)
 refine own_go (S' := T_6.setTop (mkF m 13 #[zr ch, zr me, zi 1, zi 0, zu, zu, zu, zu] [])) (fun target kt => ?_) ?_
 ·
  show oSt p e below s₁ m 0 #[zr ch, zr me, zu, zu, zu, zu, zu, zu] [] target
  refine XS.aloadN X0.here hx rfl (B d20_0) rfl rfl ?_
  refine st_1.trans ?_
  show oSt p e below T_1 m 4 #[zr ch, zr me, zu, zu, zu, zu, zu, zu] [(.int (own_lanes ldr))] target
  rw [hdr]
  show oSt p e below T_1 m 4 #[zr ch, zr me, zu, zu, zu, zu, zu, zu] [(.int (1 : Int32))] target
  refine XS.istoreN X_1.here hx rfl (B d20_4) rfl (l' := #[zr ch, zr me, zi 1, zu, zu, zu, zu, zu]) rfl ?_
  refine XS.aloadN X_1.here hx rfl (B d20_5) rfl rfl ?_
  refine XS.iloadN X_1.here hx rfl (B d20_6) rfl ?_
  refine XS.i2b X_1.here hx rfl (B d20_7) rfl ?_
  show oSt p e below T_1 m 8 #[zr ch, zr me, zi 1, zu, zu, zu, zu, zu] [(.int ((1 : Int32).toInt8.toInt32)), (.ref me)] target
  rw [show ((1 : Int32).toInt8.toInt32) = (1 : Int32) from by decide]
  show oSt p e below T_1 m 8 #[zr ch, zr me, zi 1, zu, zu, zu, zu, zu] [(.int (1 : Int32)), (.ref me)] target
  refine st_6 _ ?_
  refine XS.iconst XG_6.here hx rfl (B d20_11) ?_
  refine XS.istoreN XG_6.here hx rfl (B d20_12) rfl (l' := #[zr ch, zr me, zi 1, zi 0, zu, zu, zu, zu]) rfl ?_
  exact kt
 refine own_cut (fun P => ∀ (T271j : State) (h271j : Heap) (lo271j : List Loc) (t3 : Slot) (t4 : Slot) (t5 : Slot), (Stand p l e (rO 3 0 0 43) s m #[(.ref ch), (.ref me)] below meth c T271j lo271j 0 0) → (T271j.heap = h271j) → (Fr n0 lo271j) → (n0 ≤ h271j.size) → (Keep h0 h271j [ch, me]) → (Exa Z h271j ch sg3) → (xF8 Z h271j ch (.ref mx)) → (xF9 Z h271j ch (.ref my)) → (xF10 Z h271j ch (.ref fn)) → (xF11 Z h271j ch (.ref ln)) → (xF12 Z h271j ch (.ref bl)) → (xF13 Z h271j ch spv) → (xF14 Z h271j ch (.int spc)) → (xF15 Z h271j ch (.long (own_next ldr))) → (xF16 Z h271j ch .null) → (xF17 Z h271j ch (.ref fg)) → (aN Z h271j fg kkg .null .null) → (Exa Z h271j mx sg0) → (xF1 Z h271j mx (.long wmx)) → (xF2 Z h271j mx (.int fmx)) → (Exa Z h271j me sg0) → (xF0 Z h271j me .null) → (xF1 Z h271j me (.long wme)) → (xF2 Z h271j me (.int fme)) → (xF3 Z h271j me (.int (1 : Int32))) → own_G p.tables e below P (T271j.setTop (mkF m 271 #[zr ch, zr me, zi 1, t3, t4, t5, zn, zr mx] []))) ?_ ?_
 ·
  intro T271j h271j lo271j t3 t4 t5 X271j e271j N271j Z271j K271j j0_ j1_ j2_ j3_ j4_ j5_ j6_ j7_ j8_ j9_ j10_ j11_ j12_ j13_ j14_ j15_ j16_ j17_ j18_ j19_
  obtain ⟨T_9, h_9, X_9, e_9, W_9, st_9⟩ := putF X271j hx hZ hown (oV hw 117 rfl) Via.refl e271j j16_ j15_ (Or.inl (oW hw 118 rfl)) (oW hw 1 rfl) (ty := (.object sg0)) (by decide) rfl rfl (g := (mkF m 274 #[zr ch, zr me, zi 1, t3, t4, t5, zn, zr mx] [(.ref mx), (.ref me)])) rfl rfl (B d20_274)
  obtain ⟨Lg_9, XG_9, N_9⟩ := own_gen X_9 (Fr.snoc X_9 N271j g_me)
  have F_9 := j16_.same W_9
  have Z_10 := Nat.le_trans Z271j (Keep.of_wr W_9).1
  have K_11 : Keep h0 h_9 [ch, me] := K271j.wr W_9 (oK 1 rfl)
  have f_12 := (j0_.wr W_9)
  have f_13 := (j1_.other W_9 (Or.inl n_ch_me))
  obtain ⟨T_14, h_14, X_14, e_14, W_14, st_14⟩ := putF XG_9 hx hZ hown (oV hw 119 rfl) Via.refl e_9 f_13 f_12 (Or.inl (oW hw 120 rfl)) (oW hw 18 rfl) (ty := (.object sg0)) (by decide) rfl rfl (g := (mkF m 284 #[zr ch, zr me, zi 1, t3, t4, t5, zn, zr mx] [(.ref me), (.ref ch)])) rfl rfl (B d20_284)
  obtain ⟨Lg_14, XG_14, N_14⟩ := own_gen X_14 (Fr.snoc X_14 N_9 g_ch)
  have F_14 := f_13.same W_14
  have Z_15 := Nat.le_trans Z_10 (Keep.of_wr W_14).1
  have K_16 : Keep h0 h_14 [ch, me] := K_11.wr W_14 (oK 0 rfl)
  have f_17 := (f_12.wr W_14)
  have f_18 := ((j9_.other W_9 (Or.inl n_ch_me)).other W_14 (Or.inr (sn_51 hw)))
  obtain ⟨T_19, h_19, X_19, e_19, W_19, st_19⟩ := putF XG_14 hx hZ hown (oV hw 73 rfl) Via.refl e_14 f_18 f_17 (Or.inl (oW hw 74 rfl)) (oW hw 18 rfl) (ty := (.object sg0)) (by decide) rfl rfl (g := (mkF m 308 #[zr ch, zr me, zi 1, t3, t4, t5, zn, zr mx] [(.ref me), (.ref ch)])) rfl rfl (B d20_308)
  obtain ⟨Lg_19, XG_19, N_19⟩ := own_gen X_19 (Fr.snoc X_19 N_14 g_ch)
  have F_19 := f_18.same W_19
  have Z_20 := Nat.le_trans Z_15 (Keep.of_wr W_19).1
  have K_21 : Keep h0 h_19 [ch, me] := K_16.wr W_19 (oK 0 rfl)
  have f_22 := (((j10_.other W_9 (Or.inl n_ch_me)).other W_14 (Or.inr (sn_53 hw))).other W_19 (Or.inr (sn_12 hw)))
  obtain ⟨T_23, X_23, e_23, st_23⟩ := getF XG_19 hx hZ hown (oV hw 52 rfl) Via.refl e_19 f_22 (g := (mkF m 315 #[zr ch, zr me, zi 1, t3, t4, t5, zn, zr mx] [(.ref ch), (.int (1 : Int32)), (.ref me), (.ref ch)])) rfl rfl (B d20_315)
  have f_25 := (f_17.wr W_19)
  obtain ⟨cq_24, q_24, q_24'⟩ := f_25.cell
  obtain ⟨_, _, ⟨T_24, L_24, k_24, n_24⟩, -, X_24, ⟨Lc_24, hQ_24, l_24, y_24, z_24⟩, st_24⟩ := X_23.privateBack hx (y := mn18) hown (oT hZ hw 121 rfl) (oT hZ hw 122 rfl) (psl_4 hZ hw) (oP hZ hw 123 rfl) (oT hZ hw 124 rfl) (by decide) (backOf (W := 0) (rm_lnk1 l Z a0 hw [] ch me fg  h_19 n0 Z_20 ) hZ (oW hw 124 rfl) (oW hw 19 rfl) (by decide) (by decide)) (g := (mkF m 318 #[zr ch, zr me, zi 1, t3, t4, t5, zn, zr mx] [(.ref fg), (.int (1 : Int32)), (.ref me), (.ref ch)])) rfl (by rw [hml]; rfl) (Steps.refl _) (a := ch) (by rw [e_23]; exact q_24) q_24' (argsL := [(.ref me), (.int (1 : Int32)), (.ref fg)]) (rest := []) (lenOf pd10 rfl) rfl (oQ rfl) (B d20_318) (fun _ _ => ⟨rfl, e_23, (by decide : 0 + 0 ≤ _), (by decide : 0 + 0 ≤ _)⟩)
  dsimp only [Pt.U, Pt.locs, Pt.cells, Pt.slots] at X_24 l_24 y_24 z_24 st_24 hQ_24
  subst y_24 z_24
  obtain ⟨rfl, N_24q, p_24_0⟩ := hQ_24
  have N_24 : Fr n0 L_24 := by rw [l_24]; exact Fr.app N_19 N_24q
  clear l_24
  refine own_go (S' := T_24.setTop (mkF m 321 #[zr ch, zr me, zi 1, t3, t4, t5, zn, zr mx] [])) (fun target kt => ?_) ?_
  ·
   show oSt p e below T271j m 271 #[zr ch, zr me, zi 1, t3, t4, t5, zn, zr mx] [] target
   refine XS.aloadN X271j.here hx rfl (B d20_271) rfl rfl ?_
   refine XS.aload X271j.here hx rfl (B d20_272) rfl rfl ?_
   refine st_9 _ ?_
   refine XS.aload XG_9.here hx rfl (B d20_277) rfl rfl ?_
   refine XS.ifnonnullNo XG_9.here hx rfl (B d20_279) rfl ?_
   refine XS.aloadN XG_9.here hx rfl (B d20_282) rfl rfl ?_
   refine XS.aloadN XG_9.here hx rfl (B d20_283) rfl rfl ?_
   refine st_14 _ ?_
   refine XS.goto XG_14.here hx rfl (pc0 := 287) (pc' := 296) rfl (B d20_287) (by decide) (by decide) ?_
   refine XS.aload XG_14.here hx rfl (B d20_296) rfl rfl ?_
   refine XS.ifnonnullYes XG_14.here hx rfl (pc0 := 298) (pc' := 306) rfl (B d20_298) rfl (by decide) (by decide) ?_
   refine XS.aloadN XG_14.here hx rfl (B d20_306) rfl rfl ?_
   refine XS.aloadN XG_14.here hx rfl (B d20_307) rfl rfl ?_
   refine st_19 _ ?_
   refine XS.aloadN XG_19.here hx rfl (B d20_311) rfl rfl ?_
   refine XS.aloadN XG_19.here hx rfl (B d20_312) rfl rfl ?_
   refine XS.iloadN XG_19.here hx rfl (B d20_313) rfl ?_
   show oSt p e below T_19 m 314 #[zr ch, zr me, zi 1, t3, t4, t5, zn, zr mx] [(.int (1 : Int32)), (.ref me), (.ref ch)] target
   refine XS.aloadN XG_19.here hx rfl (B d20_314) rfl rfl ?_
   refine st_23 _ ?_
   refine st_24.trans ?_
   exact kt
  obtain ⟨fs, hr, hrun, hended, hW, hsame⟩ := X_24.leave (v := none) (fun _ => rfl)
  refine ⟨_, _, X_24.returnOut hx Bd.returns (B d20_321) hr, hrun, hended, _, _, rfl, ?_, ⟨_, rfl⟩, hW, hsame.mono (by decide) (by decide)⟩
  show Q_lbf Z ch me mx my fn ln bl fg na nb kkg kkf spc fmx fmy fme lme ldr wmx wmy wme spv u0 u1 ev ra ew rb db h0 n0 _ T_24.heap _
  rw [p_24_0]
  have f_26 := (F_14.other W_19 (Or.inr (sn_13 hw)))
  have f_27 := (((j2_.other W_9 (Or.inl n_ch_me)).other W_14 (Or.inr (sn_37 hw))).other W_19 (Or.inr (sn_14 hw)))
  have f_28 := (((j3_.other W_9 (Or.inl n_ch_me)).other W_14 (Or.inr (sn_42 hw))).other W_19 (Or.inr (sn_15 hw)))
  have f_29 := (((j4_.other W_9 (Or.inl n_ch_me)).other W_14 (Or.inr (sn_38 hw))).other W_19 (Or.inr (sn_16 hw)))
  have f_30 := (((j5_.other W_9 (Or.inl n_ch_me)).other W_14 (Or.inr (sn_45 hw))).other W_19 (Or.inr (sn_17 hw)))
  have f_31 := (((j6_.other W_9 (Or.inl n_ch_me)).other W_14 (Or.inr (sn_40 hw))).other W_19 (Or.inr (sn_18 hw)))
  have f_32 := (((j7_.other W_9 (Or.inl n_ch_me)).other W_14 (Or.inr (sn_47 hw))).other W_19 (Or.inr (sn_19 hw)))
  have f_33 := (((j8_.other W_9 (Or.inl n_ch_me)).other W_14 (Or.inr (sn_49 hw))).other W_19 (Or.inr (sn_20 hw)))
  have f_34 := (((j15_.wr W_9).wr W_14).wr W_19)
  have f_35 := ((F_9.other W_14 (Or.inl (Ne.symm n_ch_me))).other W_19 (Or.inl (Ne.symm n_ch_me)))
  have f_36 := (((j17_.other W_9 (Or.inr (sn_56 hw))).other W_14 (Or.inl (Ne.symm n_ch_me))).other W_19 (Or.inl (Ne.symm n_ch_me)))
  have f_37 := (((j18_.other W_9 (Or.inr (sn_58 hw))).other W_14 (Or.inl (Ne.symm n_ch_me))).other W_19 (Or.inl (Ne.symm n_ch_me)))
  have f_38 := (((j19_.other W_9 (Or.inr (sn_59 hw))).other W_14 (Or.inl (Ne.symm n_ch_me))).other W_19 (Or.inl (Ne.symm n_ch_me)))
  exact ⟨rfl, N_24, K_21, f_25, f_26, f_27, f_28, f_29, f_30, f_31, f_32, f_33, F_19, f_22, f_34, f_35, f_36, f_37, f_38⟩
 ·
  intro J271
  rcases hDD with rfl | ⟨rfl, rfl⟩ | ⟨rfl, rfl, rfl, rfl, rfl, rfl, rfl⟩
  ·
   skip
   have f_39 := (p_1_11.other W_6 (Or.inl n_ch_me))
   obtain ⟨T_40, X_40, e_40, st_40⟩ := getF XG_6 hx hZ hown (oV hw 52 rfl) Via.refl e_6 f_39 (g := (mkF m 20 #[zr ch, zr me, zi 1, zi 0, zu, zu, zu, zu] [(.ref ch)])) rfl rfl (B d20_20)
   have f_41 := ((P11_.keep p_1_0 (oN1 (Ne.symm n_ch_fg) oN)).other W_6 n_fg_me)
   obtain ⟨c_42, Ar_42, q_42, S_42, M_42, Hs_42, G_42⟩ := id f_41
   have hin_42 : ¬ ((0 : Int32) < 0 ∨ c_42.slots.size ≤ ((0 : Int32)).toNatClampNeg) := inb_of S_42 ⟨by decide, by decide⟩
   have hat_42 : c_42.slots[((0 : Int32)).toNatClampNeg]? = some .null := Hs_42.at hin_42 rfl
   have f_43 := (p_1_4.other W_6 (Or.inl n_ch_me))
   obtain ⟨T_44, X_44, e_44, st_44⟩ := getF X_40 hx hZ hown (oV hw 26 rfl) Via.refl e_40 f_43 (g := (mkF m 33 #[zr ch, zr me, zi 1, zi 0, zn, zu, zu, zu] [(.ref ch)])) rfl rfl (B d20_33)
   have f_45 := ((P12_.keep p_1_0 (oN1 (Ne.symm n_ch_fn) oN)).other W_6 n_fn_me)
   obtain ⟨c_46, Ar_46, q_46, S_46, M_46, Hs_46, G_46⟩ := id f_45
   have hin_46 : ¬ ((0 : Int32) < 0 ∨ c_46.slots.size ≤ ((0 : Int32)).toNatClampNeg) := inb_of S_46 ⟨by decide, by decide⟩
   have hat_46 : c_46.slots[((0 : Int32)).toNatClampNeg]? = some .null := Hs_46.at hin_46 rfl
   have f_47 := (p_1_10.other W_6 (Or.inl n_ch_me))
   obtain ⟨T_48, X_48, e_48, st_48⟩ := getF X_44 hx hZ hown (oV hw 73 rfl) Via.refl e_44 f_47 (g := (mkF m 219 #[zr ch, zr me, zi 1, zi 0, zi 0, zn, zi 0, zu] [(.ref ch)])) rfl rfl (B d20_219)
   have f_49 := (p_1_2.other W_6 (Or.inl n_ch_me))
   obtain ⟨T_50, X_50, e_50, st_50⟩ := getF X_48 hx hZ hown (oV hw 119 rfl) Via.refl e_48 f_49 (g := (mkF m 230 #[zr ch, zr me, zi 1, zi 0, zi 0, zn, zn, zu] [(.ref ch)])) rfl rfl (B d20_230)
   have f_52 := ((P29_.keep p_1_0 (oN1 (Ne.symm n_ch_me) oN)).other W_6 (Or.inr (sn_57 hw)))
   have f_53 := ((P28_.keep p_1_0 (oN1 (Ne.symm n_ch_me) oN)).other W_6 (Or.inr (sn_55 hw)))
   have f_54 := ((P22_.keep p_1_0 (oN1 (Ne.symm n_ch_mx) oN)).other W_6 (Or.inl n_mx_me))
   have f_55 := ((P21_.keep p_1_0 (oN1 (Ne.symm n_ch_mx) oN)).other W_6 (Or.inl n_mx_me))
   obtain ⟨_, _, ⟨T_51, L_51, k_51, n_51⟩, -, X_51, ⟨Lc_51, hQ_51, l_51, y_51, z_51⟩, st_51⟩ := Jvm.LawKit.callS X_50 hx (y := mn4) hown (oT hZ hw 148 rfl) (oT hZ hw 149 rfl) (oT hZ hw 19 rfl) (oT hZ hw 150 rfl) (by decide) (backOf (W := 0) (rm_gb l Z a0 hw [] me mx fme wme fmx wmx h_6 n0 Z_7 f_52 f_53 f_54 f_55) hZ (oW hw 150 rfl) (oW hw 19 rfl) (by decide) (by decide)) (g := (mkF m 251 #[zr ch, zr me, zi 1, zi 0, zi 0, zn, zn, zr mx] [(.ref mx), (.ref me)])) rfl (by rw [hml]; rfl) (argsL := [(.ref me), (.ref mx)]) (rest := []) (lenOf pd11 rfl) rfl (oQ rfl) (B d20_251) (fun _ _ => ⟨rfl, e_50, (by decide : 0 + 0 ≤ _), (by decide : 0 + 0 ≤ _)⟩)
   dsimp only [Pt.U, Pt.locs, Pt.cells, Pt.slots] at X_51 l_51 y_51 z_51 st_51 hQ_51
   subst y_51 z_51
   obtain ⟨rfl, N_51q, p_51_0⟩ := hQ_51
   have N_51 : Fr n0 L_51 := by rw [l_51]; exact Fr.app N_6 N_51q
   clear l_51
   have f_56 := (p_1_1.wr W_6)
   have f_57 := (p_1_3.other W_6 (Or.inl n_ch_me))
   have f_58 := (p_1_5.other W_6 (Or.inl n_ch_me))
   have f_59 := (p_1_6.other W_6 (Or.inl n_ch_me))
   have f_60 := (p_1_7.other W_6 (Or.inl n_ch_me))
   have f_61 := (p_1_8.other W_6 (Or.inl n_ch_me))
   have f_62 := (p_1_9.other W_6 (Or.inl n_ch_me))
   have f_63 := ((P20_.keep p_1_0).wr W_6)
   have f_64 := (f_4.wr W_6)
   have f_65 := ((P27_.keep p_1_0 (oN1 (Ne.symm n_ch_me) oN)).other W_6 (Or.inr (sn_36 hw)))
   refine own_go (S' := T_51.setTop (mkF m 271 #[zr ch, zr me, zi 1, zi 0, zi 0, zn, zn, zr mx] [])) (fun target kt => ?_) ?_
   ·
    show oSt p e below T_6 m 13 #[zr ch, zr me, zi 1, zi 0, zu, zu, zu, zu] [] target
    refine XS.iloadN XG_6.here hx rfl (B d20_13) rfl ?_
    refine XS.bipush XG_6.here hx rfl (B d20_14) ?_
    refine XS.icmpNo XG_6.here hx rfl (B d20_16) rfl (tlt (by decide : (0 : Int32) < (11 : Int32))).2.1 ?_
    refine XS.aloadN XG_6.here hx rfl (B d20_19) rfl rfl ?_
    refine st_40 _ ?_
    refine XS.iloadN X_40.here hx rfl (B d20_23) rfl ?_
    refine X_40.aaload hx (j := (0 : Int32)) (v := .null) (by rw [e_40]; exact Ar_42.1) (State.isArrayOf_alike hZ.alike Ar_42.2.1) rfl Ar_42.2.2 hin_42 hat_42 (g := (mkF m 24 #[zr ch, zr me, zi 1, zi 0, zu, zu, zu, zu] [(.int (0 : Int32)), (.ref fg)])) rfl rfl (B d20_24) _ ?_
    refine XS.astore X_40.here hx rfl (B d20_25) rfl rfl (l' := #[zr ch, zr me, zi 1, zi 0, zn, zu, zu, zu]) rfl ?_
    refine XS.aload X_40.here hx rfl (B d20_27) rfl rfl ?_
    refine XS.ifnonnullNo X_40.here hx rfl (B d20_29) rfl ?_
    refine XS.aloadN X_40.here hx rfl (B d20_32) rfl rfl ?_
    refine st_44 _ ?_
    refine XS.iloadN X_44.here hx rfl (B d20_36) rfl ?_
    refine X_44.aaload hx (j := (0 : Int32)) (v := .null) (by rw [e_44]; exact Ar_46.1) (State.isArrayOf_alike hZ.alike Ar_46.2.1) rfl Ar_46.2.2 hin_46 hat_46 (g := (mkF m 37 #[zr ch, zr me, zi 1, zi 0, zn, zu, zu, zu] [(.int (0 : Int32)), (.ref fn)])) rfl rfl (B d20_37) _ ?_
    refine XS.goto X_44.here hx rfl (pc0 := 38) (pc' := 46) rfl (B d20_38) (by decide) (by decide) ?_
    refine XS.astore X_44.here hx rfl (B d20_46) rfl rfl (l' := #[zr ch, zr me, zi 1, zi 0, zn, zn, zu, zu]) rfl ?_
    refine XS.aload X_44.here hx rfl (B d20_48) rfl rfl ?_
    show oSt p e below T_44 m 50 #[zr ch, zr me, zi 1, zi 0, zn, zn, zu, zu] [.null] target
    refine XS.ifnullYes X_44.here hx rfl (pc0 := 50) (pc' := 74) rfl (B d20_50) rfl (by decide) (by decide) ?_
    refine XS.iconst X_44.here hx rfl (B d20_74) ?_
    refine XS.istore X_44.here hx rfl (B d20_75) rfl (l' := #[zr ch, zr me, zi 1, zi 0, zi 0, zn, zu, zu]) rfl ?_
    refine XS.aconstNull X_44.here hx rfl (B d20_77) ?_
    refine XS.astore X_44.here hx rfl (B d20_78) rfl rfl (l' := #[zr ch, zr me, zi 1, zi 0, zi 0, zn, zu, zu]) rfl ?_
    refine XS.iloadN X_44.here hx rfl (B d20_80) rfl ?_
    refine XS.istore X_44.here hx rfl (B d20_81) rfl (l' := #[zr ch, zr me, zi 1, zi 0, zi 0, zn, zi 0, zu]) rfl ?_
    refine XS.iload X_44.here hx rfl (B d20_83) rfl ?_
    refine XS.ifYes X_44.here hx rfl (pc0 := 85) (pc' := 205) rfl (B d20_85) rfl ((if0 _ _).trans (flt (by decide : ¬ ((0 : Int32) < (0 : Int32)))).2.2.2) (by decide) (by decide) ?_
    refine XS.iload X_44.here hx rfl (B d20_205) rfl ?_
    refine XS.ifYes X_44.here hx rfl (pc0 := 207) (pc' := 218) rfl (B d20_207) rfl ((if0 _ _).trans (teq (by decide : (0 : Int32) = (0 : Int32))).1) (by decide) (by decide) ?_
    refine XS.aloadN X_44.here hx rfl (B d20_218) rfl rfl ?_
    refine st_48 _ ?_
    refine XS.astore X_48.here hx rfl (B d20_222) rfl rfl (l' := #[zr ch, zr me, zi 1, zi 0, zi 0, zn, zn, zu]) rfl ?_
    refine XS.aload X_48.here hx rfl (B d20_224) rfl rfl ?_
    refine XS.ifnonnullNo X_48.here hx rfl (B d20_226) rfl ?_
    refine XS.aloadN X_48.here hx rfl (B d20_229) rfl rfl ?_
    show oSt p e below T_48 m 230 #[zr ch, zr me, zi 1, zi 0, zi 0, zn, zn, zu] [(.ref ch)] target
    refine st_50 _ ?_
    refine XS.goto X_50.here hx rfl (pc0 := 233) (pc' := 241) rfl (B d20_233) (by decide) (by decide) ?_
    refine XS.astore X_50.here hx rfl (B d20_241) rfl rfl (l' := #[zr ch, zr me, zi 1, zi 0, zi 0, zn, zn, zr mx]) rfl ?_
    refine XS.aload X_50.here hx rfl (B d20_243) rfl rfl ?_
    refine XS.ifnullNo X_50.here hx rfl (B d20_245) rfl ?_
    refine XS.aloadN X_50.here hx rfl (B d20_248) rfl rfl ?_
    refine XS.aload X_50.here hx rfl (B d20_249) rfl rfl ?_
    refine st_51 _ ?_
    refine XS.ifYes X_51.here hx rfl (pc0 := 254) (pc' := 271) rfl (B d20_254) rfl ((if0 _ _).trans (teq hgx).1) (by decide) (by decide) ?_
    exact kt
   exact J271 T_51 h_6 _ (.val (.int (0 : Int32))) (.val (.int (0 : Int32))) (.val .null) X_51 p_51_0 N_51 Z_7 K_8 f_56 f_49 f_57 f_43 f_58 f_59 f_60 f_61 f_62 f_47 f_39 f_41 f_63 f_55 f_54 f_64 f_65 f_53 f_52 F_6
  ·
   skip
   have f_66 := (p_1_11.other W_6 (Or.inl n_ch_me))
   obtain ⟨T_67, X_67, e_67, st_67⟩ := getF XG_6 hx hZ hown (oV hw 52 rfl) Via.refl e_6 f_66 (g := (mkF m 20 #[zr ch, zr me, zi 1, zi 0, zu, zu, zu, zu] [(.ref ch)])) rfl rfl (B d20_20)
   have f_68 := ((P11_.keep p_1_0 (oN1 (Ne.symm n_ch_fg) oN)).other W_6 n_fg_me)
   obtain ⟨c_69, Ar_69, q_69, S_69, M_69, Hs_69, G_69⟩ := id f_68
   have hin_69 : ¬ ((0 : Int32) < 0 ∨ c_69.slots.size ≤ ((0 : Int32)).toNatClampNeg) := inb_of S_69 ⟨by decide, by decide⟩
   have hat_69 : c_69.slots[((0 : Int32)).toNatClampNeg]? = some .null := Hs_69.at hin_69 rfl
   have f_70 := (p_1_4.other W_6 (Or.inl n_ch_me))
   obtain ⟨T_71, X_71, e_71, st_71⟩ := getF X_67 hx hZ hown (oV hw 26 rfl) Via.refl e_67 f_70 (g := (mkF m 33 #[zr ch, zr me, zi 1, zi 0, zn, zu, zu, zu] [(.ref ch)])) rfl rfl (B d20_33)
   have f_72 := ((P12_.keep p_1_0 (oN1 (Ne.symm n_ch_fn) oN)).other W_6 n_fn_me)
   obtain ⟨c_73, Ar_73, q_73, S_73, M_73, Hs_73, G_73⟩ := id f_72
   have hin_73 : ¬ ((0 : Int32) < 0 ∨ c_73.slots.size ≤ ((0 : Int32)).toNatClampNeg) := inb_of S_73 ⟨by decide, by decide⟩
   have hat_73 : c_73.slots[((0 : Int32)).toNatClampNeg]? = some (.ref na) := Hs_73.at hin_73 rfl
   have f_74 := ((P14_.keep p_1_0 (oN1 (Ne.symm n_ch_na) oN)).other W_6 (Or.inl n_na_me))
   obtain ⟨T_75, X_75, e_75, st_75⟩ := getF X_71 hx hZ hown (oV hw 137 rfl) Via.refl e_71 f_74 (g := (mkF m 56 #[zr ch, zr me, zi 1, zi 0, zn, zr na, zu, zu] [(.ref na), (.ref me)])) rfl rfl (B d20_56)
   have f_77 := ((P29_.keep p_1_0 (oN1 (Ne.symm n_ch_me) oN)).other W_6 (Or.inr (sn_57 hw)))
   have f_78 := ((P28_.keep p_1_0 (oN1 (Ne.symm n_ch_me) oN)).other W_6 (Or.inr (sn_55 hw)))
   have f_79 := ((P25_.keep p_1_0 (oN1 (Ne.symm n_ch_my) oN)).other W_6 (Or.inl n_my_me))
   have f_80 := ((P24_.keep p_1_0 (oN1 (Ne.symm n_ch_my) oN)).other W_6 (Or.inl n_my_me))
   obtain ⟨_, _, ⟨T_76, L_76, k_76, n_76⟩, -, X_76, ⟨Lc_76, hQ_76, l_76, y_76, z_76⟩, st_76⟩ := Jvm.LawKit.callS X_75 hx (y := mn4) hown (oT hZ hw 148 rfl) (oT hZ hw 149 rfl) (oT hZ hw 19 rfl) (oT hZ hw 150 rfl) (by decide) (backOf (W := 0) (rm_gb l Z a0 hw [] me my fme wme fmy wmy h_6 n0 Z_7 f_77 f_78 f_79 f_80) hZ (oW hw 150 rfl) (oW hw 19 rfl) (by decide) (by decide)) (g := (mkF m 59 #[zr ch, zr me, zi 1, zi 0, zn, zr na, zu, zu] [(.ref my), (.ref me)])) rfl (by rw [hml]; rfl) (argsL := [(.ref me), (.ref my)]) (rest := []) (lenOf pd11 rfl) rfl (oQ rfl) (B d20_59) (fun _ _ => ⟨rfl, e_75, (by decide : 0 + 0 ≤ _), (by decide : 0 + 0 ≤ _)⟩)
   dsimp only [Pt.U, Pt.locs, Pt.cells, Pt.slots] at X_76 l_76 y_76 z_76 st_76 hQ_76
   subst y_76 z_76
   obtain ⟨rfl, N_76q, p_76_0⟩ := hQ_76
   have N_76 : Fr n0 L_76 := by rw [l_76]; exact Fr.app N_6 N_76q
   clear l_76
   have f_81 := (p_1_10.other W_6 (Or.inl n_ch_me))
   obtain ⟨T_82, X_82, e_82, st_82⟩ := getF X_76 hx hZ hown (oV hw 73 rfl) Via.refl p_76_0 f_81 (g := (mkF m 219 #[zr ch, zr me, zi 1, zi 0, zi 0, zn, zi 0, zu] [(.ref ch)])) rfl rfl (B d20_219)
   have f_83 := (p_1_2.other W_6 (Or.inl n_ch_me))
   obtain ⟨T_84, X_84, e_84, st_84⟩ := getF X_82 hx hZ hown (oV hw 119 rfl) Via.refl e_82 f_83 (g := (mkF m 230 #[zr ch, zr me, zi 1, zi 0, zi 0, zn, zn, zu] [(.ref ch)])) rfl rfl (B d20_230)
   have f_86 := ((P22_.keep p_1_0 (oN1 (Ne.symm n_ch_mx) oN)).other W_6 (Or.inl n_mx_me))
   have f_87 := ((P21_.keep p_1_0 (oN1 (Ne.symm n_ch_mx) oN)).other W_6 (Or.inl n_mx_me))
   obtain ⟨_, _, ⟨T_85, L_85, k_85, n_85⟩, -, X_85, ⟨Lc_85, hQ_85, l_85, y_85, z_85⟩, st_85⟩ := Jvm.LawKit.callS X_84 hx (y := mn4) hown (oT hZ hw 148 rfl) (oT hZ hw 149 rfl) (oT hZ hw 19 rfl) (oT hZ hw 150 rfl) (by decide) (backOf (W := 0) (rm_gb l Z a0 hw [] me mx fme wme fmx wmx h_6 n0 Z_7 f_77 f_78 f_86 f_87) hZ (oW hw 150 rfl) (oW hw 19 rfl) (by decide) (by decide)) (g := (mkF m 251 #[zr ch, zr me, zi 1, zi 0, zi 0, zn, zn, zr mx] [(.ref mx), (.ref me)])) rfl (by rw [hml]; rfl) (argsL := [(.ref me), (.ref mx)]) (rest := []) (lenOf pd11 rfl) rfl (oQ rfl) (B d20_251) (fun _ _ => ⟨rfl, e_84, (by decide : 0 + 0 ≤ _), (by decide : 0 + 0 ≤ _)⟩)
   dsimp only [Pt.U, Pt.locs, Pt.cells, Pt.slots] at X_85 l_85 y_85 z_85 st_85 hQ_85
   subst y_85 z_85
   obtain ⟨rfl, N_85q, p_85_0⟩ := hQ_85
   have N_85 : Fr n0 L_85 := by rw [l_85]; exact Fr.app N_76 N_85q
   clear l_85
   have f_88 := (p_1_1.wr W_6)
   have f_89 := (p_1_3.other W_6 (Or.inl n_ch_me))
   have f_90 := (p_1_5.other W_6 (Or.inl n_ch_me))
   have f_91 := (p_1_6.other W_6 (Or.inl n_ch_me))
   have f_92 := (p_1_7.other W_6 (Or.inl n_ch_me))
   have f_93 := (p_1_8.other W_6 (Or.inl n_ch_me))
   have f_94 := (p_1_9.other W_6 (Or.inl n_ch_me))
   have f_95 := ((P20_.keep p_1_0).wr W_6)
   have f_96 := (f_4.wr W_6)
   have f_97 := ((P27_.keep p_1_0 (oN1 (Ne.symm n_ch_me) oN)).other W_6 (Or.inr (sn_36 hw)))
   refine own_go (S' := T_85.setTop (mkF m 271 #[zr ch, zr me, zi 1, zi 0, zi 0, zn, zn, zr mx] [])) (fun target kt => ?_) ?_
   ·
    show oSt p e below T_6 m 13 #[zr ch, zr me, zi 1, zi 0, zu, zu, zu, zu] [] target
    refine XS.iloadN XG_6.here hx rfl (B d20_13) rfl ?_
    refine XS.bipush XG_6.here hx rfl (B d20_14) ?_
    refine XS.icmpNo XG_6.here hx rfl (B d20_16) rfl (tlt (by decide : (0 : Int32) < (11 : Int32))).2.1 ?_
    refine XS.aloadN XG_6.here hx rfl (B d20_19) rfl rfl ?_
    refine st_67 _ ?_
    refine XS.iloadN X_67.here hx rfl (B d20_23) rfl ?_
    refine X_67.aaload hx (j := (0 : Int32)) (v := .null) (by rw [e_67]; exact Ar_69.1) (State.isArrayOf_alike hZ.alike Ar_69.2.1) rfl Ar_69.2.2 hin_69 hat_69 (g := (mkF m 24 #[zr ch, zr me, zi 1, zi 0, zu, zu, zu, zu] [(.int (0 : Int32)), (.ref fg)])) rfl rfl (B d20_24) _ ?_
    refine XS.astore X_67.here hx rfl (B d20_25) rfl rfl (l' := #[zr ch, zr me, zi 1, zi 0, zn, zu, zu, zu]) rfl ?_
    refine XS.aload X_67.here hx rfl (B d20_27) rfl rfl ?_
    refine XS.ifnonnullNo X_67.here hx rfl (B d20_29) rfl ?_
    refine XS.aloadN X_67.here hx rfl (B d20_32) rfl rfl ?_
    refine st_71 _ ?_
    refine XS.iloadN X_71.here hx rfl (B d20_36) rfl ?_
    refine X_71.aaload hx (j := (0 : Int32)) (v := (.ref na)) (by rw [e_71]; exact Ar_73.1) (State.isArrayOf_alike hZ.alike Ar_73.2.1) rfl Ar_73.2.2 hin_73 hat_73 (g := (mkF m 37 #[zr ch, zr me, zi 1, zi 0, zn, zu, zu, zu] [(.int (0 : Int32)), (.ref fn)])) rfl rfl (B d20_37) _ ?_
    refine XS.goto X_71.here hx rfl (pc0 := 38) (pc' := 46) rfl (B d20_38) (by decide) (by decide) ?_
    refine XS.astore X_71.here hx rfl (B d20_46) rfl rfl (l' := #[zr ch, zr me, zi 1, zi 0, zn, zr na, zu, zu]) rfl ?_
    refine XS.aload X_71.here hx rfl (B d20_48) rfl rfl ?_
    show oSt p e below T_71 m 50 #[zr ch, zr me, zi 1, zi 0, zn, zr na, zu, zu] [(.ref na)] target
    refine XS.ifnullNo X_71.here hx rfl (B d20_50) rfl ?_
    refine XS.aloadN X_71.here hx rfl (B d20_53) rfl rfl ?_
    refine XS.aload X_71.here hx rfl (B d20_54) rfl rfl ?_
    refine st_75 _ ?_
    refine st_76 _ ?_
    refine XS.ifNo X_76.here hx rfl (B d20_62) rfl ((if0 _ _).trans (teq hgy).2) ?_
    refine XS.goto X_76.here hx rfl (pc0 := 65) (pc' := 74) rfl (B d20_65) (by decide) (by decide) ?_
    refine XS.iconst X_76.here hx rfl (B d20_74) ?_
    refine XS.istore X_76.here hx rfl (B d20_75) rfl (l' := #[zr ch, zr me, zi 1, zi 0, zi 0, zr na, zu, zu]) rfl ?_
    refine XS.aconstNull X_76.here hx rfl (B d20_77) ?_
    refine XS.astore X_76.here hx rfl (B d20_78) rfl rfl (l' := #[zr ch, zr me, zi 1, zi 0, zi 0, zn, zu, zu]) rfl ?_
    refine XS.iloadN X_76.here hx rfl (B d20_80) rfl ?_
    refine XS.istore X_76.here hx rfl (B d20_81) rfl (l' := #[zr ch, zr me, zi 1, zi 0, zi 0, zn, zi 0, zu]) rfl ?_
    refine XS.iload X_76.here hx rfl (B d20_83) rfl ?_
    refine XS.ifYes X_76.here hx rfl (pc0 := 85) (pc' := 205) rfl (B d20_85) rfl ((if0 _ _).trans (flt (by decide : ¬ ((0 : Int32) < (0 : Int32)))).2.2.2) (by decide) (by decide) ?_
    refine XS.iload X_76.here hx rfl (B d20_205) rfl ?_
    refine XS.ifYes X_76.here hx rfl (pc0 := 207) (pc' := 218) rfl (B d20_207) rfl ((if0 _ _).trans (teq (by decide : (0 : Int32) = (0 : Int32))).1) (by decide) (by decide) ?_
    show oSt p e below T_76 m 218 #[zr ch, zr me, zi 1, zi 0, zi 0, zn, zi 0, zu] [] target
    refine XS.aloadN X_76.here hx rfl (B d20_218) rfl rfl ?_
    refine st_82 _ ?_
    refine XS.astore X_82.here hx rfl (B d20_222) rfl rfl (l' := #[zr ch, zr me, zi 1, zi 0, zi 0, zn, zn, zu]) rfl ?_
    refine XS.aload X_82.here hx rfl (B d20_224) rfl rfl ?_
    refine XS.ifnonnullNo X_82.here hx rfl (B d20_226) rfl ?_
    refine XS.aloadN X_82.here hx rfl (B d20_229) rfl rfl ?_
    refine st_84 _ ?_
    refine XS.goto X_84.here hx rfl (pc0 := 233) (pc' := 241) rfl (B d20_233) (by decide) (by decide) ?_
    refine XS.astore X_84.here hx rfl (B d20_241) rfl rfl (l' := #[zr ch, zr me, zi 1, zi 0, zi 0, zn, zn, zr mx]) rfl ?_
    refine XS.aload X_84.here hx rfl (B d20_243) rfl rfl ?_
    refine XS.ifnullNo X_84.here hx rfl (B d20_245) rfl ?_
    refine XS.aloadN X_84.here hx rfl (B d20_248) rfl rfl ?_
    refine XS.aload X_84.here hx rfl (B d20_249) rfl rfl ?_
    refine st_85 _ ?_
    refine XS.ifYes X_85.here hx rfl (pc0 := 254) (pc' := 271) rfl (B d20_254) rfl ((if0 _ _).trans (teq hgx).1) (by decide) (by decide) ?_
    exact kt
   exact J271 T_85 h_6 _ (.val (.int (0 : Int32))) (.val (.int (0 : Int32))) (.val .null) X_85 p_85_0 N_85 Z_7 K_8 f_88 f_83 f_89 f_70 f_90 f_91 f_92 f_93 f_94 f_81 f_66 f_68 f_95 f_87 f_86 f_96 f_97 f_78 f_77 F_6
  ·
   skip
   have f_98 := (p_1_11.other W_6 (Or.inl n_ch_me))
   obtain ⟨T_99, X_99, e_99, st_99⟩ := getF XG_6 hx hZ hown (oV hw 52 rfl) Via.refl e_6 f_98 (g := (mkF m 20 #[zr ch, zr me, zi 1, zi 0, zu, zu, zu, zu] [(.ref ch)])) rfl rfl (B d20_20)
   have f_100 := ((P11_.keep p_1_0 (oN1 (Ne.symm n_ch_fg) oN)).other W_6 n_fg_me)
   obtain ⟨c_101, Ar_101, q_101, S_101, M_101, Hs_101, G_101⟩ := id f_100
   have hin_101 : ¬ ((0 : Int32) < 0 ∨ c_101.slots.size ≤ ((0 : Int32)).toNatClampNeg) := inb_of S_101 ⟨by decide, by decide⟩
   have hat_101 : c_101.slots[((0 : Int32)).toNatClampNeg]? = some .null := Hs_101.at hin_101 rfl
   have f_102 := (p_1_4.other W_6 (Or.inl n_ch_me))
   obtain ⟨T_103, X_103, e_103, st_103⟩ := getF X_99 hx hZ hown (oV hw 26 rfl) Via.refl e_99 f_102 (g := (mkF m 33 #[zr ch, zr me, zi 1, zi 0, zn, zu, zu, zu] [(.ref ch)])) rfl rfl (B d20_33)
   have f_104 := ((P12_.keep p_1_0 (oN1 (Ne.symm n_ch_fn) oN)).other W_6 n_fn_me)
   obtain ⟨c_105, Ar_105, q_105, S_105, M_105, Hs_105, G_105⟩ := id f_104
   have hin_105 : ¬ ((0 : Int32) < 0 ∨ c_105.slots.size ≤ ((0 : Int32)).toNatClampNeg) := inb_of S_105 ⟨by decide, by decide⟩
   have hat_105 : c_105.slots[((0 : Int32)).toNatClampNeg]? = some (.ref na) := Hs_105.at hin_105 rfl
   have f_106 := ((P14_.keep p_1_0 (oN1 (Ne.symm n_ch_na) oN)).other W_6 (Or.inl n_na_me))
   obtain ⟨T_107, X_107, e_107, st_107⟩ := getF X_103 hx hZ hown (oV hw 137 rfl) Via.refl e_103 f_106 (g := (mkF m 56 #[zr ch, zr me, zi 1, zi 0, zn, zr na, zu, zu] [(.ref na), (.ref me)])) rfl rfl (B d20_56)
   have f_109 := ((P29_.keep p_1_0 (oN1 (Ne.symm n_ch_me) oN)).other W_6 (Or.inr (sn_57 hw)))
   have f_110 := ((P28_.keep p_1_0 (oN1 (Ne.symm n_ch_me) oN)).other W_6 (Or.inr (sn_55 hw)))
   have f_111 := ((P22_.keep p_1_0 (oN1 (Ne.symm n_ch_mx) oN)).other W_6 (Or.inl n_mx_me))
   have f_112 := ((P21_.keep p_1_0 (oN1 (Ne.symm n_ch_mx) oN)).other W_6 (Or.inl n_mx_me))
   obtain ⟨_, _, ⟨T_108, L_108, k_108, n_108⟩, -, X_108, ⟨Lc_108, hQ_108, l_108, y_108, z_108⟩, st_108⟩ := Jvm.LawKit.callS X_107 hx (y := mn4) hown (oT hZ hw 148 rfl) (oT hZ hw 149 rfl) (oT hZ hw 19 rfl) (oT hZ hw 150 rfl) (by decide) (backOf (W := 0) (rm_gb l Z a0 hw [] me mx fme wme fmx wmx h_6 n0 Z_7 f_109 f_110 f_111 f_112) hZ (oW hw 150 rfl) (oW hw 19 rfl) (by decide) (by decide)) (g := (mkF m 59 #[zr ch, zr me, zi 1, zi 0, zn, zr na, zu, zu] [(.ref mx), (.ref me)])) rfl (by rw [hml]; rfl) (argsL := [(.ref me), (.ref mx)]) (rest := []) (lenOf pd11 rfl) rfl (oQ rfl) (B d20_59) (fun _ _ => ⟨rfl, e_107, (by decide : 0 + 0 ≤ _), (by decide : 0 + 0 ≤ _)⟩)
   dsimp only [Pt.U, Pt.locs, Pt.cells, Pt.slots] at X_108 l_108 y_108 z_108 st_108 hQ_108
   subst y_108 z_108
   obtain ⟨rfl, N_108q, p_108_0⟩ := hQ_108
   have N_108 : Fr n0 L_108 := by rw [l_108]; exact Fr.app N_6 N_108q
   clear l_108
   have f_113 := (p_1_10.other W_6 (Or.inl n_ch_me))
   obtain ⟨T_114, X_114, e_114, st_114⟩ := getF X_108 hx hZ hown (oV hw 73 rfl) Via.refl p_108_0 f_113 (g := (mkF m 219 #[zr ch, zr me, zi 1, zi 0, zi 0, zn, zi 0, zu] [(.ref ch)])) rfl rfl (B d20_219)
   have f_115 := (p_1_2.other W_6 (Or.inl n_ch_me))
   obtain ⟨T_116, X_116, e_116, st_116⟩ := getF X_114 hx hZ hown (oV hw 119 rfl) Via.refl e_114 f_115 (g := (mkF m 230 #[zr ch, zr me, zi 1, zi 0, zi 0, zn, zn, zu] [(.ref ch)])) rfl rfl (B d20_230)
   obtain ⟨_, _, ⟨T_117, L_117, k_117, n_117⟩, -, X_117, ⟨Lc_117, hQ_117, l_117, y_117, z_117⟩, st_117⟩ := Jvm.LawKit.callS X_116 hx (y := mn4) hown (oT hZ hw 148 rfl) (oT hZ hw 149 rfl) (oT hZ hw 19 rfl) (oT hZ hw 150 rfl) (by decide) (backOf (W := 0) (rm_gb l Z a0 hw [] me mx fme wme fmx wmx h_6 n0 Z_7 f_109 f_110 f_111 f_112) hZ (oW hw 150 rfl) (oW hw 19 rfl) (by decide) (by decide)) (g := (mkF m 251 #[zr ch, zr me, zi 1, zi 0, zi 0, zn, zn, zr mx] [(.ref mx), (.ref me)])) rfl (by rw [hml]; rfl) (argsL := [(.ref me), (.ref mx)]) (rest := []) (lenOf pd11 rfl) rfl (oQ rfl) (B d20_251) (fun _ _ => ⟨rfl, e_116, (by decide : 0 + 0 ≤ _), (by decide : 0 + 0 ≤ _)⟩)
   dsimp only [Pt.U, Pt.locs, Pt.cells, Pt.slots] at X_117 l_117 y_117 z_117 st_117 hQ_117
   subst y_117 z_117
   obtain ⟨rfl, N_117q, p_117_0⟩ := hQ_117
   have N_117 : Fr n0 L_117 := by rw [l_117]; exact Fr.app N_108 N_117q
   clear l_117
   have f_118 := (p_1_1.wr W_6)
   have f_119 := (p_1_3.other W_6 (Or.inl n_ch_me))
   have f_120 := (p_1_5.other W_6 (Or.inl n_ch_me))
   have f_121 := (p_1_6.other W_6 (Or.inl n_ch_me))
   have f_122 := (p_1_7.other W_6 (Or.inl n_ch_me))
   have f_123 := (p_1_8.other W_6 (Or.inl n_ch_me))
   have f_124 := (p_1_9.other W_6 (Or.inl n_ch_me))
   have f_125 := ((P20_.keep p_1_0).wr W_6)
   have f_126 := (f_4.wr W_6)
   have f_127 := ((P27_.keep p_1_0 (oN1 (Ne.symm n_ch_me) oN)).other W_6 (Or.inr (sn_36 hw)))
   refine own_go (S' := T_117.setTop (mkF m 271 #[zr ch, zr me, zi 1, zi 0, zi 0, zn, zn, zr mx] [])) (fun target kt => ?_) ?_
   ·
    show oSt p e below T_6 m 13 #[zr ch, zr me, zi 1, zi 0, zu, zu, zu, zu] [] target
    refine XS.iloadN XG_6.here hx rfl (B d20_13) rfl ?_
    refine XS.bipush XG_6.here hx rfl (B d20_14) ?_
    refine XS.icmpNo XG_6.here hx rfl (B d20_16) rfl (tlt (by decide : (0 : Int32) < (11 : Int32))).2.1 ?_
    refine XS.aloadN XG_6.here hx rfl (B d20_19) rfl rfl ?_
    refine st_99 _ ?_
    refine XS.iloadN X_99.here hx rfl (B d20_23) rfl ?_
    refine X_99.aaload hx (j := (0 : Int32)) (v := .null) (by rw [e_99]; exact Ar_101.1) (State.isArrayOf_alike hZ.alike Ar_101.2.1) rfl Ar_101.2.2 hin_101 hat_101 (g := (mkF m 24 #[zr ch, zr me, zi 1, zi 0, zu, zu, zu, zu] [(.int (0 : Int32)), (.ref fg)])) rfl rfl (B d20_24) _ ?_
    refine XS.astore X_99.here hx rfl (B d20_25) rfl rfl (l' := #[zr ch, zr me, zi 1, zi 0, zn, zu, zu, zu]) rfl ?_
    refine XS.aload X_99.here hx rfl (B d20_27) rfl rfl ?_
    refine XS.ifnonnullNo X_99.here hx rfl (B d20_29) rfl ?_
    refine XS.aloadN X_99.here hx rfl (B d20_32) rfl rfl ?_
    refine st_103 _ ?_
    refine XS.iloadN X_103.here hx rfl (B d20_36) rfl ?_
    refine X_103.aaload hx (j := (0 : Int32)) (v := (.ref na)) (by rw [e_103]; exact Ar_105.1) (State.isArrayOf_alike hZ.alike Ar_105.2.1) rfl Ar_105.2.2 hin_105 hat_105 (g := (mkF m 37 #[zr ch, zr me, zi 1, zi 0, zn, zu, zu, zu] [(.int (0 : Int32)), (.ref fn)])) rfl rfl (B d20_37) _ ?_
    refine XS.goto X_103.here hx rfl (pc0 := 38) (pc' := 46) rfl (B d20_38) (by decide) (by decide) ?_
    refine XS.astore X_103.here hx rfl (B d20_46) rfl rfl (l' := #[zr ch, zr me, zi 1, zi 0, zn, zr na, zu, zu]) rfl ?_
    refine XS.aload X_103.here hx rfl (B d20_48) rfl rfl ?_
    show oSt p e below T_103 m 50 #[zr ch, zr me, zi 1, zi 0, zn, zr na, zu, zu] [(.ref na)] target
    refine XS.ifnullNo X_103.here hx rfl (B d20_50) rfl ?_
    refine XS.aloadN X_103.here hx rfl (B d20_53) rfl rfl ?_
    refine XS.aload X_103.here hx rfl (B d20_54) rfl rfl ?_
    refine st_107 _ ?_
    refine st_108 _ ?_
    refine XS.ifNo X_108.here hx rfl (B d20_62) rfl ((if0 _ _).trans (teq hgx).2) ?_
    refine XS.goto X_108.here hx rfl (pc0 := 65) (pc' := 74) rfl (B d20_65) (by decide) (by decide) ?_
    refine XS.iconst X_108.here hx rfl (B d20_74) ?_
    refine XS.istore X_108.here hx rfl (B d20_75) rfl (l' := #[zr ch, zr me, zi 1, zi 0, zi 0, zr na, zu, zu]) rfl ?_
    refine XS.aconstNull X_108.here hx rfl (B d20_77) ?_
    refine XS.astore X_108.here hx rfl (B d20_78) rfl rfl (l' := #[zr ch, zr me, zi 1, zi 0, zi 0, zn, zu, zu]) rfl ?_
    refine XS.iloadN X_108.here hx rfl (B d20_80) rfl ?_
    refine XS.istore X_108.here hx rfl (B d20_81) rfl (l' := #[zr ch, zr me, zi 1, zi 0, zi 0, zn, zi 0, zu]) rfl ?_
    refine XS.iload X_108.here hx rfl (B d20_83) rfl ?_
    refine XS.ifYes X_108.here hx rfl (pc0 := 85) (pc' := 205) rfl (B d20_85) rfl ((if0 _ _).trans (flt (by decide : ¬ ((0 : Int32) < (0 : Int32)))).2.2.2) (by decide) (by decide) ?_
    refine XS.iload X_108.here hx rfl (B d20_205) rfl ?_
    refine XS.ifYes X_108.here hx rfl (pc0 := 207) (pc' := 218) rfl (B d20_207) rfl ((if0 _ _).trans (teq (by decide : (0 : Int32) = (0 : Int32))).1) (by decide) (by decide) ?_
    show oSt p e below T_108 m 218 #[zr ch, zr me, zi 1, zi 0, zi 0, zn, zi 0, zu] [] target
    refine XS.aloadN X_108.here hx rfl (B d20_218) rfl rfl ?_
    refine st_114 _ ?_
    refine XS.astore X_114.here hx rfl (B d20_222) rfl rfl (l' := #[zr ch, zr me, zi 1, zi 0, zi 0, zn, zn, zu]) rfl ?_
    refine XS.aload X_114.here hx rfl (B d20_224) rfl rfl ?_
    refine XS.ifnonnullNo X_114.here hx rfl (B d20_226) rfl ?_
    refine XS.aloadN X_114.here hx rfl (B d20_229) rfl rfl ?_
    refine st_116 _ ?_
    refine XS.goto X_116.here hx rfl (pc0 := 233) (pc' := 241) rfl (B d20_233) (by decide) (by decide) ?_
    refine XS.astore X_116.here hx rfl (B d20_241) rfl rfl (l' := #[zr ch, zr me, zi 1, zi 0, zi 0, zn, zn, zr mx]) rfl ?_
    refine XS.aload X_116.here hx rfl (B d20_243) rfl rfl ?_
    refine XS.ifnullNo X_116.here hx rfl (B d20_245) rfl ?_
    refine XS.aloadN X_116.here hx rfl (B d20_248) rfl rfl ?_
    refine XS.aload X_116.here hx rfl (B d20_249) rfl rfl ?_
    refine st_117 _ ?_
    refine XS.ifYes X_117.here hx rfl (pc0 := 254) (pc' := 271) rfl (B d20_254) rfl ((if0 _ _).trans (teq hgx).1) (by decide) (by decide) ?_
    exact kt
   exact J271 T_117 h_6 _ (.val (.int (0 : Int32))) (.val (.int (0 : Int32))) (.val .null) X_117 p_117_0 N_117 Z_7 K_8 f_118 f_115 f_119 f_102 f_120 f_121 f_122 f_123 f_124 f_113 f_98 f_100 f_125 f_112 f_111 f_126 f_127 f_110 f_109 F_6
-- com/example/carillon/carillon/Chain.linkBySearch:(Lcom/example/carillon/carillon/Message;)V
theorem d20_68 : decode cd20 68 = .ok (.iinc 3 1, 3) := by decide +kernel
theorem d20_71 : decode cd20 71 = .ok (.goto (-58), 3) := by decide +kernel
theorem d20_88 : decode cd20 88 = .ok (.iload 4, 2) := by decide +kernel
theorem d20_90 : decode cd20 90 = .ok (.ifCond .eq 11, 3) := by decide +kernel
theorem d20_93 : decode cd20 93 = .ok (.aload 5, 2) := by decide +kernel
theorem d20_95 : decode cd20 95 = .ok (.getfield 132, 3) := by decide +kernel
theorem d20_98 : decode cd20 98 = .ok (.goto 12, 3) := by decide +kernel
theorem d20_101 : decode cd20 101 = .ok (.aload_n 0, 1) := by decide +kernel
theorem d20_102 : decode cd20 102 = .ok (.getfield 31, 3) := by decide +kernel
theorem d20_105 : decode cd20 105 = .ok (.iload 6, 2) := by decide +kernel
theorem d20_107 : decode cd20 107 = .ok (.iconst 1, 1) := by decide +kernel
theorem d20_108 : decode cd20 108 = .ok (.isub, 1) := by decide +kernel
theorem d20_109 : decode cd20 109 = .ok (.aaload, 1) := by decide +kernel
theorem d20_110 : decode cd20 110 = .ok (.astore 5, 2) := by decide +kernel
theorem d20_112 : decode cd20 112 = .ok (.aload 5, 2) := by decide +kernel
theorem d20_114 : decode cd20 114 = .ok (.ifnonnull 15, 3) := by decide +kernel
theorem d20_117 : decode cd20 117 = .ok (.aload_n 0, 1) := by decide +kernel
theorem d20_118 : decode cd20 118 = .ok (.getfield 11, 3) := by decide +kernel
theorem d20_121 : decode cd20 121 = .ok (.iload 6, 2) := by decide +kernel
theorem d20_123 : decode cd20 123 = .ok (.iconst 1, 1) := by decide +kernel
theorem d20_124 : decode cd20 124 = .ok (.isub, 1) := by decide +kernel
theorem d20_125 : decode cd20 125 = .ok (.aaload, 1) := by decide +kernel
theorem d20_126 : decode cd20 126 = .ok (.goto 8, 3) := by decide +kernel
theorem d20_129 : decode cd20 129 = .ok (.aload 5, 2) := by decide +kernel
theorem d20_131 : decode cd20 131 = .ok (.getfield 125, 3) := by decide +kernel
theorem d20_134 : decode cd20 134 = .ok (.astore 7, 2) := by decide +kernel
theorem d20_136 : decode cd20 136 = .ok (.aload 7, 2) := by decide +kernel
theorem d20_138 : decode cd20 138 = .ok (.ifnull 29, 3) := by decide +kernel
theorem d20_141 : decode cd20 141 = .ok (.aload_n 1, 1) := by decide +kernel
theorem d20_142 : decode cd20 142 = .ok (.aload 7, 2) := by decide +kernel
theorem d20_144 : decode cd20 144 = .ok (.getfield 129, 3) := by decide +kernel
theorem d20_147 : decode cd20 147 = .ok (.invokestatic 75, 3) := by decide +kernel
theorem d20_150 : decode cd20 150 = .ok (.ifCond .eq 17, 3) := by decide +kernel
theorem d20_153 : decode cd20 153 = .ok (.aload 7, 2) := by decide +kernel
theorem d20_155 : decode cd20 155 = .ok (.astore 5, 2) := by decide +kernel
theorem d20_157 : decode cd20 157 = .ok (.aload 5, 2) := by decide +kernel
theorem d20_159 : decode cd20 159 = .ok (.getfield 125, 3) := by decide +kernel
theorem d20_162 : decode cd20 162 = .ok (.astore 7, 2) := by decide +kernel
theorem d20_164 : decode cd20 164 = .ok (.goto (-28), 3) := by decide +kernel
theorem d20_167 : decode cd20 167 = .ok (.aload 5, 2) := by decide +kernel
theorem d20_169 : decode cd20 169 = .ok (.aload_n 0, 1) := by decide +kernel
theorem d20_170 : decode cd20 170 = .ok (.getfield 31, 3) := by decide +kernel
theorem d20_173 : decode cd20 173 = .ok (.iload 6, 2) := by decide +kernel
theorem d20_175 : decode cd20 175 = .ok (.iconst 1, 1) := by decide +kernel
theorem d20_176 : decode cd20 176 = .ok (.isub, 1) := by decide +kernel
theorem d20_177 : decode cd20 177 = .ok (.aaload, 1) := by decide +kernel
theorem d20_178 : decode cd20 178 = .ok (.if_acmp .eq 7, 3) := by decide +kernel
theorem d20_181 : decode cd20 181 = .ok (.iconst 1, 1) := by decide +kernel
theorem d20_182 : decode cd20 182 = .ok (.goto 4, 3) := by decide +kernel
theorem d20_186 : decode cd20 186 = .ok (.istore 4, 2) := by decide +kernel
theorem d20_188 : decode cd20 188 = .ok (.aload_n 0, 1) := by decide +kernel
theorem d20_189 : decode cd20 189 = .ok (.getfield 31, 3) := by decide +kernel
theorem d20_192 : decode cd20 192 = .ok (.iload 6, 2) := by decide +kernel
theorem d20_194 : decode cd20 194 = .ok (.iconst 1, 1) := by decide +kernel
theorem d20_195 : decode cd20 195 = .ok (.isub, 1) := by decide +kernel
theorem d20_196 : decode cd20 196 = .ok (.aload 5, 2) := by decide +kernel
theorem d20_198 : decode cd20 198 = .ok (.aastore, 1) := by decide +kernel
theorem d20_199 : decode cd20 199 = .ok (.iinc 6 (-1), 3) := by decide +kernel
theorem d20_202 : decode cd20 202 = .ok (.goto (-119), 3) := by decide +kernel
theorem d20_210 : decode cd20 210 = .ok (.aload 5, 2) := by decide +kernel
theorem d20_212 : decode cd20 212 = .ok (.getfield 129, 3) := by decide +kernel
theorem d20_215 : decode cd20 215 = .ok (.goto 7, 3) := by decide +kernel
theorem d20_236 : decode cd20 236 = .ok (.aload 6, 2) := by decide +kernel
theorem d20_238 : decode cd20 238 = .ok (.getfield 68, 3) := by decide +kernel
theorem d20_257 : decode cd20 257 = .ok (.aload 7, 2) := by decide +kernel
theorem d20_259 : decode cd20 259 = .ok (.astore 6, 2) := by decide +kernel
theorem d20_261 : decode cd20 261 = .ok (.aload 6, 2) := by decide +kernel
theorem d20_263 : decode cd20 263 = .ok (.getfield 68, 3) := by decide +kernel
theorem d20_266 : decode cd20 266 = .ok (.astore 7, 2) := by decide +kernel
theorem d20_268 : decode cd20 268 = .ok (.goto (-25), 3) := by decide +kernel
theorem d20_290 : decode cd20 290 = .ok (.aload 6, 2) := by decide +kernel
theorem d20_292 : decode cd20 292 = .ok (.aload_n 1, 1) := by decide +kernel
theorem d20_293 : decode cd20 293 = .ok (.putfield 68, 3) := by decide +kernel
def Q_lbm (Z : State) (ch me mx my fn ln bl fg na nb : Addr) (kkg kkf : ClassId) (spc fmx lmx fmy fme lme : Int32) (ldr wmx wmy wme : Int64) (spv u0 u1 ev ra ew rb db : Value) (h0 : Heap) (n0 : Nat) (v : Option Value) (h : Heap) (L : List Loc) : Prop := ∃ (g0 : Value), ∃ (g1 : Value), v = none ∧ Fr n0 L ∧ Keep h0 h [ch, me, mx, fg] ∧ Exa Z h ch sg3 ∧ xF8 Z h ch (.ref mx) ∧ xF9 Z h ch (.ref my) ∧ xF10 Z h ch (.ref fn) ∧ xF11 Z h ch (.ref ln) ∧ xF12 Z h ch (.ref bl) ∧ xF13 Z h ch spv ∧ xF14 Z h ch (.int spc) ∧ xF15 Z h ch (.long (own_next ldr)) ∧ xF16 Z h ch (.ref me) ∧ xF17 Z h ch (.ref fg) ∧ aN Z h fg kkg g0 g1 ∧ Exa Z h mx sg0 ∧ xF0 Z h mx (.ref me) ∧ xF1 Z h mx (.long wmx) ∧ xF2 Z h mx (.int fmx) ∧ xF3 Z h mx (.int lmx) ∧ Exa Z h me sg0 ∧ xF0 Z h me (.ref my) ∧ xF1 Z h me (.long wme) ∧ xF2 Z h me (.int fme) ∧ xF3 Z h me (.int (1 : Int32))
set_option maxRecDepth 65536 in
set_option maxHeartbeats 40000000 in
theorem rm_lbm (l : Launch) (Z : State) (a0 : Array Value) (hw : hwT Z a0) (ws : List Jvm.Cond) (ch me mx my fn ln bl fg na nb : Addr) (kkg kkf : ClassId) (spc fmx lmx fmy fme lme : Int32) (ldr wmx wmy wme : Int64) (spv u0 u1 ev ra ew rb db : Value) (h0 : Heap) (n0 : Nat) (Z0 : n0 ≤ h0.size) (P0_ : Exa Z h0 ch sg3) (P1_ : xF8 Z h0 ch (.ref mx)) (P2_ : xF9 Z h0 ch (.ref my)) (P3_ : xF10 Z h0 ch (.ref fn)) (P4_ : xF11 Z h0 ch (.ref ln)) (P5_ : xF12 Z h0 ch (.ref bl)) (P6_ : xF13 Z h0 ch spv) (P7_ : xF14 Z h0 ch (.int spc)) (P8_ : xF15 Z h0 ch (.long ldr)) (P9_ : xF16 Z h0 ch .null) (P10_ : xF17 Z h0 ch (.ref fg)) (P11_ : aN Z h0 fg kkg .null .null) (P12_ : aN Z h0 fn kkf u0 u1) (P13_ : Exa Z h0 na sg5) (P14_ : xF18 Z h0 na ev) (P15_ : xF19 Z h0 na ra) (P16_ : Exa Z h0 nb sg5) (P17_ : xF18 Z h0 nb ew) (P18_ : xF19 Z h0 nb rb) (P19_ : xF20 Z h0 nb db) (P20_ : Exa Z h0 mx sg0) (P21_ : xF0 Z h0 mx (.ref my)) (P22_ : xF1 Z h0 mx (.long wmx)) (P23_ : xF2 Z h0 mx (.int fmx)) (P24_ : xF3 Z h0 mx (.int lmx)) (P25_ : Exa Z h0 my sg0) (P26_ : xF1 Z h0 my (.long wmy)) (P27_ : xF2 Z h0 my (.int fmy)) (P28_ : Exa Z h0 me sg0) (P29_ : xF0 Z h0 me .null) (P30_ : xF1 Z h0 me (.long wme)) (P31_ : xF2 Z h0 me (.int fme)) (P32_ : xF3 Z h0 me (.int lme)) (Okkg : Ovr Z kkg sg5) (g_ch : n0 ≤ ch) (g_me : n0 ≤ me) (g_mx : n0 ≤ mx) (g_fg : n0 ≤ fg) (n_ch_fg : ch ≠ fg) (n_ch_fn : ch ≠ fn) (n_ch_na : ch ≠ na) (n_ch_nb : ch ≠ nb) (n_ch_mx : ch ≠ mx) (n_ch_my : ch ≠ my) (n_ch_me : ch ≠ me) (n_fg_fn : fg ≠ fn) (n_fg_na : fg ≠ na) (n_fg_nb : fg ≠ nb) (n_fg_mx : fg ≠ mx) (n_fg_my : fg ≠ my) (n_fg_me : fg ≠ me) (n_fn_mx : fn ≠ mx) (n_fn_me : fn ≠ me) (n_na_mx : na ≠ mx) (n_na_me : na ≠ me) (n_nb_mx : nb ≠ mx) (n_nb_me : nb ≠ me) (n_mx_my : mx ≠ my) (n_mx_me : mx ≠ me) (n_my_me : my ≠ me) (hdr : (own_lanes ldr = (1 : Int32))) (hgx : (¬ ((own_gb fme wme fmx wmx) = (0 : Int32)))) (hgy : ((own_gb fme wme fmy wmy) = (0 : Int32))) (hDD : (own_DD u0 u1 ev ew ra rb db na nb mx my)) :
  oMF l Z mn20 (Jvm.Cond.code mn20 prog_2_method_14_code 8 none) ws (rO 3 0 0 43) #[(.ref ch), (.ref me)] h0 (Q_lbm Z ch me mx my fn ln bl fg na nb kkg kkf spc fmx lmx fmy fme lme ldr wmx wmy wme spv u0 u1 ev ra ew rb db h0 n0) := by
 refine MetFree.of_bodySF (plainFor_of_name pn_ordc) hisR ?_
 intro p e s m args below meth c s₁ Bd hml0 hP hK
 obtain ⟨rfl, hZ, hh⟩ := hP
 have hx := Bd.exec
 have hby := Bd.bytes
 have B : ∀ {pc r}, decode cd20 pc = r → decode c.code pc = r := fun h => hb hby h
 have hml : c.maxLocals = 8 := hml0
 have hown : s.vm.findClass sg3 = some m.cls := findClass_of_methodNamed Bd.named
 have hnm := (name_of_methodNamed Bd.named Bd.method).1
 have X0 : Stand p l e (rO 3 0 0 43) s m #[(.ref ch), (.ref me)] below meth c s₁ [] 0 0 := Stand.of_body Bd
 have e0 : s₁.heap = h0 := by rw [← hh, Bd.state]; rfl
 have N0 := Fr.nil n0
 refine own_in ?_
 refine own_go (S' := s₁.setTop (mkF m 0 #[zr ch, zr me, zu, zu, zu, zu, zu, zu] [])) (fun tgt_ stp_ => castTop (ef_lbf m ch me) stp_) ?_
 have K0 : Keep h0 h0 [ch, me, mx, fg] := Keep.refl h0 _
 obtain ⟨cq_1, q_1, q_1'⟩ := P0_.cell
 obtain ⟨_, _, ⟨T_1, L_1, k_1, n_1⟩, -, X_1, ⟨Lc_1, hQ_1, l_1, y_1, z_1⟩, st_1⟩ := X0.privateBack hx (y := mn14) hown (oT hZ hw 100 rfl) (oT hZ hw 101 rfl) (psl_3 hZ hw) (oP hZ hw 102 rfl) (oT hZ hw 103 rfl) (by decide) (backOf (W := 0) (rm_draw l Z a0 hw [] ch fn ln bl fg spc ldr (.ref mx) (.ref my) spv .null h0 n0 Z0 P0_ P1_ P2_ P3_ P4_ P5_ P6_ P7_ P8_ P9_ P10_ g_ch) hZ (oW hw 103 rfl) (oW hw 19 rfl) (by decide) (by decide)) (g := (mkF m 1 #[zr ch, zr me, zu, zu, zu, zu, zu, zu] [(.ref ch)])) rfl (by rw [hml]; rfl) (Steps.refl _) (a := ch) (by rw [e0]; exact q_1) q_1' (argsL := []) (rest := []) (lenOf pd9 rfl) rfl (oQ rfl) (B d20_1) (fun _ _ => ⟨rfl, e0, (by decide : 0 + 0 ≤ _), (by decide : 0 + 0 ≤ _)⟩)
 dsimp only [Pt.U, Pt.locs, Pt.cells, Pt.slots] at X_1 l_1 y_1 z_1 st_1 hQ_1
 subst y_1 z_1
 obtain ⟨rfl, N_1q, p_1_0, p_1_1, p_1_2, p_1_3, p_1_4, p_1_5, p_1_6, p_1_7, p_1_8, p_1_9, p_1_10, p_1_11⟩ := hQ_1
 have N_1 : Fr n0 L_1 := by rw [l_1]; exact Fr.app N0 N_1q
 clear l_1
 have Z_2 := Nat.le_trans Z0 p_1_0.1
 have K_3 : Keep h0 T_1.heap [ch, me, mx, fg] := K0.trans p_1_0 fun x q => Or.inl (oM1 q 0 rfl)
 have f_4 := (P28_.keep p_1_0)
 have f_5 := (P32_.keep p_1_0 (oN1 (Ne.symm n_ch_me) oN))
 obtain ⟨T_6, h_6, X_6, e_6, W_6, st_6⟩ := putFN X_1 hx hZ hown (oW hw 115 rfl) Via.refl rfl f_5 f_4 (Or.inl (oW hw 116 rfl)) (oW hw 1 rfl) (ty := .byte) (v' := (.int (1 : Int32))) (by decide) rfl (by decide) (g := (mkF m 8 #[zr ch, zr me, zi 1, zu, zu, zu, zu, zu] [(.int (1 : Int32)), (.ref me)])) rfl rfl (B d20_8)
 obtain ⟨Lg_6, XG_6, N_6⟩ := own_gen X_6 (Fr.snoc X_6 N_1 g_me)
 have F_6 := f_5.same W_6
 have Z_7 := Nat.le_trans Z_2 (Keep.of_wr W_6).1
 have K_8 : Keep h0 h_6 [ch, me, mx, fg] := K_3.wr W_6 (oK 1 rfl)
 refine own_go (S' := T_6.setTop (mkF m 13 #[zr ch, zr me, zi 1, zi 0, zu, zu, zu, zu] [])) (fun target kt => ?_) ?_
 ·
  show oSt p e below s₁ m 0 #[zr ch, zr me, zu, zu, zu, zu, zu, zu] [] target
  refine XS.aloadN X0.here hx rfl (B d20_0) rfl rfl ?_
  refine st_1.trans ?_
  show oSt p e below T_1 m 4 #[zr ch, zr me, zu, zu, zu, zu, zu, zu] [(.int (own_lanes ldr))] target
  rw [hdr]
  show oSt p e below T_1 m 4 #[zr ch, zr me, zu, zu, zu, zu, zu, zu] [(.int (1 : Int32))] target
  refine XS.istoreN X_1.here hx rfl (B d20_4) rfl (l' := #[zr ch, zr me, zi 1, zu, zu, zu, zu, zu]) rfl ?_
  refine XS.aloadN X_1.here hx rfl (B d20_5) rfl rfl ?_
  refine XS.iloadN X_1.here hx rfl (B d20_6) rfl ?_
  refine XS.i2b X_1.here hx rfl (B d20_7) rfl ?_
  show oSt p e below T_1 m 8 #[zr ch, zr me, zi 1, zu, zu, zu, zu, zu] [(.int ((1 : Int32).toInt8.toInt32)), (.ref me)] target
  rw [show ((1 : Int32).toInt8.toInt32) = (1 : Int32) from by decide]
  show oSt p e below T_1 m 8 #[zr ch, zr me, zi 1, zu, zu, zu, zu, zu] [(.int (1 : Int32)), (.ref me)] target
  refine st_6 _ ?_
  refine XS.iconst XG_6.here hx rfl (B d20_11) ?_
  refine XS.istoreN XG_6.here hx rfl (B d20_12) rfl (l' := #[zr ch, zr me, zi 1, zi 0, zu, zu, zu, zu]) rfl ?_
  exact kt
 refine own_cut (fun P => ∀ (T271j : State) (h271j : Heap) (lo271j : List Loc) (t3 : Slot) (t4 : Slot) (t5 : Slot) (g0 : Value) (g1 : Value), (Stand p l e (rO 3 0 0 43) s m #[(.ref ch), (.ref me)] below meth c T271j lo271j 0 0) → (T271j.heap = h271j) → (Fr n0 lo271j) → (n0 ≤ h271j.size) → (Keep h0 h271j [ch, me, mx, fg]) → (Exa Z h271j ch sg3) → (xF8 Z h271j ch (.ref mx)) → (xF9 Z h271j ch (.ref my)) → (xF10 Z h271j ch (.ref fn)) → (xF11 Z h271j ch (.ref ln)) → (xF12 Z h271j ch (.ref bl)) → (xF13 Z h271j ch spv) → (xF14 Z h271j ch (.int spc)) → (xF15 Z h271j ch (.long (own_next ldr))) → (xF16 Z h271j ch .null) → (xF17 Z h271j ch (.ref fg)) → (aN Z h271j fg kkg g0 g1) → (Exa Z h271j mx sg0) → (xF0 Z h271j mx (.ref my)) → (xF1 Z h271j mx (.long wmx)) → (xF2 Z h271j mx (.int fmx)) → (xF3 Z h271j mx (.int lmx)) → (Exa Z h271j me sg0) → (xF0 Z h271j me .null) → (xF1 Z h271j me (.long wme)) → (xF2 Z h271j me (.int fme)) → (xF3 Z h271j me (.int (1 : Int32))) → own_G p.tables e below P (T271j.setTop (mkF m 271 #[zr ch, zr me, zi 1, t3, t4, t5, zr mx, zr my] []))) ?_ ?_
 ·
  intro T271j h271j lo271j t3 t4 t5 g0 g1 X271j e271j N271j Z271j K271j j0_ j1_ j2_ j3_ j4_ j5_ j6_ j7_ j8_ j9_ j10_ j11_ j12_ j13_ j14_ j15_ j16_ j17_ j18_ j19_ j20_ j21_
  obtain ⟨T_9, h_9, X_9, e_9, W_9, st_9⟩ := putF X271j hx hZ hown (oV hw 117 rfl) Via.refl e271j j18_ j17_ (Or.inl (oW hw 118 rfl)) (oW hw 1 rfl) (ty := (.object sg0)) (by decide) rfl rfl (g := (mkF m 274 #[zr ch, zr me, zi 1, t3, t4, t5, zr mx, zr my] [(.ref my), (.ref me)])) rfl rfl (B d20_274)
  obtain ⟨Lg_9, XG_9, N_9⟩ := own_gen X_9 (Fr.snoc X_9 N271j g_me)
  have F_9 := j18_.same W_9
  have Z_10 := Nat.le_trans Z271j (Keep.of_wr W_9).1
  have K_11 : Keep h0 h_9 [ch, me, mx, fg] := K271j.wr W_9 (oK 1 rfl)
  have f_12 := (j12_.wr W_9)
  have f_13 := (j13_.other W_9 (Or.inl n_mx_me))
  obtain ⟨T_14, h_14, X_14, e_14, W_14, st_14⟩ := putF XG_9 hx hZ hown (oV hw 117 rfl) Via.refl e_9 f_13 f_12 (Or.inl (oW hw 118 rfl)) (oW hw 1 rfl) (ty := (.object sg0)) (by decide) rfl rfl (g := (mkF m 293 #[zr ch, zr me, zi 1, t3, t4, t5, zr mx, zr my] [(.ref me), (.ref mx)])) rfl rfl (B d20_293)
  obtain ⟨Lg_14, XG_14, N_14⟩ := own_gen X_14 (Fr.snoc X_14 N_9 g_mx)
  have F_14 := f_13.same W_14
  have Z_15 := Nat.le_trans Z_10 (Keep.of_wr W_14).1
  have K_16 : Keep h0 h_14 [ch, me, mx, fg] := K_11.wr W_14 (oK 2 rfl)
  have f_17 := ((j0_.wr W_9).wr W_14)
  have f_18 := ((j9_.other W_9 (Or.inl n_ch_me)).other W_14 (Or.inl n_ch_mx))
  obtain ⟨T_19, h_19, X_19, e_19, W_19, st_19⟩ := putF XG_14 hx hZ hown (oV hw 73 rfl) Via.refl e_14 f_18 f_17 (Or.inl (oW hw 74 rfl)) (oW hw 18 rfl) (ty := (.object sg0)) (by decide) rfl rfl (g := (mkF m 308 #[zr ch, zr me, zi 1, t3, t4, t5, zr mx, zr my] [(.ref me), (.ref ch)])) rfl rfl (B d20_308)
  obtain ⟨Lg_19, XG_19, N_19⟩ := own_gen X_19 (Fr.snoc X_19 N_14 g_ch)
  have F_19 := f_18.same W_19
  have Z_20 := Nat.le_trans Z_15 (Keep.of_wr W_19).1
  have K_21 : Keep h0 h_19 [ch, me, mx, fg] := K_16.wr W_19 (oK 0 rfl)
  have f_22 := (((j10_.other W_9 (Or.inl n_ch_me)).other W_14 (Or.inl n_ch_mx)).other W_19 (Or.inr (sn_12 hw)))
  obtain ⟨T_23, X_23, e_23, st_23⟩ := getF XG_19 hx hZ hown (oV hw 52 rfl) Via.refl e_19 f_22 (g := (mkF m 315 #[zr ch, zr me, zi 1, t3, t4, t5, zr mx, zr my] [(.ref ch), (.int (1 : Int32)), (.ref me), (.ref ch)])) rfl rfl (B d20_315)
  have f_25 := (f_17.wr W_19)
  obtain ⟨cq_24, q_24, q_24'⟩ := f_25.cell
  obtain ⟨_, _, ⟨T_24, L_24, k_24, n_24⟩, -, X_24, ⟨Lc_24, hQ_24, l_24, y_24, z_24⟩, st_24⟩ := X_23.privateBack hx (y := mn18) hown (oT hZ hw 121 rfl) (oT hZ hw 122 rfl) (psl_4 hZ hw) (oP hZ hw 123 rfl) (oT hZ hw 124 rfl) (by decide) (backOf (W := 0) (rm_lnk1 l Z a0 hw [] ch me fg  h_19 n0 Z_20 ) hZ (oW hw 124 rfl) (oW hw 19 rfl) (by decide) (by decide)) (g := (mkF m 318 #[zr ch, zr me, zi 1, t3, t4, t5, zr mx, zr my] [(.ref fg), (.int (1 : Int32)), (.ref me), (.ref ch)])) rfl (by rw [hml]; rfl) (Steps.refl _) (a := ch) (by rw [e_23]; exact q_24) q_24' (argsL := [(.ref me), (.int (1 : Int32)), (.ref fg)]) (rest := []) (lenOf pd10 rfl) rfl (oQ rfl) (B d20_318) (fun _ _ => ⟨rfl, e_23, (by decide : 0 + 0 ≤ _), (by decide : 0 + 0 ≤ _)⟩)
  dsimp only [Pt.U, Pt.locs, Pt.cells, Pt.slots] at X_24 l_24 y_24 z_24 st_24 hQ_24
  subst y_24 z_24
  obtain ⟨rfl, N_24q, p_24_0⟩ := hQ_24
  have N_24 : Fr n0 L_24 := by rw [l_24]; exact Fr.app N_19 N_24q
  clear l_24
  refine own_go (S' := T_24.setTop (mkF m 321 #[zr ch, zr me, zi 1, t3, t4, t5, zr mx, zr my] [])) (fun target kt => ?_) ?_
  ·
   show oSt p e below T271j m 271 #[zr ch, zr me, zi 1, t3, t4, t5, zr mx, zr my] [] target
   refine XS.aloadN X271j.here hx rfl (B d20_271) rfl rfl ?_
   refine XS.aload X271j.here hx rfl (B d20_272) rfl rfl ?_
   refine st_9 _ ?_
   refine XS.aload XG_9.here hx rfl (B d20_277) rfl rfl ?_
   refine XS.ifnonnullYes XG_9.here hx rfl (pc0 := 279) (pc' := 290) rfl (B d20_279) rfl (by decide) (by decide) ?_
   refine XS.aload XG_9.here hx rfl (B d20_290) rfl rfl ?_
   refine XS.aloadN XG_9.here hx rfl (B d20_292) rfl rfl ?_
   refine st_14 _ ?_
   refine XS.aload XG_14.here hx rfl (B d20_296) rfl rfl ?_
   refine XS.ifnonnullYes XG_14.here hx rfl (pc0 := 298) (pc' := 306) rfl (B d20_298) rfl (by decide) (by decide) ?_
   refine XS.aloadN XG_14.here hx rfl (B d20_306) rfl rfl ?_
   refine XS.aloadN XG_14.here hx rfl (B d20_307) rfl rfl ?_
   refine st_19 _ ?_
   refine XS.aloadN XG_19.here hx rfl (B d20_311) rfl rfl ?_
   refine XS.aloadN XG_19.here hx rfl (B d20_312) rfl rfl ?_
   refine XS.iloadN XG_19.here hx rfl (B d20_313) rfl ?_
   refine XS.aloadN XG_19.here hx rfl (B d20_314) rfl rfl ?_
   show oSt p e below T_19 m 315 #[zr ch, zr me, zi 1, t3, t4, t5, zr mx, zr my] [(.ref ch), (.int (1 : Int32)), (.ref me), (.ref ch)] target
   refine st_23 _ ?_
   refine st_24.trans ?_
   exact kt
  obtain ⟨fs, hr, hrun, hended, hW, hsame⟩ := X_24.leave (v := none) (fun _ => rfl)
  refine ⟨_, _, X_24.returnOut hx Bd.returns (B d20_321) hr, hrun, hended, _, _, rfl, ?_, ⟨_, rfl⟩, hW, hsame.mono (by decide) (by decide)⟩
  show Q_lbm Z ch me mx my fn ln bl fg na nb kkg kkf spc fmx lmx fmy fme lme ldr wmx wmy wme spv u0 u1 ev ra ew rb db h0 n0 _ T_24.heap _
  rw [p_24_0]
  have f_26 := (((j1_.other W_9 (Or.inl n_ch_me)).other W_14 (Or.inl n_ch_mx)).other W_19 (Or.inr (sn_13 hw)))
  have f_27 := (((j2_.other W_9 (Or.inl n_ch_me)).other W_14 (Or.inl n_ch_mx)).other W_19 (Or.inr (sn_14 hw)))
  have f_28 := (((j3_.other W_9 (Or.inl n_ch_me)).other W_14 (Or.inl n_ch_mx)).other W_19 (Or.inr (sn_15 hw)))
  have f_29 := (((j4_.other W_9 (Or.inl n_ch_me)).other W_14 (Or.inl n_ch_mx)).other W_19 (Or.inr (sn_16 hw)))
  have f_30 := (((j5_.other W_9 (Or.inl n_ch_me)).other W_14 (Or.inl n_ch_mx)).other W_19 (Or.inr (sn_17 hw)))
  have f_31 := (((j6_.other W_9 (Or.inl n_ch_me)).other W_14 (Or.inl n_ch_mx)).other W_19 (Or.inr (sn_18 hw)))
  have f_32 := (((j7_.other W_9 (Or.inl n_ch_me)).other W_14 (Or.inl n_ch_mx)).other W_19 (Or.inr (sn_19 hw)))
  have f_33 := (((j8_.other W_9 (Or.inl n_ch_me)).other W_14 (Or.inl n_ch_mx)).other W_19 (Or.inr (sn_20 hw)))
  have f_34 := (((j11_.other W_9 n_fg_me).other W_14 n_fg_mx).other W_19 (Ne.symm n_ch_fg))
  have f_35 := ((f_12.wr W_14).wr W_19)
  have f_36 := (F_14.other W_19 (Or.inl (Ne.symm n_ch_mx)))
  have f_37 := (((j14_.other W_9 (Or.inl n_mx_me)).other W_14 (Or.inr (sn_56 hw))).other W_19 (Or.inl (Ne.symm n_ch_mx)))
  have f_38 := (((j15_.other W_9 (Or.inl n_mx_me)).other W_14 (Or.inr (sn_58 hw))).other W_19 (Or.inl (Ne.symm n_ch_mx)))
  have f_39 := (((j16_.other W_9 (Or.inl n_mx_me)).other W_14 (Or.inr (sn_59 hw))).other W_19 (Or.inl (Ne.symm n_ch_mx)))
  have f_40 := (((j17_.wr W_9).wr W_14).wr W_19)
  have f_41 := ((F_9.other W_14 (Or.inl (Ne.symm n_mx_me))).other W_19 (Or.inl (Ne.symm n_ch_me)))
  have f_42 := (((j19_.other W_9 (Or.inr (sn_56 hw))).other W_14 (Or.inl (Ne.symm n_mx_me))).other W_19 (Or.inl (Ne.symm n_ch_me)))
  have f_43 := (((j20_.other W_9 (Or.inr (sn_58 hw))).other W_14 (Or.inl (Ne.symm n_mx_me))).other W_19 (Or.inl (Ne.symm n_ch_me)))
  have f_44 := (((j21_.other W_9 (Or.inr (sn_59 hw))).other W_14 (Or.inl (Ne.symm n_mx_me))).other W_19 (Or.inl (Ne.symm n_ch_me)))
  exact ⟨g0, g1, rfl, N_24, K_21, f_25, f_26, f_27, f_28, f_29, f_30, f_31, f_32, f_33, F_19, f_22, f_34, f_35, f_36, f_37, f_38, f_39, f_40, f_41, f_42, f_43, f_44⟩
 ·
  intro J271
  rcases hDD with rfl | ⟨rfl, rfl⟩ | ⟨rfl, rfl, rfl, rfl, rfl, rfl, rfl⟩
  ·
   skip
   have f_45 := (p_1_11.other W_6 (Or.inl n_ch_me))
   obtain ⟨T_46, X_46, e_46, st_46⟩ := getF XG_6 hx hZ hown (oV hw 52 rfl) Via.refl e_6 f_45 (g := (mkF m 20 #[zr ch, zr me, zi 1, zi 0, zu, zu, zu, zu] [(.ref ch)])) rfl rfl (B d20_20)
   have f_47 := ((P11_.keep p_1_0 (oN1 (Ne.symm n_ch_fg) oN)).other W_6 n_fg_me)
   obtain ⟨c_48, Ar_48, q_48, S_48, M_48, Hs_48, G_48⟩ := id f_47
   have hin_48 : ¬ ((0 : Int32) < 0 ∨ c_48.slots.size ≤ ((0 : Int32)).toNatClampNeg) := inb_of S_48 ⟨by decide, by decide⟩
   have hat_48 : c_48.slots[((0 : Int32)).toNatClampNeg]? = some .null := Hs_48.at hin_48 rfl
   have f_49 := (p_1_4.other W_6 (Or.inl n_ch_me))
   obtain ⟨T_50, X_50, e_50, st_50⟩ := getF X_46 hx hZ hown (oV hw 26 rfl) Via.refl e_46 f_49 (g := (mkF m 33 #[zr ch, zr me, zi 1, zi 0, zn, zu, zu, zu] [(.ref ch)])) rfl rfl (B d20_33)
   have f_51 := ((P12_.keep p_1_0 (oN1 (Ne.symm n_ch_fn) oN)).other W_6 n_fn_me)
   obtain ⟨c_52, Ar_52, q_52, S_52, M_52, Hs_52, G_52⟩ := id f_51
   have hin_52 : ¬ ((0 : Int32) < 0 ∨ c_52.slots.size ≤ ((0 : Int32)).toNatClampNeg) := inb_of S_52 ⟨by decide, by decide⟩
   have hat_52 : c_52.slots[((0 : Int32)).toNatClampNeg]? = some .null := Hs_52.at hin_52 rfl
   have f_53 := (p_1_10.other W_6 (Or.inl n_ch_me))
   obtain ⟨T_54, X_54, e_54, st_54⟩ := getF X_50 hx hZ hown (oV hw 73 rfl) Via.refl e_50 f_53 (g := (mkF m 219 #[zr ch, zr me, zi 1, zi 0, zi 0, zn, zi 0, zu] [(.ref ch)])) rfl rfl (B d20_219)
   have f_55 := (p_1_2.other W_6 (Or.inl n_ch_me))
   obtain ⟨T_56, X_56, e_56, st_56⟩ := getF X_54 hx hZ hown (oV hw 119 rfl) Via.refl e_54 f_55 (g := (mkF m 230 #[zr ch, zr me, zi 1, zi 0, zi 0, zn, zn, zu] [(.ref ch)])) rfl rfl (B d20_230)
   have f_58 := ((P31_.keep p_1_0 (oN1 (Ne.symm n_ch_me) oN)).other W_6 (Or.inr (sn_57 hw)))
   have f_59 := ((P30_.keep p_1_0 (oN1 (Ne.symm n_ch_me) oN)).other W_6 (Or.inr (sn_55 hw)))
   have f_60 := ((P23_.keep p_1_0 (oN1 (Ne.symm n_ch_mx) oN)).other W_6 (Or.inl n_mx_me))
   have f_61 := ((P22_.keep p_1_0 (oN1 (Ne.symm n_ch_mx) oN)).other W_6 (Or.inl n_mx_me))
   obtain ⟨_, _, ⟨T_57, L_57, k_57, n_57⟩, -, X_57, ⟨Lc_57, hQ_57, l_57, y_57, z_57⟩, st_57⟩ := Jvm.LawKit.callS X_56 hx (y := mn4) hown (oT hZ hw 148 rfl) (oT hZ hw 149 rfl) (oT hZ hw 19 rfl) (oT hZ hw 150 rfl) (by decide) (backOf (W := 0) (rm_gb l Z a0 hw [] me mx fme wme fmx wmx h_6 n0 Z_7 f_58 f_59 f_60 f_61) hZ (oW hw 150 rfl) (oW hw 19 rfl) (by decide) (by decide)) (g := (mkF m 251 #[zr ch, zr me, zi 1, zi 0, zi 0, zn, zn, zr mx] [(.ref mx), (.ref me)])) rfl (by rw [hml]; rfl) (argsL := [(.ref me), (.ref mx)]) (rest := []) (lenOf pd11 rfl) rfl (oQ rfl) (B d20_251) (fun _ _ => ⟨rfl, e_56, (by decide : 0 + 0 ≤ _), (by decide : 0 + 0 ≤ _)⟩)
   dsimp only [Pt.U, Pt.locs, Pt.cells, Pt.slots] at X_57 l_57 y_57 z_57 st_57 hQ_57
   subst y_57 z_57
   obtain ⟨rfl, N_57q, p_57_0⟩ := hQ_57
   have N_57 : Fr n0 L_57 := by rw [l_57]; exact Fr.app N_6 N_57q
   clear l_57
   have f_62 := ((P21_.keep p_1_0 (oN1 (Ne.symm n_ch_mx) oN)).other W_6 (Or.inl n_mx_me))
   obtain ⟨T_63, X_63, e_63, st_63⟩ := getF X_57 hx hZ hown (oV hw 117 rfl) Via.refl p_57_0 f_62 (g := (mkF m 263 #[zr ch, zr me, zi 1, zi 0, zi 0, zn, zr mx, zr mx] [(.ref mx)])) rfl rfl (B d20_263)
   have f_65 := ((P27_.keep p_1_0 (oN1 (Ne.symm n_ch_my) oN)).other W_6 (Or.inl n_my_me))
   have f_66 := ((P26_.keep p_1_0 (oN1 (Ne.symm n_ch_my) oN)).other W_6 (Or.inl n_my_me))
   obtain ⟨_, _, ⟨T_64, L_64, k_64, n_64⟩, -, X_64, ⟨Lc_64, hQ_64, l_64, y_64, z_64⟩, st_64⟩ := Jvm.LawKit.callS X_63 hx (y := mn4) hown (oT hZ hw 148 rfl) (oT hZ hw 149 rfl) (oT hZ hw 19 rfl) (oT hZ hw 150 rfl) (by decide) (backOf (W := 0) (rm_gb l Z a0 hw [] me my fme wme fmy wmy h_6 n0 Z_7 f_58 f_59 f_65 f_66) hZ (oW hw 150 rfl) (oW hw 19 rfl) (by decide) (by decide)) (g := (mkF m 251 #[zr ch, zr me, zi 1, zi 0, zi 0, zn, zr mx, zr my] [(.ref my), (.ref me)])) rfl (by rw [hml]; rfl) (argsL := [(.ref me), (.ref my)]) (rest := []) (lenOf pd11 rfl) rfl (oQ rfl) (B d20_251) (fun _ _ => ⟨rfl, e_63, (by decide : 0 + 0 ≤ _), (by decide : 0 + 0 ≤ _)⟩)
   dsimp only [Pt.U, Pt.locs, Pt.cells, Pt.slots] at X_64 l_64 y_64 z_64 st_64 hQ_64
   subst y_64 z_64
   obtain ⟨rfl, N_64q, p_64_0⟩ := hQ_64
   have N_64 : Fr n0 L_64 := by rw [l_64]; exact Fr.app N_57 N_64q
   clear l_64
   have f_67 := (p_1_1.wr W_6)
   have f_68 := (p_1_3.other W_6 (Or.inl n_ch_me))
   have f_69 := (p_1_5.other W_6 (Or.inl n_ch_me))
   have f_70 := (p_1_6.other W_6 (Or.inl n_ch_me))
   have f_71 := (p_1_7.other W_6 (Or.inl n_ch_me))
   have f_72 := (p_1_8.other W_6 (Or.inl n_ch_me))
   have f_73 := (p_1_9.other W_6 (Or.inl n_ch_me))
   have f_74 := ((P20_.keep p_1_0).wr W_6)
   have f_75 := ((P24_.keep p_1_0 (oN1 (Ne.symm n_ch_mx) oN)).other W_6 (Or.inl n_mx_me))
   have f_76 := (f_4.wr W_6)
   have f_77 := ((P29_.keep p_1_0 (oN1 (Ne.symm n_ch_me) oN)).other W_6 (Or.inr (sn_36 hw)))
   refine own_go (S' := T_64.setTop (mkF m 271 #[zr ch, zr me, zi 1, zi 0, zi 0, zn, zr mx, zr my] [])) (fun target kt => ?_) ?_
   ·
    show oSt p e below T_6 m 13 #[zr ch, zr me, zi 1, zi 0, zu, zu, zu, zu] [] target
    refine XS.iloadN XG_6.here hx rfl (B d20_13) rfl ?_
    refine XS.bipush XG_6.here hx rfl (B d20_14) ?_
    refine XS.icmpNo XG_6.here hx rfl (B d20_16) rfl (tlt (by decide : (0 : Int32) < (11 : Int32))).2.1 ?_
    refine XS.aloadN XG_6.here hx rfl (B d20_19) rfl rfl ?_
    refine st_46 _ ?_
    refine XS.iloadN X_46.here hx rfl (B d20_23) rfl ?_
    refine X_46.aaload hx (j := (0 : Int32)) (v := .null) (by rw [e_46]; exact Ar_48.1) (State.isArrayOf_alike hZ.alike Ar_48.2.1) rfl Ar_48.2.2 hin_48 hat_48 (g := (mkF m 24 #[zr ch, zr me, zi 1, zi 0, zu, zu, zu, zu] [(.int (0 : Int32)), (.ref fg)])) rfl rfl (B d20_24) _ ?_
    refine XS.astore X_46.here hx rfl (B d20_25) rfl rfl (l' := #[zr ch, zr me, zi 1, zi 0, zn, zu, zu, zu]) rfl ?_
    refine XS.aload X_46.here hx rfl (B d20_27) rfl rfl ?_
    refine XS.ifnonnullNo X_46.here hx rfl (B d20_29) rfl ?_
    refine XS.aloadN X_46.here hx rfl (B d20_32) rfl rfl ?_
    refine st_50 _ ?_
    refine XS.iloadN X_50.here hx rfl (B d20_36) rfl ?_
    refine X_50.aaload hx (j := (0 : Int32)) (v := .null) (by rw [e_50]; exact Ar_52.1) (State.isArrayOf_alike hZ.alike Ar_52.2.1) rfl Ar_52.2.2 hin_52 hat_52 (g := (mkF m 37 #[zr ch, zr me, zi 1, zi 0, zn, zu, zu, zu] [(.int (0 : Int32)), (.ref fn)])) rfl rfl (B d20_37) _ ?_
    refine XS.goto X_50.here hx rfl (pc0 := 38) (pc' := 46) rfl (B d20_38) (by decide) (by decide) ?_
    refine XS.astore X_50.here hx rfl (B d20_46) rfl rfl (l' := #[zr ch, zr me, zi 1, zi 0, zn, zn, zu, zu]) rfl ?_
    refine XS.aload X_50.here hx rfl (B d20_48) rfl rfl ?_
    show oSt p e below T_50 m 50 #[zr ch, zr me, zi 1, zi 0, zn, zn, zu, zu] [.null] target
    refine XS.ifnullYes X_50.here hx rfl (pc0 := 50) (pc' := 74) rfl (B d20_50) rfl (by decide) (by decide) ?_
    refine XS.iconst X_50.here hx rfl (B d20_74) ?_
    refine XS.istore X_50.here hx rfl (B d20_75) rfl (l' := #[zr ch, zr me, zi 1, zi 0, zi 0, zn, zu, zu]) rfl ?_
    refine XS.aconstNull X_50.here hx rfl (B d20_77) ?_
    refine XS.astore X_50.here hx rfl (B d20_78) rfl rfl (l' := #[zr ch, zr me, zi 1, zi 0, zi 0, zn, zu, zu]) rfl ?_
    refine XS.iloadN X_50.here hx rfl (B d20_80) rfl ?_
    refine XS.istore X_50.here hx rfl (B d20_81) rfl (l' := #[zr ch, zr me, zi 1, zi 0, zi 0, zn, zi 0, zu]) rfl ?_
    refine XS.iload X_50.here hx rfl (B d20_83) rfl ?_
    refine XS.ifYes X_50.here hx rfl (pc0 := 85) (pc' := 205) rfl (B d20_85) rfl ((if0 _ _).trans (flt (by decide : ¬ ((0 : Int32) < (0 : Int32)))).2.2.2) (by decide) (by decide) ?_
    refine XS.iload X_50.here hx rfl (B d20_205) rfl ?_
    refine XS.ifYes X_50.here hx rfl (pc0 := 207) (pc' := 218) rfl (B d20_207) rfl ((if0 _ _).trans (teq (by decide : (0 : Int32) = (0 : Int32))).1) (by decide) (by decide) ?_
    refine XS.aloadN X_50.here hx rfl (B d20_218) rfl rfl ?_
    refine st_54 _ ?_
    refine XS.astore X_54.here hx rfl (B d20_222) rfl rfl (l' := #[zr ch, zr me, zi 1, zi 0, zi 0, zn, zn, zu]) rfl ?_
    refine XS.aload X_54.here hx rfl (B d20_224) rfl rfl ?_
    refine XS.ifnonnullNo X_54.here hx rfl (B d20_226) rfl ?_
    refine XS.aloadN X_54.here hx rfl (B d20_229) rfl rfl ?_
    show oSt p e below T_54 m 230 #[zr ch, zr me, zi 1, zi 0, zi 0, zn, zn, zu] [(.ref ch)] target
    refine st_56 _ ?_
    refine XS.goto X_56.here hx rfl (pc0 := 233) (pc' := 241) rfl (B d20_233) (by decide) (by decide) ?_
    refine XS.astore X_56.here hx rfl (B d20_241) rfl rfl (l' := #[zr ch, zr me, zi 1, zi 0, zi 0, zn, zn, zr mx]) rfl ?_
    refine XS.aload X_56.here hx rfl (B d20_243) rfl rfl ?_
    refine XS.ifnullNo X_56.here hx rfl (B d20_245) rfl ?_
    refine XS.aloadN X_56.here hx rfl (B d20_248) rfl rfl ?_
    refine XS.aload X_56.here hx rfl (B d20_249) rfl rfl ?_
    refine st_57 _ ?_
    refine XS.ifNo X_57.here hx rfl (B d20_254) rfl ((if0 _ _).trans (feq hgx).1) ?_
    refine XS.aload X_57.here hx rfl (B d20_257) rfl rfl ?_
    refine XS.astore X_57.here hx rfl (B d20_259) rfl rfl (l' := #[zr ch, zr me, zi 1, zi 0, zi 0, zn, zr mx, zr mx]) rfl ?_
    refine XS.aload X_57.here hx rfl (B d20_261) rfl rfl ?_
    refine st_63 _ ?_
    refine XS.astore X_63.here hx rfl (B d20_266) rfl rfl (l' := #[zr ch, zr me, zi 1, zi 0, zi 0, zn, zr mx, zr my]) rfl ?_
    refine XS.goto X_63.here hx rfl (pc0 := 268) (pc' := 243) rfl (B d20_268) (by decide) (by decide) ?_
    refine XS.aload X_63.here hx rfl (B d20_243) rfl rfl ?_
    refine XS.ifnullNo X_63.here hx rfl (B d20_245) rfl ?_
    show oSt p e below T_63 m 248 #[zr ch, zr me, zi 1, zi 0, zi 0, zn, zr mx, zr my] [] target
    refine XS.aloadN X_63.here hx rfl (B d20_248) rfl rfl ?_
    refine XS.aload X_63.here hx rfl (B d20_249) rfl rfl ?_
    refine st_64 _ ?_
    refine XS.ifYes X_64.here hx rfl (pc0 := 254) (pc' := 271) rfl (B d20_254) rfl ((if0 _ _).trans (teq hgy).1) (by decide) (by decide) ?_
    exact kt
   exact J271 T_64 h_6 _ (.val (.int (0 : Int32))) (.val (.int (0 : Int32))) (.val .null) .null .null X_64 p_64_0 N_64 Z_7 K_8 f_67 f_55 f_68 f_49 f_69 f_70 f_71 f_72 f_73 f_53 f_45 f_47 f_74 f_62 f_61 f_60 f_75 f_76 f_77 f_59 f_58 F_6
  ·
   skip
   have f_78 := (p_1_11.other W_6 (Or.inl n_ch_me))
   obtain ⟨T_79, X_79, e_79, st_79⟩ := getF XG_6 hx hZ hown (oV hw 52 rfl) Via.refl e_6 f_78 (g := (mkF m 20 #[zr ch, zr me, zi 1, zi 0, zu, zu, zu, zu] [(.ref ch)])) rfl rfl (B d20_20)
   have f_80 := ((P11_.keep p_1_0 (oN1 (Ne.symm n_ch_fg) oN)).other W_6 n_fg_me)
   obtain ⟨c_81, Ar_81, q_81, S_81, M_81, Hs_81, G_81⟩ := id f_80
   have hin_81 : ¬ ((0 : Int32) < 0 ∨ c_81.slots.size ≤ ((0 : Int32)).toNatClampNeg) := inb_of S_81 ⟨by decide, by decide⟩
   have hat_81 : c_81.slots[((0 : Int32)).toNatClampNeg]? = some .null := Hs_81.at hin_81 rfl
   have f_82 := (p_1_4.other W_6 (Or.inl n_ch_me))
   obtain ⟨T_83, X_83, e_83, st_83⟩ := getF X_79 hx hZ hown (oV hw 26 rfl) Via.refl e_79 f_82 (g := (mkF m 33 #[zr ch, zr me, zi 1, zi 0, zn, zu, zu, zu] [(.ref ch)])) rfl rfl (B d20_33)
   have f_84 := ((P12_.keep p_1_0 (oN1 (Ne.symm n_ch_fn) oN)).other W_6 n_fn_me)
   obtain ⟨c_85, Ar_85, q_85, S_85, M_85, Hs_85, G_85⟩ := id f_84
   have hin_85 : ¬ ((0 : Int32) < 0 ∨ c_85.slots.size ≤ ((0 : Int32)).toNatClampNeg) := inb_of S_85 ⟨by decide, by decide⟩
   have hat_85 : c_85.slots[((0 : Int32)).toNatClampNeg]? = some (.ref na) := Hs_85.at hin_85 rfl
   have f_86 := ((P14_.keep p_1_0 (oN1 (Ne.symm n_ch_na) oN)).other W_6 (Or.inl n_na_me))
   obtain ⟨T_87, X_87, e_87, st_87⟩ := getF X_83 hx hZ hown (oV hw 137 rfl) Via.refl e_83 f_86 (g := (mkF m 56 #[zr ch, zr me, zi 1, zi 0, zn, zr na, zu, zu] [(.ref na), (.ref me)])) rfl rfl (B d20_56)
   have f_89 := ((P31_.keep p_1_0 (oN1 (Ne.symm n_ch_me) oN)).other W_6 (Or.inr (sn_57 hw)))
   have f_90 := ((P30_.keep p_1_0 (oN1 (Ne.symm n_ch_me) oN)).other W_6 (Or.inr (sn_55 hw)))
   have f_91 := ((P27_.keep p_1_0 (oN1 (Ne.symm n_ch_my) oN)).other W_6 (Or.inl n_my_me))
   have f_92 := ((P26_.keep p_1_0 (oN1 (Ne.symm n_ch_my) oN)).other W_6 (Or.inl n_my_me))
   obtain ⟨_, _, ⟨T_88, L_88, k_88, n_88⟩, -, X_88, ⟨Lc_88, hQ_88, l_88, y_88, z_88⟩, st_88⟩ := Jvm.LawKit.callS X_87 hx (y := mn4) hown (oT hZ hw 148 rfl) (oT hZ hw 149 rfl) (oT hZ hw 19 rfl) (oT hZ hw 150 rfl) (by decide) (backOf (W := 0) (rm_gb l Z a0 hw [] me my fme wme fmy wmy h_6 n0 Z_7 f_89 f_90 f_91 f_92) hZ (oW hw 150 rfl) (oW hw 19 rfl) (by decide) (by decide)) (g := (mkF m 59 #[zr ch, zr me, zi 1, zi 0, zn, zr na, zu, zu] [(.ref my), (.ref me)])) rfl (by rw [hml]; rfl) (argsL := [(.ref me), (.ref my)]) (rest := []) (lenOf pd11 rfl) rfl (oQ rfl) (B d20_59) (fun _ _ => ⟨rfl, e_87, (by decide : 0 + 0 ≤ _), (by decide : 0 + 0 ≤ _)⟩)
   dsimp only [Pt.U, Pt.locs, Pt.cells, Pt.slots] at X_88 l_88 y_88 z_88 st_88 hQ_88
   subst y_88 z_88
   obtain ⟨rfl, N_88q, p_88_0⟩ := hQ_88
   have N_88 : Fr n0 L_88 := by rw [l_88]; exact Fr.app N_6 N_88q
   clear l_88
   have f_93 := (p_1_10.other W_6 (Or.inl n_ch_me))
   obtain ⟨T_94, X_94, e_94, st_94⟩ := getF X_88 hx hZ hown (oV hw 73 rfl) Via.refl p_88_0 f_93 (g := (mkF m 219 #[zr ch, zr me, zi 1, zi 0, zi 0, zn, zi 0, zu] [(.ref ch)])) rfl rfl (B d20_219)
   have f_95 := (p_1_2.other W_6 (Or.inl n_ch_me))
   obtain ⟨T_96, X_96, e_96, st_96⟩ := getF X_94 hx hZ hown (oV hw 119 rfl) Via.refl e_94 f_95 (g := (mkF m 230 #[zr ch, zr me, zi 1, zi 0, zi 0, zn, zn, zu] [(.ref ch)])) rfl rfl (B d20_230)
   have f_98 := ((P23_.keep p_1_0 (oN1 (Ne.symm n_ch_mx) oN)).other W_6 (Or.inl n_mx_me))
   have f_99 := ((P22_.keep p_1_0 (oN1 (Ne.symm n_ch_mx) oN)).other W_6 (Or.inl n_mx_me))
   obtain ⟨_, _, ⟨T_97, L_97, k_97, n_97⟩, -, X_97, ⟨Lc_97, hQ_97, l_97, y_97, z_97⟩, st_97⟩ := Jvm.LawKit.callS X_96 hx (y := mn4) hown (oT hZ hw 148 rfl) (oT hZ hw 149 rfl) (oT hZ hw 19 rfl) (oT hZ hw 150 rfl) (by decide) (backOf (W := 0) (rm_gb l Z a0 hw [] me mx fme wme fmx wmx h_6 n0 Z_7 f_89 f_90 f_98 f_99) hZ (oW hw 150 rfl) (oW hw 19 rfl) (by decide) (by decide)) (g := (mkF m 251 #[zr ch, zr me, zi 1, zi 0, zi 0, zn, zn, zr mx] [(.ref mx), (.ref me)])) rfl (by rw [hml]; rfl) (argsL := [(.ref me), (.ref mx)]) (rest := []) (lenOf pd11 rfl) rfl (oQ rfl) (B d20_251) (fun _ _ => ⟨rfl, e_96, (by decide : 0 + 0 ≤ _), (by decide : 0 + 0 ≤ _)⟩)
   dsimp only [Pt.U, Pt.locs, Pt.cells, Pt.slots] at X_97 l_97 y_97 z_97 st_97 hQ_97
   subst y_97 z_97
   obtain ⟨rfl, N_97q, p_97_0⟩ := hQ_97
   have N_97 : Fr n0 L_97 := by rw [l_97]; exact Fr.app N_88 N_97q
   clear l_97
   have f_100 := ((P21_.keep p_1_0 (oN1 (Ne.symm n_ch_mx) oN)).other W_6 (Or.inl n_mx_me))
   obtain ⟨T_101, X_101, e_101, st_101⟩ := getF X_97 hx hZ hown (oV hw 117 rfl) Via.refl p_97_0 f_100 (g := (mkF m 263 #[zr ch, zr me, zi 1, zi 0, zi 0, zn, zr mx, zr mx] [(.ref mx)])) rfl rfl (B d20_263)
   obtain ⟨_, _, ⟨T_102, L_102, k_102, n_102⟩, -, X_102, ⟨Lc_102, hQ_102, l_102, y_102, z_102⟩, st_102⟩ := Jvm.LawKit.callS X_101 hx (y := mn4) hown (oT hZ hw 148 rfl) (oT hZ hw 149 rfl) (oT hZ hw 19 rfl) (oT hZ hw 150 rfl) (by decide) (backOf (W := 0) (rm_gb l Z a0 hw [] me my fme wme fmy wmy h_6 n0 Z_7 f_89 f_90 f_91 f_92) hZ (oW hw 150 rfl) (oW hw 19 rfl) (by decide) (by decide)) (g := (mkF m 251 #[zr ch, zr me, zi 1, zi 0, zi 0, zn, zr mx, zr my] [(.ref my), (.ref me)])) rfl (by rw [hml]; rfl) (argsL := [(.ref me), (.ref my)]) (rest := []) (lenOf pd11 rfl) rfl (oQ rfl) (B d20_251) (fun _ _ => ⟨rfl, e_101, (by decide : 0 + 0 ≤ _), (by decide : 0 + 0 ≤ _)⟩)
   dsimp only [Pt.U, Pt.locs, Pt.cells, Pt.slots] at X_102 l_102 y_102 z_102 st_102 hQ_102
   subst y_102 z_102
   obtain ⟨rfl, N_102q, p_102_0⟩ := hQ_102
   have N_102 : Fr n0 L_102 := by rw [l_102]; exact Fr.app N_97 N_102q
   clear l_102
   have f_103 := (p_1_1.wr W_6)
   have f_104 := (p_1_3.other W_6 (Or.inl n_ch_me))
   have f_105 := (p_1_5.other W_6 (Or.inl n_ch_me))
   have f_106 := (p_1_6.other W_6 (Or.inl n_ch_me))
   have f_107 := (p_1_7.other W_6 (Or.inl n_ch_me))
   have f_108 := (p_1_8.other W_6 (Or.inl n_ch_me))
   have f_109 := (p_1_9.other W_6 (Or.inl n_ch_me))
   have f_110 := ((P20_.keep p_1_0).wr W_6)
   have f_111 := ((P24_.keep p_1_0 (oN1 (Ne.symm n_ch_mx) oN)).other W_6 (Or.inl n_mx_me))
   have f_112 := (f_4.wr W_6)
   have f_113 := ((P29_.keep p_1_0 (oN1 (Ne.symm n_ch_me) oN)).other W_6 (Or.inr (sn_36 hw)))
   refine own_go (S' := T_102.setTop (mkF m 271 #[zr ch, zr me, zi 1, zi 0, zi 0, zn, zr mx, zr my] [])) (fun target kt => ?_) ?_
   ·
    show oSt p e below T_6 m 13 #[zr ch, zr me, zi 1, zi 0, zu, zu, zu, zu] [] target
    refine XS.iloadN XG_6.here hx rfl (B d20_13) rfl ?_
    refine XS.bipush XG_6.here hx rfl (B d20_14) ?_
    refine XS.icmpNo XG_6.here hx rfl (B d20_16) rfl (tlt (by decide : (0 : Int32) < (11 : Int32))).2.1 ?_
    refine XS.aloadN XG_6.here hx rfl (B d20_19) rfl rfl ?_
    refine st_79 _ ?_
    refine XS.iloadN X_79.here hx rfl (B d20_23) rfl ?_
    refine X_79.aaload hx (j := (0 : Int32)) (v := .null) (by rw [e_79]; exact Ar_81.1) (State.isArrayOf_alike hZ.alike Ar_81.2.1) rfl Ar_81.2.2 hin_81 hat_81 (g := (mkF m 24 #[zr ch, zr me, zi 1, zi 0, zu, zu, zu, zu] [(.int (0 : Int32)), (.ref fg)])) rfl rfl (B d20_24) _ ?_
    refine XS.astore X_79.here hx rfl (B d20_25) rfl rfl (l' := #[zr ch, zr me, zi 1, zi 0, zn, zu, zu, zu]) rfl ?_
    refine XS.aload X_79.here hx rfl (B d20_27) rfl rfl ?_
    refine XS.ifnonnullNo X_79.here hx rfl (B d20_29) rfl ?_
    refine XS.aloadN X_79.here hx rfl (B d20_32) rfl rfl ?_
    refine st_83 _ ?_
    refine XS.iloadN X_83.here hx rfl (B d20_36) rfl ?_
    refine X_83.aaload hx (j := (0 : Int32)) (v := (.ref na)) (by rw [e_83]; exact Ar_85.1) (State.isArrayOf_alike hZ.alike Ar_85.2.1) rfl Ar_85.2.2 hin_85 hat_85 (g := (mkF m 37 #[zr ch, zr me, zi 1, zi 0, zn, zu, zu, zu] [(.int (0 : Int32)), (.ref fn)])) rfl rfl (B d20_37) _ ?_
    refine XS.goto X_83.here hx rfl (pc0 := 38) (pc' := 46) rfl (B d20_38) (by decide) (by decide) ?_
    refine XS.astore X_83.here hx rfl (B d20_46) rfl rfl (l' := #[zr ch, zr me, zi 1, zi 0, zn, zr na, zu, zu]) rfl ?_
    refine XS.aload X_83.here hx rfl (B d20_48) rfl rfl ?_
    show oSt p e below T_83 m 50 #[zr ch, zr me, zi 1, zi 0, zn, zr na, zu, zu] [(.ref na)] target
    refine XS.ifnullNo X_83.here hx rfl (B d20_50) rfl ?_
    refine XS.aloadN X_83.here hx rfl (B d20_53) rfl rfl ?_
    refine XS.aload X_83.here hx rfl (B d20_54) rfl rfl ?_
    refine st_87 _ ?_
    refine st_88 _ ?_
    refine XS.ifNo X_88.here hx rfl (B d20_62) rfl ((if0 _ _).trans (teq hgy).2) ?_
    refine XS.goto X_88.here hx rfl (pc0 := 65) (pc' := 74) rfl (B d20_65) (by decide) (by decide) ?_
    refine XS.iconst X_88.here hx rfl (B d20_74) ?_
    refine XS.istore X_88.here hx rfl (B d20_75) rfl (l' := #[zr ch, zr me, zi 1, zi 0, zi 0, zr na, zu, zu]) rfl ?_
    refine XS.aconstNull X_88.here hx rfl (B d20_77) ?_
    refine XS.astore X_88.here hx rfl (B d20_78) rfl rfl (l' := #[zr ch, zr me, zi 1, zi 0, zi 0, zn, zu, zu]) rfl ?_
    refine XS.iloadN X_88.here hx rfl (B d20_80) rfl ?_
    refine XS.istore X_88.here hx rfl (B d20_81) rfl (l' := #[zr ch, zr me, zi 1, zi 0, zi 0, zn, zi 0, zu]) rfl ?_
    refine XS.iload X_88.here hx rfl (B d20_83) rfl ?_
    refine XS.ifYes X_88.here hx rfl (pc0 := 85) (pc' := 205) rfl (B d20_85) rfl ((if0 _ _).trans (flt (by decide : ¬ ((0 : Int32) < (0 : Int32)))).2.2.2) (by decide) (by decide) ?_
    refine XS.iload X_88.here hx rfl (B d20_205) rfl ?_
    refine XS.ifYes X_88.here hx rfl (pc0 := 207) (pc' := 218) rfl (B d20_207) rfl ((if0 _ _).trans (teq (by decide : (0 : Int32) = (0 : Int32))).1) (by decide) (by decide) ?_
    show oSt p e below T_88 m 218 #[zr ch, zr me, zi 1, zi 0, zi 0, zn, zi 0, zu] [] target
    refine XS.aloadN X_88.here hx rfl (B d20_218) rfl rfl ?_
    refine st_94 _ ?_
    refine XS.astore X_94.here hx rfl (B d20_222) rfl rfl (l' := #[zr ch, zr me, zi 1, zi 0, zi 0, zn, zn, zu]) rfl ?_
    refine XS.aload X_94.here hx rfl (B d20_224) rfl rfl ?_
    refine XS.ifnonnullNo X_94.here hx rfl (B d20_226) rfl ?_
    refine XS.aloadN X_94.here hx rfl (B d20_229) rfl rfl ?_
    refine st_96 _ ?_
    refine XS.goto X_96.here hx rfl (pc0 := 233) (pc' := 241) rfl (B d20_233) (by decide) (by decide) ?_
    refine XS.astore X_96.here hx rfl (B d20_241) rfl rfl (l' := #[zr ch, zr me, zi 1, zi 0, zi 0, zn, zn, zr mx]) rfl ?_
    refine XS.aload X_96.here hx rfl (B d20_243) rfl rfl ?_
    refine XS.ifnullNo X_96.here hx rfl (B d20_245) rfl ?_
    refine XS.aloadN X_96.here hx rfl (B d20_248) rfl rfl ?_
    refine XS.aload X_96.here hx rfl (B d20_249) rfl rfl ?_
    refine st_97 _ ?_
    refine XS.ifNo X_97.here hx rfl (B d20_254) rfl ((if0 _ _).trans (feq hgx).1) ?_
    refine XS.aload X_97.here hx rfl (B d20_257) rfl rfl ?_
    refine XS.astore X_97.here hx rfl (B d20_259) rfl rfl (l' := #[zr ch, zr me, zi 1, zi 0, zi 0, zn, zr mx, zr mx]) rfl ?_
    show oSt p e below T_97 m 261 #[zr ch, zr me, zi 1, zi 0, zi 0, zn, zr mx, zr mx] [] target
    refine XS.aload X_97.here hx rfl (B d20_261) rfl rfl ?_
    refine st_101 _ ?_
    refine XS.astore X_101.here hx rfl (B d20_266) rfl rfl (l' := #[zr ch, zr me, zi 1, zi 0, zi 0, zn, zr mx, zr my]) rfl ?_
    refine XS.goto X_101.here hx rfl (pc0 := 268) (pc' := 243) rfl (B d20_268) (by decide) (by decide) ?_
    refine XS.aload X_101.here hx rfl (B d20_243) rfl rfl ?_
    refine XS.ifnullNo X_101.here hx rfl (B d20_245) rfl ?_
    refine XS.aloadN X_101.here hx rfl (B d20_248) rfl rfl ?_
    refine XS.aload X_101.here hx rfl (B d20_249) rfl rfl ?_
    refine st_102 _ ?_
    refine XS.ifYes X_102.here hx rfl (pc0 := 254) (pc' := 271) rfl (B d20_254) rfl ((if0 _ _).trans (teq hgy).1) (by decide) (by decide) ?_
    exact kt
   exact J271 T_102 h_6 _ (.val (.int (0 : Int32))) (.val (.int (0 : Int32))) (.val .null) .null .null X_102 p_102_0 N_102 Z_7 K_8 f_103 f_95 f_104 f_82 f_105 f_106 f_107 f_108 f_109 f_93 f_78 f_80 f_110 f_100 f_99 f_98 f_111 f_112 f_113 f_90 f_89 F_6
  ·
   skip
   have f_114 := (p_1_11.other W_6 (Or.inl n_ch_me))
   obtain ⟨T_115, X_115, e_115, st_115⟩ := getF XG_6 hx hZ hown (oV hw 52 rfl) Via.refl e_6 f_114 (g := (mkF m 20 #[zr ch, zr me, zi 1, zi 0, zu, zu, zu, zu] [(.ref ch)])) rfl rfl (B d20_20)
   have f_116 := ((P11_.keep p_1_0 (oN1 (Ne.symm n_ch_fg) oN)).other W_6 n_fg_me)
   obtain ⟨c_117, Ar_117, q_117, S_117, M_117, Hs_117, G_117⟩ := id f_116
   have hin_117 : ¬ ((0 : Int32) < 0 ∨ c_117.slots.size ≤ ((0 : Int32)).toNatClampNeg) := inb_of S_117 ⟨by decide, by decide⟩
   have hat_117 : c_117.slots[((0 : Int32)).toNatClampNeg]? = some .null := Hs_117.at hin_117 rfl
   have f_118 := (p_1_4.other W_6 (Or.inl n_ch_me))
   obtain ⟨T_119, X_119, e_119, st_119⟩ := getF X_115 hx hZ hown (oV hw 26 rfl) Via.refl e_115 f_118 (g := (mkF m 33 #[zr ch, zr me, zi 1, zi 0, zn, zu, zu, zu] [(.ref ch)])) rfl rfl (B d20_33)
   have f_120 := ((P12_.keep p_1_0 (oN1 (Ne.symm n_ch_fn) oN)).other W_6 n_fn_me)
   obtain ⟨c_121, Ar_121, q_121, S_121, M_121, Hs_121, G_121⟩ := id f_120
   have hin_121 : ¬ ((0 : Int32) < 0 ∨ c_121.slots.size ≤ ((0 : Int32)).toNatClampNeg) := inb_of S_121 ⟨by decide, by decide⟩
   have hat_121 : c_121.slots[((0 : Int32)).toNatClampNeg]? = some (.ref na) := Hs_121.at hin_121 rfl
   have f_122 := ((P14_.keep p_1_0 (oN1 (Ne.symm n_ch_na) oN)).other W_6 (Or.inl n_na_me))
   obtain ⟨T_123, X_123, e_123, st_123⟩ := getF X_119 hx hZ hown (oV hw 137 rfl) Via.refl e_119 f_122 (g := (mkF m 56 #[zr ch, zr me, zi 1, zi 0, zn, zr na, zu, zu] [(.ref na), (.ref me)])) rfl rfl (B d20_56)
   have f_125 := ((P31_.keep p_1_0 (oN1 (Ne.symm n_ch_me) oN)).other W_6 (Or.inr (sn_57 hw)))
   have f_126 := ((P30_.keep p_1_0 (oN1 (Ne.symm n_ch_me) oN)).other W_6 (Or.inr (sn_55 hw)))
   have f_127 := ((P23_.keep p_1_0 (oN1 (Ne.symm n_ch_mx) oN)).other W_6 (Or.inl n_mx_me))
   have f_128 := ((P22_.keep p_1_0 (oN1 (Ne.symm n_ch_mx) oN)).other W_6 (Or.inl n_mx_me))
   obtain ⟨_, _, ⟨T_124, L_124, k_124, n_124⟩, -, X_124, ⟨Lc_124, hQ_124, l_124, y_124, z_124⟩, st_124⟩ := Jvm.LawKit.callS X_123 hx (y := mn4) hown (oT hZ hw 148 rfl) (oT hZ hw 149 rfl) (oT hZ hw 19 rfl) (oT hZ hw 150 rfl) (by decide) (backOf (W := 0) (rm_gb l Z a0 hw [] me mx fme wme fmx wmx h_6 n0 Z_7 f_125 f_126 f_127 f_128) hZ (oW hw 150 rfl) (oW hw 19 rfl) (by decide) (by decide)) (g := (mkF m 59 #[zr ch, zr me, zi 1, zi 0, zn, zr na, zu, zu] [(.ref mx), (.ref me)])) rfl (by rw [hml]; rfl) (argsL := [(.ref me), (.ref mx)]) (rest := []) (lenOf pd11 rfl) rfl (oQ rfl) (B d20_59) (fun _ _ => ⟨rfl, e_123, (by decide : 0 + 0 ≤ _), (by decide : 0 + 0 ≤ _)⟩)
   dsimp only [Pt.U, Pt.locs, Pt.cells, Pt.slots] at X_124 l_124 y_124 z_124 st_124 hQ_124
   subst y_124 z_124
   obtain ⟨rfl, N_124q, p_124_0⟩ := hQ_124
   have N_124 : Fr n0 L_124 := by rw [l_124]; exact Fr.app N_6 N_124q
   clear l_124
   obtain ⟨T_129, X_129, e_129, st_129⟩ := getF X_124 hx hZ hown (oV hw 52 rfl) Via.refl p_124_0 f_114 (g := (mkF m 20 #[zr ch, zr me, zi 1, zi 1, zn, zr na, zu, zu] [(.ref ch)])) rfl rfl (B d20_20)
   obtain ⟨c_130, Ar_130, q_130, S_130, M_130, Hs_130, G_130⟩ := id f_116
   have hin_130 : ¬ ((1 : Int32) < 0 ∨ c_130.slots.size ≤ ((1 : Int32)).toNatClampNeg) := inb_of S_130 ⟨by decide, by decide⟩
   have hat_130 : c_130.slots[((1 : Int32)).toNatClampNeg]? = some .null := Hs_130.at hin_130 rfl
   obtain ⟨T_131, X_131, e_131, st_131⟩ := getF X_129 hx hZ hown (oV hw 26 rfl) Via.refl e_129 f_118 (g := (mkF m 33 #[zr ch, zr me, zi 1, zi 1, zn, zr na, zu, zu] [(.ref ch)])) rfl rfl (B d20_33)
   obtain ⟨c_132, Ar_132, q_132, S_132, M_132, Hs_132, G_132⟩ := id f_120
   have hin_132 : ¬ ((1 : Int32) < 0 ∨ c_132.slots.size ≤ ((1 : Int32)).toNatClampNeg) := inb_of S_132 ⟨by decide, by decide⟩
   have hat_132 : c_132.slots[((1 : Int32)).toNatClampNeg]? = some (.ref nb) := Hs_132.at hin_132 rfl
   have f_133 := ((P17_.keep p_1_0 (oN1 (Ne.symm n_ch_nb) oN)).other W_6 (Or.inl n_nb_me))
   obtain ⟨T_134, X_134, e_134, st_134⟩ := getF X_131 hx hZ hown (oV hw 137 rfl) Via.refl e_131 f_133 (g := (mkF m 56 #[zr ch, zr me, zi 1, zi 1, zn, zr nb, zu, zu] [(.ref nb), (.ref me)])) rfl rfl (B d20_56)
   obtain ⟨_, _, ⟨T_135, L_135, k_135, n_135⟩, -, X_135, ⟨Lc_135, hQ_135, l_135, y_135, z_135⟩, st_135⟩ := Jvm.LawKit.callS X_134 hx (y := mn4) hown (oT hZ hw 148 rfl) (oT hZ hw 149 rfl) (oT hZ hw 19 rfl) (oT hZ hw 150 rfl) (by decide) (backOf (W := 0) (rm_gb l Z a0 hw [] me mx fme wme fmx wmx h_6 n0 Z_7 f_125 f_126 f_127 f_128) hZ (oW hw 150 rfl) (oW hw 19 rfl) (by decide) (by decide)) (g := (mkF m 59 #[zr ch, zr me, zi 1, zi 1, zn, zr nb, zu, zu] [(.ref mx), (.ref me)])) rfl (by rw [hml]; rfl) (argsL := [(.ref me), (.ref mx)]) (rest := []) (lenOf pd11 rfl) rfl (oQ rfl) (B d20_59) (fun _ _ => ⟨rfl, e_134, (by decide : 0 + 0 ≤ _), (by decide : 0 + 0 ≤ _)⟩)
   dsimp only [Pt.U, Pt.locs, Pt.cells, Pt.slots] at X_135 l_135 y_135 z_135 st_135 hQ_135
   subst y_135 z_135
   obtain ⟨rfl, N_135q, p_135_0⟩ := hQ_135
   have N_135 : Fr n0 L_135 := by rw [l_135]; exact Fr.app N_124 N_135q
   clear l_135
   obtain ⟨T_136, X_136, e_136, st_136⟩ := getF X_135 hx hZ hown (oV hw 52 rfl) Via.refl p_135_0 f_114 (g := (mkF m 20 #[zr ch, zr me, zi 1, zi 2, zn, zr nb, zu, zu] [(.ref ch)])) rfl rfl (B d20_20)
   obtain ⟨c_137, Ar_137, q_137, S_137, M_137, Hs_137, G_137⟩ := id f_116
   have hin_137 : ¬ ((2 : Int32) < 0 ∨ c_137.slots.size ≤ ((2 : Int32)).toNatClampNeg) := inb_of S_137 ⟨by decide, by decide⟩
   have hat_137 : c_137.slots[((2 : Int32)).toNatClampNeg]? = some .null := Hs_137.at hin_137 rfl
   obtain ⟨T_138, X_138, e_138, st_138⟩ := getF X_136 hx hZ hown (oV hw 26 rfl) Via.refl e_136 f_118 (g := (mkF m 33 #[zr ch, zr me, zi 1, zi 2, zn, zr nb, zu, zu] [(.ref ch)])) rfl rfl (B d20_33)
   obtain ⟨c_139, Ar_139, q_139, S_139, M_139, Hs_139, G_139⟩ := id f_120
   have hin_139 : ¬ ((2 : Int32) < 0 ∨ c_139.slots.size ≤ ((2 : Int32)).toNatClampNeg) := inb_of S_139 ⟨by decide, by decide⟩
   have hat_139 : c_139.slots[((2 : Int32)).toNatClampNeg]? = some .null := Hs_139.at hin_139 rfl
   obtain ⟨T_140, X_140, e_140, st_140⟩ := getF X_138 hx hZ hown (oV hw 52 rfl) Via.refl e_138 f_114 (g := (mkF m 102 #[zr ch, zr me, zi 1, zi 2, zi 0, zn, zi 2, zu] [(.ref ch)])) rfl rfl (B d20_102)
   obtain ⟨c_141, Ar_141, q_141, S_141, M_141, Hs_141, G_141⟩ := id f_116
   have hin_141 : ¬ ((1 : Int32) < 0 ∨ c_141.slots.size ≤ ((1 : Int32)).toNatClampNeg) := inb_of S_141 ⟨by decide, by decide⟩
   have hat_141 : c_141.slots[((1 : Int32)).toNatClampNeg]? = some .null := Hs_141.at hin_141 rfl
   obtain ⟨T_142, X_142, e_142, st_142⟩ := getF X_140 hx hZ hown (oV hw 26 rfl) Via.refl e_140 f_118 (g := (mkF m 118 #[zr ch, zr me, zi 1, zi 2, zi 0, zn, zi 2, zu] [(.ref ch)])) rfl rfl (B d20_118)
   obtain ⟨c_143, Ar_143, q_143, S_143, M_143, Hs_143, G_143⟩ := id f_120
   have hin_143 : ¬ ((1 : Int32) < 0 ∨ c_143.slots.size ≤ ((1 : Int32)).toNatClampNeg) := inb_of S_143 ⟨by decide, by decide⟩
   have hat_143 : c_143.slots[((1 : Int32)).toNatClampNeg]? = some (.ref nb) := Hs_143.at hin_143 rfl
   obtain ⟨T_144, X_144, e_144, st_144⟩ := getF X_142 hx hZ hown (oV hw 137 rfl) Via.refl e_142 f_133 (g := (mkF m 144 #[zr ch, zr me, zi 1, zi 2, zi 0, zn, zi 2, zr nb] [(.ref nb), (.ref me)])) rfl rfl (B d20_144)
   obtain ⟨_, _, ⟨T_145, L_145, k_145, n_145⟩, -, X_145, ⟨Lc_145, hQ_145, l_145, y_145, z_145⟩, st_145⟩ := Jvm.LawKit.callS X_144 hx (y := mn4) hown (oT hZ hw 148 rfl) (oT hZ hw 149 rfl) (oT hZ hw 19 rfl) (oT hZ hw 150 rfl) (by decide) (backOf (W := 0) (rm_gb l Z a0 hw [] me mx fme wme fmx wmx h_6 n0 Z_7 f_125 f_126 f_127 f_128) hZ (oW hw 150 rfl) (oW hw 19 rfl) (by decide) (by decide)) (g := (mkF m 147 #[zr ch, zr me, zi 1, zi 2, zi 0, zn, zi 2, zr nb] [(.ref mx), (.ref me)])) rfl (by rw [hml]; rfl) (argsL := [(.ref me), (.ref mx)]) (rest := []) (lenOf pd11 rfl) rfl (oQ rfl) (B d20_147) (fun _ _ => ⟨rfl, e_144, (by decide : 0 + 0 ≤ _), (by decide : 0 + 0 ≤ _)⟩)
   dsimp only [Pt.U, Pt.locs, Pt.cells, Pt.slots] at X_145 l_145 y_145 z_145 st_145 hQ_145
   subst y_145 z_145
   obtain ⟨rfl, N_145q, p_145_0⟩ := hQ_145
   have N_145 : Fr n0 L_145 := by rw [l_145]; exact Fr.app N_135 N_145q
   clear l_145
   have f_146 := ((P18_.keep p_1_0 (oN1 (Ne.symm n_ch_nb) oN)).other W_6 (Or.inl n_nb_me))
   obtain ⟨T_147, X_147, e_147, st_147⟩ := getF X_145 hx hZ hown (oV hw 141 rfl) Via.refl p_145_0 f_146 (g := (mkF m 159 #[zr ch, zr me, zi 1, zi 2, zi 0, zr nb, zi 2, zr nb] [(.ref nb)])) rfl rfl (B d20_159)
   obtain ⟨T_148, X_148, e_148, st_148⟩ := getF X_147 hx hZ hown (oV hw 52 rfl) Via.refl e_147 f_114 (g := (mkF m 170 #[zr ch, zr me, zi 1, zi 2, zi 0, zr nb, zi 2, zn] [(.ref ch), (.ref nb)])) rfl rfl (B d20_170)
   obtain ⟨c_149, Ar_149, q_149, S_149, M_149, Hs_149, G_149⟩ := id f_116
   have hin_149 : ¬ ((1 : Int32) < 0 ∨ c_149.slots.size ≤ ((1 : Int32)).toNatClampNeg) := inb_of S_149 ⟨by decide, by decide⟩
   have hat_149 : c_149.slots[((1 : Int32)).toNatClampNeg]? = some .null := Hs_149.at hin_149 rfl
   obtain ⟨T_150, X_150, e_150, st_150⟩ := getF X_148 hx hZ hown (oV hw 52 rfl) Via.refl e_148 f_114 (g := (mkF m 189 #[zr ch, zr me, zi 1, zi 2, zi 1, zr nb, zi 2, zn] [(.ref ch)])) rfl rfl (B d20_189)
   have f_151 := ((P16_.keep p_1_0).wr W_6)
   obtain ⟨c_152, Ar_152, q_152, S_152, M_152, Hs_152, G_152⟩ := id f_116
   have hin_152 : ¬ ((1 : Int32) < 0 ∨ c_152.slots.size ≤ ((1 : Int32)).toNatClampNeg) := inb_of S_152 ⟨by decide, by decide⟩
   obtain ⟨T_152, h_152, X_152, e_152, W_152, st_152⟩ := stR X_150 hx hZ e_150 Ar_152 (j := (1 : Int32)) hin_152 rfl (Sto.ofV Ar_152 q_152 Okkg (Ins.self f_151)) (g := (mkF m 198 #[zr ch, zr me, zi 1, zi 2, zi 1, zr nb, zi 2, zn] [(.ref nb), (.int (1 : Int32)), (.ref fg)])) rfl rfl (B d20_198)
   obtain ⟨Lg_152, XG_152, N_152⟩ := own_gen X_152 (Fr.snoc X_152 N_145 g_fg)
   have V_152 : aN Z h_152 fg kkg .null (.ref nb) := Arv.set Ar_152 q_152 S_152 M_152 Hs_152 G_152 rfl W_152 1 rfl (Nat.le_of_ble_eq_true rfl)
   have Z_153 := Nat.le_trans Z_7 (Keep.of_wr W_152).1
   have K_154 : Keep h0 h_152 [ch, me, mx, fg] := K_8.wr W_152 (oK 3 rfl)
   have f_155 := (((P19_.keep p_1_0 (oN1 (Ne.symm n_ch_nb) oN)).other W_6 (Or.inl n_nb_me)).other W_152 (Or.inl (Ne.symm n_fg_nb)))
   obtain ⟨T_156, X_156, e_156, st_156⟩ := getF XG_152 hx hZ hown (oV hw 139 rfl) Via.refl e_152 f_155 (g := (mkF m 95 #[zr ch, zr me, zi 1, zi 2, zi 1, zr nb, zi 1, zn] [(.ref nb)])) rfl rfl (B d20_95)
   have f_157 := (((P15_.keep p_1_0 (oN1 (Ne.symm n_ch_na) oN)).other W_6 (Or.inl n_na_me)).other W_152 (Or.inl (Ne.symm n_fg_na)))
   obtain ⟨T_158, X_158, e_158, st_158⟩ := getF X_156 hx hZ hown (oV hw 141 rfl) Via.refl e_156 f_157 (g := (mkF m 131 #[zr ch, zr me, zi 1, zi 2, zi 1, zr na, zi 1, zn] [(.ref na)])) rfl rfl (B d20_131)
   have f_159 := (f_114.other W_152 (Or.inl n_ch_fg))
   obtain ⟨T_160, X_160, e_160, st_160⟩ := getF X_158 hx hZ hown (oV hw 52 rfl) Via.refl e_158 f_159 (g := (mkF m 170 #[zr ch, zr me, zi 1, zi 2, zi 1, zr na, zi 1, zn] [(.ref ch), (.ref na)])) rfl rfl (B d20_170)
   obtain ⟨c_161, Ar_161, q_161, S_161, M_161, Hs_161, G_161⟩ := id V_152
   have hin_161 : ¬ ((0 : Int32) < 0 ∨ c_161.slots.size ≤ ((0 : Int32)).toNatClampNeg) := inb_of S_161 ⟨by decide, by decide⟩
   have hat_161 : c_161.slots[((0 : Int32)).toNatClampNeg]? = some .null := Hs_161.at hin_161 rfl
   obtain ⟨T_162, X_162, e_162, st_162⟩ := getF X_160 hx hZ hown (oV hw 52 rfl) Via.refl e_160 f_159 (g := (mkF m 189 #[zr ch, zr me, zi 1, zi 2, zi 1, zr na, zi 1, zn] [(.ref ch)])) rfl rfl (B d20_189)
   have f_163 := (((P13_.keep p_1_0).wr W_6).wr W_152)
   obtain ⟨c_164, Ar_164, q_164, S_164, M_164, Hs_164, G_164⟩ := id V_152
   have hin_164 : ¬ ((0 : Int32) < 0 ∨ c_164.slots.size ≤ ((0 : Int32)).toNatClampNeg) := inb_of S_164 ⟨by decide, by decide⟩
   obtain ⟨T_164, h_164, X_164, e_164, W_164, st_164⟩ := stR X_162 hx hZ e_162 Ar_164 (j := (0 : Int32)) hin_164 rfl (Sto.ofV Ar_164 q_164 Okkg (Ins.self f_163)) (g := (mkF m 198 #[zr ch, zr me, zi 1, zi 2, zi 1, zr na, zi 1, zn] [(.ref na), (.int (0 : Int32)), (.ref fg)])) rfl rfl (B d20_198)
   obtain ⟨Lg_164, XG_164, N_164⟩ := own_gen X_164 (Fr.snoc X_164 N_152 g_fg)
   have V_164 : aN Z h_164 fg kkg (.ref na) (.ref nb) := Arv.set Ar_164 q_164 S_164 M_164 Hs_164 G_164 rfl W_164 0 rfl (Nat.le_of_ble_eq_true rfl)
   have Z_165 := Nat.le_trans Z_153 (Keep.of_wr W_164).1
   have K_166 : Keep h0 h_164 [ch, me, mx, fg] := K_154.wr W_164 (oK 3 rfl)
   have f_167 := ((f_122.other W_152 (Or.inl (Ne.symm n_fg_na))).other W_164 (Or.inl (Ne.symm n_fg_na)))
   obtain ⟨T_168, X_168, e_168, st_168⟩ := getF XG_164 hx hZ hown (oV hw 137 rfl) Via.refl e_164 f_167 (g := (mkF m 212 #[zr ch, zr me, zi 1, zi 2, zi 1, zr na, zi 0, zn] [(.ref na)])) rfl rfl (B d20_212)
   have f_169 := ((((P21_.keep p_1_0 (oN1 (Ne.symm n_ch_mx) oN)).other W_6 (Or.inl n_mx_me)).other W_152 (Or.inl (Ne.symm n_fg_mx))).other W_164 (Or.inl (Ne.symm n_fg_mx)))
   obtain ⟨T_170, X_170, e_170, st_170⟩ := getF X_168 hx hZ hown (oV hw 117 rfl) Via.refl e_168 f_169 (g := (mkF m 238 #[zr ch, zr me, zi 1, zi 2, zi 1, zr na, zr mx, zn] [(.ref mx)])) rfl rfl (B d20_238)
   have f_172 := ((f_125.other W_152 (Or.inl (Ne.symm n_fg_me))).other W_164 (Or.inl (Ne.symm n_fg_me)))
   have f_173 := ((f_126.other W_152 (Or.inl (Ne.symm n_fg_me))).other W_164 (Or.inl (Ne.symm n_fg_me)))
   have f_174 := ((((P27_.keep p_1_0 (oN1 (Ne.symm n_ch_my) oN)).other W_6 (Or.inl n_my_me)).other W_152 (Or.inl (Ne.symm n_fg_my))).other W_164 (Or.inl (Ne.symm n_fg_my)))
   have f_175 := ((((P26_.keep p_1_0 (oN1 (Ne.symm n_ch_my) oN)).other W_6 (Or.inl n_my_me)).other W_152 (Or.inl (Ne.symm n_fg_my))).other W_164 (Or.inl (Ne.symm n_fg_my)))
   obtain ⟨_, _, ⟨T_171, L_171, k_171, n_171⟩, -, X_171, ⟨Lc_171, hQ_171, l_171, y_171, z_171⟩, st_171⟩ := Jvm.LawKit.callS X_170 hx (y := mn4) hown (oT hZ hw 148 rfl) (oT hZ hw 149 rfl) (oT hZ hw 19 rfl) (oT hZ hw 150 rfl) (by decide) (backOf (W := 0) (rm_gb l Z a0 hw [] me my fme wme fmy wmy h_164 n0 Z_165 f_172 f_173 f_174 f_175) hZ (oW hw 150 rfl) (oW hw 19 rfl) (by decide) (by decide)) (g := (mkF m 251 #[zr ch, zr me, zi 1, zi 2, zi 1, zr na, zr mx, zr my] [(.ref my), (.ref me)])) rfl (by rw [hml]; rfl) (argsL := [(.ref me), (.ref my)]) (rest := []) (lenOf pd11 rfl) rfl (oQ rfl) (B d20_251) (fun _ _ => ⟨rfl, e_170, (by decide : 0 + 0 ≤ _), (by decide : 0 + 0 ≤ _)⟩)
   dsimp only [Pt.U, Pt.locs, Pt.cells, Pt.slots] at X_171 l_171 y_171 z_171 st_171 hQ_171
   subst y_171 z_171
   obtain ⟨rfl, N_171q, p_171_0⟩ := hQ_171
   have N_171 : Fr n0 L_171 := by rw [l_171]; exact Fr.app N_164 N_171q
   clear l_171
   have f_176 := (((p_1_1.wr W_6).wr W_152).wr W_164)
   have f_177 := (((p_1_2.other W_6 (Or.inl n_ch_me)).other W_152 (Or.inl n_ch_fg)).other W_164 (Or.inl n_ch_fg))
   have f_178 := (((p_1_3.other W_6 (Or.inl n_ch_me)).other W_152 (Or.inl n_ch_fg)).other W_164 (Or.inl n_ch_fg))
   have f_179 := ((f_118.other W_152 (Or.inl n_ch_fg)).other W_164 (Or.inl n_ch_fg))
   have f_180 := (((p_1_5.other W_6 (Or.inl n_ch_me)).other W_152 (Or.inl n_ch_fg)).other W_164 (Or.inl n_ch_fg))
   have f_181 := (((p_1_6.other W_6 (Or.inl n_ch_me)).other W_152 (Or.inl n_ch_fg)).other W_164 (Or.inl n_ch_fg))
   have f_182 := (((p_1_7.other W_6 (Or.inl n_ch_me)).other W_152 (Or.inl n_ch_fg)).other W_164 (Or.inl n_ch_fg))
   have f_183 := (((p_1_8.other W_6 (Or.inl n_ch_me)).other W_152 (Or.inl n_ch_fg)).other W_164 (Or.inl n_ch_fg))
   have f_184 := (((p_1_9.other W_6 (Or.inl n_ch_me)).other W_152 (Or.inl n_ch_fg)).other W_164 (Or.inl n_ch_fg))
   have f_185 := (((p_1_10.other W_6 (Or.inl n_ch_me)).other W_152 (Or.inl n_ch_fg)).other W_164 (Or.inl n_ch_fg))
   have f_186 := (f_159.other W_164 (Or.inl n_ch_fg))
   have f_187 := ((((P20_.keep p_1_0).wr W_6).wr W_152).wr W_164)
   have f_188 := ((f_128.other W_152 (Or.inl (Ne.symm n_fg_mx))).other W_164 (Or.inl (Ne.symm n_fg_mx)))
   have f_189 := ((f_127.other W_152 (Or.inl (Ne.symm n_fg_mx))).other W_164 (Or.inl (Ne.symm n_fg_mx)))
   have f_190 := ((((P24_.keep p_1_0 (oN1 (Ne.symm n_ch_mx) oN)).other W_6 (Or.inl n_mx_me)).other W_152 (Or.inl (Ne.symm n_fg_mx))).other W_164 (Or.inl (Ne.symm n_fg_mx)))
   have f_191 := (((f_4.wr W_6).wr W_152).wr W_164)
   have f_192 := ((((P29_.keep p_1_0 (oN1 (Ne.symm n_ch_me) oN)).other W_6 (Or.inr (sn_36 hw))).other W_152 (Or.inl (Ne.symm n_fg_me))).other W_164 (Or.inl (Ne.symm n_fg_me)))
   have f_193 := ((F_6.other W_152 (Or.inl (Ne.symm n_fg_me))).other W_164 (Or.inl (Ne.symm n_fg_me)))
   refine own_go (S' := T_171.setTop (mkF m 271 #[zr ch, zr me, zi 1, zi 2, zi 1, zr na, zr mx, zr my] [])) (fun target kt => ?_) ?_
   ·
    show oSt p e below T_6 m 13 #[zr ch, zr me, zi 1, zi 0, zu, zu, zu, zu] [] target
    refine XS.iloadN XG_6.here hx rfl (B d20_13) rfl ?_
    refine XS.bipush XG_6.here hx rfl (B d20_14) ?_
    refine XS.icmpNo XG_6.here hx rfl (B d20_16) rfl (tlt (by decide : (0 : Int32) < (11 : Int32))).2.1 ?_
    refine XS.aloadN XG_6.here hx rfl (B d20_19) rfl rfl ?_
    refine st_115 _ ?_
    refine XS.iloadN X_115.here hx rfl (B d20_23) rfl ?_
    refine X_115.aaload hx (j := (0 : Int32)) (v := .null) (by rw [e_115]; exact Ar_117.1) (State.isArrayOf_alike hZ.alike Ar_117.2.1) rfl Ar_117.2.2 hin_117 hat_117 (g := (mkF m 24 #[zr ch, zr me, zi 1, zi 0, zu, zu, zu, zu] [(.int (0 : Int32)), (.ref fg)])) rfl rfl (B d20_24) _ ?_
    refine XS.astore X_115.here hx rfl (B d20_25) rfl rfl (l' := #[zr ch, zr me, zi 1, zi 0, zn, zu, zu, zu]) rfl ?_
    refine XS.aload X_115.here hx rfl (B d20_27) rfl rfl ?_
    refine XS.ifnonnullNo X_115.here hx rfl (B d20_29) rfl ?_
    refine XS.aloadN X_115.here hx rfl (B d20_32) rfl rfl ?_
    refine st_119 _ ?_
    refine XS.iloadN X_119.here hx rfl (B d20_36) rfl ?_
    refine X_119.aaload hx (j := (0 : Int32)) (v := (.ref na)) (by rw [e_119]; exact Ar_121.1) (State.isArrayOf_alike hZ.alike Ar_121.2.1) rfl Ar_121.2.2 hin_121 hat_121 (g := (mkF m 37 #[zr ch, zr me, zi 1, zi 0, zn, zu, zu, zu] [(.int (0 : Int32)), (.ref fn)])) rfl rfl (B d20_37) _ ?_
    refine XS.goto X_119.here hx rfl (pc0 := 38) (pc' := 46) rfl (B d20_38) (by decide) (by decide) ?_
    refine XS.astore X_119.here hx rfl (B d20_46) rfl rfl (l' := #[zr ch, zr me, zi 1, zi 0, zn, zr na, zu, zu]) rfl ?_
    refine XS.aload X_119.here hx rfl (B d20_48) rfl rfl ?_
    show oSt p e below T_119 m 50 #[zr ch, zr me, zi 1, zi 0, zn, zr na, zu, zu] [(.ref na)] target
    refine XS.ifnullNo X_119.here hx rfl (B d20_50) rfl ?_
    refine XS.aloadN X_119.here hx rfl (B d20_53) rfl rfl ?_
    refine XS.aload X_119.here hx rfl (B d20_54) rfl rfl ?_
    refine st_123 _ ?_
    refine st_124 _ ?_
    refine XS.ifYes X_124.here hx rfl (pc0 := 62) (pc' := 68) rfl (B d20_62) rfl ((if0 _ _).trans (feq hgx).2) (by decide) (by decide) ?_
    refine XS.iinc X_124.here hx rfl (B d20_68) rfl (l' := #[zr ch, zr me, zi 1, .val (.int ((0 : Int32) + (1 : Int32))), zn, zr na, zu, zu]) rfl ?_
    show oSt p e below T_124 m 71 #[zr ch, zr me, zi 1, .val (.int ((0 : Int32) + (1 : Int32))), zn, zr na, zu, zu] [] target
    rw [show (0 : Int32) + (1 : Int32) = (1 : Int32) from by decide]
    show oSt p e below T_124 m 71 #[zr ch, zr me, zi 1, zi 1, zn, zr na, zu, zu] [] target
    refine XS.goto X_124.here hx rfl (pc0 := 71) (pc' := 13) rfl (B d20_71) (by decide) (by decide) ?_
    refine XS.iloadN X_124.here hx rfl (B d20_13) rfl ?_
    refine XS.bipush X_124.here hx rfl (B d20_14) ?_
    refine XS.icmpNo X_124.here hx rfl (B d20_16) rfl (tlt (by decide : (1 : Int32) < (11 : Int32))).2.1 ?_
    refine XS.aloadN X_124.here hx rfl (B d20_19) rfl rfl ?_
    refine st_129 _ ?_
    refine XS.iloadN X_129.here hx rfl (B d20_23) rfl ?_
    refine X_129.aaload hx (j := (1 : Int32)) (v := .null) (by rw [e_129]; exact Ar_130.1) (State.isArrayOf_alike hZ.alike Ar_130.2.1) rfl Ar_130.2.2 hin_130 hat_130 (g := (mkF m 24 #[zr ch, zr me, zi 1, zi 1, zn, zr na, zu, zu] [(.int (1 : Int32)), (.ref fg)])) rfl rfl (B d20_24) _ ?_
    refine XS.astore X_129.here hx rfl (B d20_25) rfl rfl (l' := #[zr ch, zr me, zi 1, zi 1, zn, zr na, zu, zu]) rfl ?_
    refine XS.aload X_129.here hx rfl (B d20_27) rfl rfl ?_
    refine XS.ifnonnullNo X_129.here hx rfl (B d20_29) rfl ?_
    refine XS.aloadN X_129.here hx rfl (B d20_32) rfl rfl ?_
    refine st_131 _ ?_
    refine XS.iloadN X_131.here hx rfl (B d20_36) rfl ?_
    refine X_131.aaload hx (j := (1 : Int32)) (v := (.ref nb)) (by rw [e_131]; exact Ar_132.1) (State.isArrayOf_alike hZ.alike Ar_132.2.1) rfl Ar_132.2.2 hin_132 hat_132 (g := (mkF m 37 #[zr ch, zr me, zi 1, zi 1, zn, zr na, zu, zu] [(.int (1 : Int32)), (.ref fn)])) rfl rfl (B d20_37) _ ?_
    refine XS.goto X_131.here hx rfl (pc0 := 38) (pc' := 46) rfl (B d20_38) (by decide) (by decide) ?_
    refine XS.astore X_131.here hx rfl (B d20_46) rfl rfl (l' := #[zr ch, zr me, zi 1, zi 1, zn, zr nb, zu, zu]) rfl ?_
    show oSt p e below T_131 m 48 #[zr ch, zr me, zi 1, zi 1, zn, zr nb, zu, zu] [] target
    refine XS.aload X_131.here hx rfl (B d20_48) rfl rfl ?_
    refine XS.ifnullNo X_131.here hx rfl (B d20_50) rfl ?_
    refine XS.aloadN X_131.here hx rfl (B d20_53) rfl rfl ?_
    refine XS.aload X_131.here hx rfl (B d20_54) rfl rfl ?_
    refine st_134 _ ?_
    refine st_135 _ ?_
    refine XS.ifYes X_135.here hx rfl (pc0 := 62) (pc' := 68) rfl (B d20_62) rfl ((if0 _ _).trans (feq hgx).2) (by decide) (by decide) ?_
    refine XS.iinc X_135.here hx rfl (B d20_68) rfl (l' := #[zr ch, zr me, zi 1, .val (.int ((1 : Int32) + (1 : Int32))), zn, zr nb, zu, zu]) rfl ?_
    show oSt p e below T_135 m 71 #[zr ch, zr me, zi 1, .val (.int ((1 : Int32) + (1 : Int32))), zn, zr nb, zu, zu] [] target
    rw [show (1 : Int32) + (1 : Int32) = (2 : Int32) from by decide]
    show oSt p e below T_135 m 71 #[zr ch, zr me, zi 1, zi 2, zn, zr nb, zu, zu] [] target
    refine XS.goto X_135.here hx rfl (pc0 := 71) (pc' := 13) rfl (B d20_71) (by decide) (by decide) ?_
    refine XS.iloadN X_135.here hx rfl (B d20_13) rfl ?_
    refine XS.bipush X_135.here hx rfl (B d20_14) ?_
    refine XS.icmpNo X_135.here hx rfl (B d20_16) rfl (tlt (by decide : (2 : Int32) < (11 : Int32))).2.1 ?_
    refine XS.aloadN X_135.here hx rfl (B d20_19) rfl rfl ?_
    refine st_136 _ ?_
    refine XS.iloadN X_136.here hx rfl (B d20_23) rfl ?_
    refine X_136.aaload hx (j := (2 : Int32)) (v := .null) (by rw [e_136]; exact Ar_137.1) (State.isArrayOf_alike hZ.alike Ar_137.2.1) rfl Ar_137.2.2 hin_137 hat_137 (g := (mkF m 24 #[zr ch, zr me, zi 1, zi 2, zn, zr nb, zu, zu] [(.int (2 : Int32)), (.ref fg)])) rfl rfl (B d20_24) _ ?_
    refine XS.astore X_136.here hx rfl (B d20_25) rfl rfl (l' := #[zr ch, zr me, zi 1, zi 2, zn, zr nb, zu, zu]) rfl ?_
    refine XS.aload X_136.here hx rfl (B d20_27) rfl rfl ?_
    refine XS.ifnonnullNo X_136.here hx rfl (B d20_29) rfl ?_
    refine XS.aloadN X_136.here hx rfl (B d20_32) rfl rfl ?_
    refine st_138 _ ?_
    refine XS.iloadN X_138.here hx rfl (B d20_36) rfl ?_
    refine X_138.aaload hx (j := (2 : Int32)) (v := .null) (by rw [e_138]; exact Ar_139.1) (State.isArrayOf_alike hZ.alike Ar_139.2.1) rfl Ar_139.2.2 hin_139 hat_139 (g := (mkF m 37 #[zr ch, zr me, zi 1, zi 2, zn, zr nb, zu, zu] [(.int (2 : Int32)), (.ref fn)])) rfl rfl (B d20_37) _ ?_
    refine XS.goto X_138.here hx rfl (pc0 := 38) (pc' := 46) rfl (B d20_38) (by decide) (by decide) ?_
    refine XS.astore X_138.here hx rfl (B d20_46) rfl rfl (l' := #[zr ch, zr me, zi 1, zi 2, zn, zn, zu, zu]) rfl ?_
    show oSt p e below T_138 m 48 #[zr ch, zr me, zi 1, zi 2, zn, zn, zu, zu] [] target
    refine XS.aload X_138.here hx rfl (B d20_48) rfl rfl ?_
    refine XS.ifnullYes X_138.here hx rfl (pc0 := 50) (pc' := 74) rfl (B d20_50) rfl (by decide) (by decide) ?_
    refine XS.iconst X_138.here hx rfl (B d20_74) ?_
    refine XS.istore X_138.here hx rfl (B d20_75) rfl (l' := #[zr ch, zr me, zi 1, zi 2, zi 0, zn, zu, zu]) rfl ?_
    refine XS.aconstNull X_138.here hx rfl (B d20_77) ?_
    refine XS.astore X_138.here hx rfl (B d20_78) rfl rfl (l' := #[zr ch, zr me, zi 1, zi 2, zi 0, zn, zu, zu]) rfl ?_
    refine XS.iloadN X_138.here hx rfl (B d20_80) rfl ?_
    refine XS.istore X_138.here hx rfl (B d20_81) rfl (l' := #[zr ch, zr me, zi 1, zi 2, zi 0, zn, zi 2, zu]) rfl ?_
    refine XS.iload X_138.here hx rfl (B d20_83) rfl ?_
    refine XS.ifNo X_138.here hx rfl (B d20_85) rfl ((if0 _ _).trans (tlt (by decide : (0 : Int32) < (2 : Int32))).2.2.2) ?_
    refine XS.iload X_138.here hx rfl (B d20_88) rfl ?_
    refine XS.ifYes X_138.here hx rfl (pc0 := 90) (pc' := 101) rfl (B d20_90) rfl ((if0 _ _).trans (teq (by decide : (0 : Int32) = (0 : Int32))).1) (by decide) (by decide) ?_
    refine XS.aloadN X_138.here hx rfl (B d20_101) rfl rfl ?_
    refine st_140 _ ?_
    refine XS.iload X_140.here hx rfl (B d20_105) rfl ?_
    refine XS.iconst X_140.here hx rfl (B d20_107) ?_
    refine XS.isub X_140.here hx rfl (B d20_108) rfl ?_
    show oSt p e below T_140 m 109 #[zr ch, zr me, zi 1, zi 2, zi 0, zn, zi 2, zu] [(.int ((2 : Int32) - (1 : Int32))), (.ref fg)] target
    rw [show (2 : Int32) - (1 : Int32) = (1 : Int32) from by decide]
    show oSt p e below T_140 m 109 #[zr ch, zr me, zi 1, zi 2, zi 0, zn, zi 2, zu] [(.int (1 : Int32)), (.ref fg)] target
    refine X_140.aaload hx (j := (1 : Int32)) (v := .null) (by rw [e_140]; exact Ar_141.1) (State.isArrayOf_alike hZ.alike Ar_141.2.1) rfl Ar_141.2.2 hin_141 hat_141 (g := (mkF m 109 #[zr ch, zr me, zi 1, zi 2, zi 0, zn, zi 2, zu] [(.int (1 : Int32)), (.ref fg)])) rfl rfl (B d20_109) _ ?_
    refine XS.astore X_140.here hx rfl (B d20_110) rfl rfl (l' := #[zr ch, zr me, zi 1, zi 2, zi 0, zn, zi 2, zu]) rfl ?_
    refine XS.aload X_140.here hx rfl (B d20_112) rfl rfl ?_
    refine XS.ifnonnullNo X_140.here hx rfl (B d20_114) rfl ?_
    refine XS.aloadN X_140.here hx rfl (B d20_117) rfl rfl ?_
    refine st_142 _ ?_
    refine XS.iload X_142.here hx rfl (B d20_121) rfl ?_
    refine XS.iconst X_142.here hx rfl (B d20_123) ?_
    refine XS.isub X_142.here hx rfl (B d20_124) rfl ?_
    show oSt p e below T_142 m 125 #[zr ch, zr me, zi 1, zi 2, zi 0, zn, zi 2, zu] [(.int ((2 : Int32) - (1 : Int32))), (.ref fn)] target
    rw [show (2 : Int32) - (1 : Int32) = (1 : Int32) from by decide]
    show oSt p e below T_142 m 125 #[zr ch, zr me, zi 1, zi 2, zi 0, zn, zi 2, zu] [(.int (1 : Int32)), (.ref fn)] target
    refine X_142.aaload hx (j := (1 : Int32)) (v := (.ref nb)) (by rw [e_142]; exact Ar_143.1) (State.isArrayOf_alike hZ.alike Ar_143.2.1) rfl Ar_143.2.2 hin_143 hat_143 (g := (mkF m 125 #[zr ch, zr me, zi 1, zi 2, zi 0, zn, zi 2, zu] [(.int (1 : Int32)), (.ref fn)])) rfl rfl (B d20_125) _ ?_
    refine XS.goto X_142.here hx rfl (pc0 := 126) (pc' := 134) rfl (B d20_126) (by decide) (by decide) ?_
    refine XS.astore X_142.here hx rfl (B d20_134) rfl rfl (l' := #[zr ch, zr me, zi 1, zi 2, zi 0, zn, zi 2, zr nb]) rfl ?_
    refine XS.aload X_142.here hx rfl (B d20_136) rfl rfl ?_
    refine XS.ifnullNo X_142.here hx rfl (B d20_138) rfl ?_
    refine XS.aloadN X_142.here hx rfl (B d20_141) rfl rfl ?_
    refine XS.aload X_142.here hx rfl (B d20_142) rfl rfl ?_
    refine st_144 _ ?_
    refine st_145 _ ?_
    refine XS.ifNo X_145.here hx rfl (B d20_150) rfl ((if0 _ _).trans (feq hgx).1) ?_
    refine XS.aload X_145.here hx rfl (B d20_153) rfl rfl ?_
    refine XS.astore X_145.here hx rfl (B d20_155) rfl rfl (l' := #[zr ch, zr me, zi 1, zi 2, zi 0, zr nb, zi 2, zr nb]) rfl ?_
    refine XS.aload X_145.here hx rfl (B d20_157) rfl rfl ?_
    refine st_147 _ ?_
    refine XS.astore X_147.here hx rfl (B d20_162) rfl rfl (l' := #[zr ch, zr me, zi 1, zi 2, zi 0, zr nb, zi 2, zn]) rfl ?_
    refine XS.goto X_147.here hx rfl (pc0 := 164) (pc' := 136) rfl (B d20_164) (by decide) (by decide) ?_
    refine XS.aload X_147.here hx rfl (B d20_136) rfl rfl ?_
    show oSt p e below T_147 m 138 #[zr ch, zr me, zi 1, zi 2, zi 0, zr nb, zi 2, zn] [.null] target
    refine XS.ifnullYes X_147.here hx rfl (pc0 := 138) (pc' := 167) rfl (B d20_138) rfl (by decide) (by decide) ?_
    refine XS.aload X_147.here hx rfl (B d20_167) rfl rfl ?_
    refine XS.aloadN X_147.here hx rfl (B d20_169) rfl rfl ?_
    refine st_148 _ ?_
    refine XS.iload X_148.here hx rfl (B d20_173) rfl ?_
    refine XS.iconst X_148.here hx rfl (B d20_175) ?_
    refine XS.isub X_148.here hx rfl (B d20_176) rfl ?_
    show oSt p e below T_148 m 177 #[zr ch, zr me, zi 1, zi 2, zi 0, zr nb, zi 2, zn] [(.int ((2 : Int32) - (1 : Int32))), (.ref fg), (.ref nb)] target
    rw [show (2 : Int32) - (1 : Int32) = (1 : Int32) from by decide]
    show oSt p e below T_148 m 177 #[zr ch, zr me, zi 1, zi 2, zi 0, zr nb, zi 2, zn] [(.int (1 : Int32)), (.ref fg), (.ref nb)] target
    refine X_148.aaload hx (j := (1 : Int32)) (v := .null) (by rw [e_148]; exact Ar_149.1) (State.isArrayOf_alike hZ.alike Ar_149.2.1) rfl Ar_149.2.2 hin_149 hat_149 (g := (mkF m 177 #[zr ch, zr me, zi 1, zi 2, zi 0, zr nb, zi 2, zn] [(.int (1 : Int32)), (.ref fg), (.ref nb)])) rfl rfl (B d20_177) _ ?_
    refine Jvm.RoadKit.acmp (g := (mkF m 178 #[zr ch, zr me, zi 1, zi 2, zi 0, zr nb, zi 2, zn] [.null, (.ref nb)])) X_148 hx rfl rfl rfl (pc0 := 178) (pc' := 181) (same := false) rfl (B d20_178) rfl (decide_eq_false nofun) (by decide) (by decide) ?_
    refine XS.iconst X_148.here hx rfl (B d20_181) ?_
    refine XS.goto X_148.here hx rfl (pc0 := 182) (pc' := 186) rfl (B d20_182) (by decide) (by decide) ?_
    refine XS.istore X_148.here hx rfl (B d20_186) rfl (l' := #[zr ch, zr me, zi 1, zi 2, zi 1, zr nb, zi 2, zn]) rfl ?_
    refine XS.aloadN X_148.here hx rfl (B d20_188) rfl rfl ?_
    refine st_150 _ ?_
    refine XS.iload X_150.here hx rfl (B d20_192) rfl ?_
    refine XS.iconst X_150.here hx rfl (B d20_194) ?_
    refine XS.isub X_150.here hx rfl (B d20_195) rfl ?_
    show oSt p e below T_150 m 196 #[zr ch, zr me, zi 1, zi 2, zi 1, zr nb, zi 2, zn] [(.int ((2 : Int32) - (1 : Int32))), (.ref fg)] target
    rw [show (2 : Int32) - (1 : Int32) = (1 : Int32) from by decide]
    show oSt p e below T_150 m 196 #[zr ch, zr me, zi 1, zi 2, zi 1, zr nb, zi 2, zn] [(.int (1 : Int32)), (.ref fg)] target
    refine XS.aload X_150.here hx rfl (B d20_196) rfl rfl ?_
    refine st_152 _ ?_
    refine XS.iinc XG_152.here hx rfl (B d20_199) rfl (l' := #[zr ch, zr me, zi 1, zi 2, zi 1, zr nb, .val (.int ((2 : Int32) + (-1 : Int32))), zn]) rfl ?_
    show oSt p e below T_152 m 202 #[zr ch, zr me, zi 1, zi 2, zi 1, zr nb, .val (.int ((2 : Int32) + (-1 : Int32))), zn] [] target
    rw [show (2 : Int32) + (-1 : Int32) = (1 : Int32) from by decide]
    show oSt p e below T_152 m 202 #[zr ch, zr me, zi 1, zi 2, zi 1, zr nb, zi 1, zn] [] target
    refine XS.goto XG_152.here hx rfl (pc0 := 202) (pc' := 83) rfl (B d20_202) (by decide) (by decide) ?_
    refine XS.iload XG_152.here hx rfl (B d20_83) rfl ?_
    refine XS.ifNo XG_152.here hx rfl (B d20_85) rfl ((if0 _ _).trans (tlt (by decide : (0 : Int32) < (1 : Int32))).2.2.2) ?_
    refine XS.iload XG_152.here hx rfl (B d20_88) rfl ?_
    refine XS.ifNo XG_152.here hx rfl (B d20_90) rfl ((if0 _ _).trans (feq (by decide : ¬ ((1 : Int32) = (0 : Int32)))).1) ?_
    refine XS.aload XG_152.here hx rfl (B d20_93) rfl rfl ?_
    refine st_156 _ ?_
    refine XS.goto X_156.here hx rfl (pc0 := 98) (pc' := 110) rfl (B d20_98) (by decide) (by decide) ?_
    refine XS.astore X_156.here hx rfl (B d20_110) rfl rfl (l' := #[zr ch, zr me, zi 1, zi 2, zi 1, zr na, zi 1, zn]) rfl ?_
    refine XS.aload X_156.here hx rfl (B d20_112) rfl rfl ?_
    refine XS.ifnonnullYes X_156.here hx rfl (pc0 := 114) (pc' := 129) rfl (B d20_114) rfl (by decide) (by decide) ?_
    refine XS.aload X_156.here hx rfl (B d20_129) rfl rfl ?_
    refine st_158 _ ?_
    refine XS.astore X_158.here hx rfl (B d20_134) rfl rfl (l' := #[zr ch, zr me, zi 1, zi 2, zi 1, zr na, zi 1, zn]) rfl ?_
    refine XS.aload X_158.here hx rfl (B d20_136) rfl rfl ?_
    refine XS.ifnullYes X_158.here hx rfl (pc0 := 138) (pc' := 167) rfl (B d20_138) rfl (by decide) (by decide) ?_
    refine XS.aload X_158.here hx rfl (B d20_167) rfl rfl ?_
    show oSt p e below T_158 m 169 #[zr ch, zr me, zi 1, zi 2, zi 1, zr na, zi 1, zn] [(.ref na)] target
    refine XS.aloadN X_158.here hx rfl (B d20_169) rfl rfl ?_
    refine st_160 _ ?_
    refine XS.iload X_160.here hx rfl (B d20_173) rfl ?_
    refine XS.iconst X_160.here hx rfl (B d20_175) ?_
    refine XS.isub X_160.here hx rfl (B d20_176) rfl ?_
    show oSt p e below T_160 m 177 #[zr ch, zr me, zi 1, zi 2, zi 1, zr na, zi 1, zn] [(.int ((1 : Int32) - (1 : Int32))), (.ref fg), (.ref na)] target
    rw [show (1 : Int32) - (1 : Int32) = (0 : Int32) from by decide]
    show oSt p e below T_160 m 177 #[zr ch, zr me, zi 1, zi 2, zi 1, zr na, zi 1, zn] [(.int (0 : Int32)), (.ref fg), (.ref na)] target
    refine X_160.aaload hx (j := (0 : Int32)) (v := .null) (by rw [e_160]; exact Ar_161.1) (State.isArrayOf_alike hZ.alike Ar_161.2.1) rfl Ar_161.2.2 hin_161 hat_161 (g := (mkF m 177 #[zr ch, zr me, zi 1, zi 2, zi 1, zr na, zi 1, zn] [(.int (0 : Int32)), (.ref fg), (.ref na)])) rfl rfl (B d20_177) _ ?_
    refine Jvm.RoadKit.acmp (g := (mkF m 178 #[zr ch, zr me, zi 1, zi 2, zi 1, zr na, zi 1, zn] [.null, (.ref na)])) X_160 hx rfl rfl rfl (pc0 := 178) (pc' := 181) (same := false) rfl (B d20_178) rfl (decide_eq_false nofun) (by decide) (by decide) ?_
    refine XS.iconst X_160.here hx rfl (B d20_181) ?_
    refine XS.goto X_160.here hx rfl (pc0 := 182) (pc' := 186) rfl (B d20_182) (by decide) (by decide) ?_
    refine XS.istore X_160.here hx rfl (B d20_186) rfl (l' := #[zr ch, zr me, zi 1, zi 2, zi 1, zr na, zi 1, zn]) rfl ?_
    refine XS.aloadN X_160.here hx rfl (B d20_188) rfl rfl ?_
    refine st_162 _ ?_
    refine XS.iload X_162.here hx rfl (B d20_192) rfl ?_
    refine XS.iconst X_162.here hx rfl (B d20_194) ?_
    refine XS.isub X_162.here hx rfl (B d20_195) rfl ?_
    show oSt p e below T_162 m 196 #[zr ch, zr me, zi 1, zi 2, zi 1, zr na, zi 1, zn] [(.int ((1 : Int32) - (1 : Int32))), (.ref fg)] target
    rw [show (1 : Int32) - (1 : Int32) = (0 : Int32) from by decide]
    show oSt p e below T_162 m 196 #[zr ch, zr me, zi 1, zi 2, zi 1, zr na, zi 1, zn] [(.int (0 : Int32)), (.ref fg)] target
    refine XS.aload X_162.here hx rfl (B d20_196) rfl rfl ?_
    refine st_164 _ ?_
    refine XS.iinc XG_164.here hx rfl (B d20_199) rfl (l' := #[zr ch, zr me, zi 1, zi 2, zi 1, zr na, .val (.int ((1 : Int32) + (-1 : Int32))), zn]) rfl ?_
    show oSt p e below T_164 m 202 #[zr ch, zr me, zi 1, zi 2, zi 1, zr na, .val (.int ((1 : Int32) + (-1 : Int32))), zn] [] target
    rw [show (1 : Int32) + (-1 : Int32) = (0 : Int32) from by decide]
    show oSt p e below T_164 m 202 #[zr ch, zr me, zi 1, zi 2, zi 1, zr na, zi 0, zn] [] target
    refine XS.goto XG_164.here hx rfl (pc0 := 202) (pc' := 83) rfl (B d20_202) (by decide) (by decide) ?_
    refine XS.iload XG_164.here hx rfl (B d20_83) rfl ?_
    refine XS.ifYes XG_164.here hx rfl (pc0 := 85) (pc' := 205) rfl (B d20_85) rfl ((if0 _ _).trans (flt (by decide : ¬ ((0 : Int32) < (0 : Int32)))).2.2.2) (by decide) (by decide) ?_
    refine XS.iload XG_164.here hx rfl (B d20_205) rfl ?_
    refine XS.ifNo XG_164.here hx rfl (B d20_207) rfl ((if0 _ _).trans (feq (by decide : ¬ ((1 : Int32) = (0 : Int32)))).1) ?_
    refine XS.aload XG_164.here hx rfl (B d20_210) rfl rfl ?_
    refine st_168 _ ?_
    refine XS.goto X_168.here hx rfl (pc0 := 215) (pc' := 222) rfl (B d20_215) (by decide) (by decide) ?_
    refine XS.astore X_168.here hx rfl (B d20_222) rfl rfl (l' := #[zr ch, zr me, zi 1, zi 2, zi 1, zr na, zr mx, zn]) rfl ?_
    refine XS.aload X_168.here hx rfl (B d20_224) rfl rfl ?_
    refine XS.ifnonnullYes X_168.here hx rfl (pc0 := 226) (pc' := 236) rfl (B d20_226) rfl (by decide) (by decide) ?_
    refine XS.aload X_168.here hx rfl (B d20_236) rfl rfl ?_
    refine st_170 _ ?_
    refine XS.astore X_170.here hx rfl (B d20_241) rfl rfl (l' := #[zr ch, zr me, zi 1, zi 2, zi 1, zr na, zr mx, zr my]) rfl ?_
    refine XS.aload X_170.here hx rfl (B d20_243) rfl rfl ?_
    refine XS.ifnullNo X_170.here hx rfl (B d20_245) rfl ?_
    refine XS.aloadN X_170.here hx rfl (B d20_248) rfl rfl ?_
    show oSt p e below T_170 m 249 #[zr ch, zr me, zi 1, zi 2, zi 1, zr na, zr mx, zr my] [(.ref me)] target
    refine XS.aload X_170.here hx rfl (B d20_249) rfl rfl ?_
    refine st_171 _ ?_
    refine XS.ifYes X_171.here hx rfl (pc0 := 254) (pc' := 271) rfl (B d20_254) rfl ((if0 _ _).trans (teq hgy).1) (by decide) (by decide) ?_
    exact kt
   exact J271 T_171 h_164 _ (.val (.int (2 : Int32))) (.val (.int (1 : Int32))) (.val (.ref na)) (.ref na) (.ref nb) X_171 p_171_0 N_171 Z_165 K_166 f_176 f_177 f_178 f_179 f_180 f_181 f_182 f_183 f_184 f_185 f_186 V_164 f_187 f_169 f_188 f_189 f_190 f_191 f_192 f_173 f_172 f_193
-- com/example/carillon/carillon/Chain.insertBehindFinger:(Lcom/example/carillon/carillon/Message;)V
theorem d21_0 : decode cd21 0 = .ok (.aload_n 0, 1) := by decide +kernel
theorem d21_1 : decode cd21 1 = .ok (.getfield 38, 3) := by decide +kernel
theorem d21_4 : decode cd21 4 = .ok (.ifnull 14, 3) := by decide +kernel
theorem d21_18 : decode cd21 18 = .ok (.aload_n 0, 1) := by decide +kernel
theorem d21_19 : decode cd21 19 = .ok (.aload_n 1, 1) := by decide +kernel
theorem d21_20 : decode cd21 20 = .ok (.invokevirtual 83, 3) := by decide +kernel
theorem d21_23 : decode cd21 23 = .ok (.goto 8, 3) := by decide +kernel
theorem d21_31 : decode cd21 31 = .ok (.return_, 1) := by decide +kernel
theorem ef_ib0 (m : MethodId) (ch me : Addr) : entryFrame m #[(.ref ch), (.ref me)] 2 = mkF m 0 #[.val (.ref ch), .val (.ref me)] [] := by first | (simp [entryFrame, mkF, argsToLocals, Value.category]; done) | rfl
def Q_ib0 (Z : State) (ch me fn ln bl fg : Addr) (kkf kkl : ClassId) (spc fme lme : Int32) (ldr wme : Int64) (hv fev : Value) (h0 : Heap) (n0 : Nat) (v : Option Value) (h : Heap) (L : List Loc) : Prop := ∃ (na : Addr), ∃ (nb : Addr), v = none ∧ Fr n0 L ∧ Keep h0 h [ch, me, fn, ln] ∧ Exa Z h ch sg3 ∧ xF8 Z h ch (.ref me) ∧ xF9 Z h ch (.ref me) ∧ xF10 Z h ch (.ref fn) ∧ xF11 Z h ch (.ref ln) ∧ xF12 Z h ch (.ref bl) ∧ xF13 Z h ch .null ∧ xF14 Z h ch (.int spc) ∧ xF15 Z h ch (.long (own_next ldr)) ∧ xF16 Z h ch fev ∧ xF17 Z h ch (.ref fg) ∧ Exa Z h me sg0 ∧ xF0 Z h me .null ∧ xF1 Z h me (.long wme) ∧ xF2 Z h me (.int fme) ∧ xF3 Z h me (.int (3 : Int32)) ∧ Exa Z h na sg5 ∧ xF18 Z h na (.ref me) ∧ xF19 Z h na .null ∧ xF20 Z h na .null ∧ Exa Z h nb sg5 ∧ xF18 Z h nb (.ref me) ∧ xF19 Z h nb .null ∧ xF20 Z h nb (.ref na) ∧ aN Z h fn kkf (.ref na) (.ref nb) ∧ aN Z h ln kkl (.ref na) (.ref nb) ∧ h0.size ≤ na ∧ h0.size ≤ nb ∧ na ≠ nb
set_option maxRecDepth 65536 in
set_option maxHeartbeats 40000000 in
theorem rm_ib0 (l : Launch) (Z : State) (a0 : Array Value) (hw : hwT Z a0) (ws : List Jvm.Cond) (ch me fn ln bl fg : Addr) (kkf kkl : ClassId) (spc fme lme : Int32) (ldr wme : Int64) (hv fev : Value) (h0 : Heap) (n0 : Nat) (Z0 : n0 ≤ h0.size) (P0_ : Exa Z h0 ch sg3) (P1_ : xF8 Z h0 ch hv) (P2_ : xF9 Z h0 ch .null) (P3_ : xF10 Z h0 ch (.ref fn)) (P4_ : xF11 Z h0 ch (.ref ln)) (P5_ : xF12 Z h0 ch (.ref bl)) (P6_ : xF13 Z h0 ch .null) (P7_ : xF14 Z h0 ch (.int spc)) (P8_ : xF15 Z h0 ch (.long ldr)) (P9_ : xF16 Z h0 ch fev) (P10_ : xF17 Z h0 ch (.ref fg)) (P11_ : aN Z h0 fn kkf .null .null) (P12_ : aN Z h0 ln kkl .null .null) (P13_ : Exa Z h0 me sg0) (P14_ : xF0 Z h0 me .null) (P15_ : xF1 Z h0 me (.long wme)) (P16_ : xF2 Z h0 me (.int fme)) (P17_ : xF3 Z h0 me (.int lme)) (Okkf : Ovr Z kkf sg5) (Okkl : Ovr Z kkl sg5) (g_ch : n0 ≤ ch) (g_me : n0 ≤ me) (g_fn : n0 ≤ fn) (g_ln : n0 ≤ ln) (n_ch_fn : ch ≠ fn) (n_ch_ln : ch ≠ ln) (n_ch_me : ch ≠ me) (n_fn_ln : fn ≠ ln) (n_fn_me : fn ≠ me) (n_ln_me : ln ≠ me) (hdr : (own_lanes ldr = (3 : Int32))) :
  oMF l Z mn21 (Jvm.Cond.code mn21 prog_2_method_12_code 2 none) ws (rO 5 2 6 72) #[(.ref ch), (.ref me)] h0 (Q_ib0 Z ch me fn ln bl fg kkf kkl spc fme lme ldr wme hv fev h0 n0) := by
 refine MetFree.of_bodySF (plainFor_of_name pn_ordc) hisR ?_
 intro p e s m args below meth c s₁ Bd hml0 hP hK
 obtain ⟨rfl, hZ, hh⟩ := hP
 have hx := Bd.exec
 have hby := Bd.bytes
 have B : ∀ {pc r}, decode cd21 pc = r → decode c.code pc = r := fun h => hb hby h
 have hml : c.maxLocals = 2 := hml0
 have hown : s.vm.findClass sg3 = some m.cls := findClass_of_methodNamed Bd.named
 have hnm := (name_of_methodNamed Bd.named Bd.method).1
 have X0 : Stand p l e (rO 5 2 6 72) s m #[(.ref ch), (.ref me)] below meth c s₁ [] 0 0 := Stand.of_body Bd
 have e0 : s₁.heap = h0 := by rw [← hh, Bd.state]; rfl
 have N0 := Fr.nil n0
 refine own_in ?_
 refine own_go (S' := s₁.setTop (mkF m 0 #[zr ch, zr me] [])) (fun tgt_ stp_ => castTop (ef_ib0 m ch me) stp_) ?_
 have K0 : Keep h0 h0 [ch, me, fn, ln] := Keep.refl h0 _
 obtain ⟨T_1, X_1, e_1, st_1⟩ := getF X0 hx hZ hown (oV hw 94 rfl) Via.refl e0 P2_ (g := (mkF m 1 #[zr ch, zr me] [(.ref ch)])) rfl rfl (B d21_1)
 obtain ⟨cq_2, q_2, q_2'⟩ := P0_.cell
 obtain ⟨_, _, ⟨T_2, L_2, k_2, n_2⟩, -, X_2, ⟨Lc_2, hQ_2, l_2, y_2, z_2⟩, st_2⟩ := X_1.privateBack hx (y := mn19) hown (oT hZ hw 96 rfl) (oT hZ hw 97 rfl) (psl_5 hZ hw) (oP hZ hw 98 rfl) (oT hZ hw 99 rfl) (by decide) (backOf (W := 0) (rm_ap0 l Z a0 hw [] ch me fn ln bl fg kkf kkl spc fme lme ldr wme hv fev h0 n0 Z0 P0_ P1_ P2_ P3_ P4_ P5_ P6_ P7_ P8_ P9_ P10_ P11_ P12_ P13_ P14_ P15_ P16_ P17_ Okkf Okkl g_ch g_me g_fn g_ln n_ch_fn n_ch_ln n_ch_me n_fn_ln n_fn_me n_ln_me hdr) hZ (oW hw 99 rfl) (oW hw 19 rfl) (by decide) (by decide)) (g := (mkF m 20 #[zr ch, zr me] [(.ref me), (.ref ch)])) rfl (by rw [hml]; rfl) (Steps.refl _) (a := ch) (by rw [e_1]; exact q_2) q_2' (argsL := [(.ref me)]) (rest := []) (lenOf pd12 rfl) rfl (oQ rfl) (B d21_20) (fun _ _ => ⟨rfl, e_1, (by decide : 0 + 2 ≤ _), (by decide : 0 + 6 ≤ _)⟩)
 dsimp only [Pt.U, Pt.locs, Pt.cells, Pt.slots] at X_2 l_2 y_2 z_2 st_2 hQ_2
 subst y_2 z_2
 obtain ⟨nax_2, nbx_2, rfl, N_2q, p_2_0, p_2_1, p_2_2, p_2_3, p_2_4, p_2_5, p_2_6, p_2_7, p_2_8, p_2_9, p_2_10, p_2_11, p_2_12, p_2_13, p_2_14, p_2_15, p_2_16, p_2_17, p_2_18, p_2_19, p_2_20, p_2_21, p_2_22, p_2_23, p_2_24, p_2_25, p_2_26, p_2_27, p_2_28, p_2_29⟩ := hQ_2
 have N_2 : Fr n0 L_2 := by rw [l_2]; exact Fr.app N0 N_2q
 clear l_2
 have Z_3 := Nat.le_trans Z0 p_2_0.1
 have K_4 : Keep h0 T_2.heap [ch, me, fn, ln] := K0.trans p_2_0 fun x q => Or.inl (oM q 0 rfl fun q => oM q 1 rfl fun q => oM q 2 rfl fun q => oM1 q 3 rfl)
 have gn_nax_2 : n0 ≤ nax_2 := Nat.le_trans Z0 p_2_27
 have sz_nax_2 : h0.size ≤ nax_2 := Nat.le_trans K0.1 p_2_27
 have ne_ch_nax_2 : ch ≠ nax_2 := Nat.ne_of_lt (Nat.lt_of_lt_of_le P0_.lt p_2_27)
 have ne_fn_nax_2 : fn ≠ nax_2 := Nat.ne_of_lt (Nat.lt_of_lt_of_le P11_.lt p_2_27)
 have ne_ln_nax_2 : ln ≠ nax_2 := Nat.ne_of_lt (Nat.lt_of_lt_of_le P12_.lt p_2_27)
 have ne_me_nax_2 : me ≠ nax_2 := Nat.ne_of_lt (Nat.lt_of_lt_of_le P13_.lt p_2_27)
 have gn_nbx_2 : n0 ≤ nbx_2 := Nat.le_trans Z0 p_2_28
 have sz_nbx_2 : h0.size ≤ nbx_2 := Nat.le_trans K0.1 p_2_28
 have ne_ch_nbx_2 : ch ≠ nbx_2 := Nat.ne_of_lt (Nat.lt_of_lt_of_le P0_.lt p_2_28)
 have ne_fn_nbx_2 : fn ≠ nbx_2 := Nat.ne_of_lt (Nat.lt_of_lt_of_le P11_.lt p_2_28)
 have ne_ln_nbx_2 : ln ≠ nbx_2 := Nat.ne_of_lt (Nat.lt_of_lt_of_le P12_.lt p_2_28)
 have ne_me_nbx_2 : me ≠ nbx_2 := Nat.ne_of_lt (Nat.lt_of_lt_of_le P13_.lt p_2_28)
 refine own_go (S' := T_2.setTop (mkF m 31 #[zr ch, zr me] [])) (fun target kt => ?_) ?_
 ·
  show oSt p e below s₁ m 0 #[zr ch, zr me] [] target
  refine XS.aloadN X0.here hx rfl (B d21_0) rfl rfl ?_
  refine st_1 _ ?_
  refine XS.ifnullYes X_1.here hx rfl (pc0 := 4) (pc' := 18) rfl (B d21_4) rfl (by decide) (by decide) ?_
  refine XS.aloadN X_1.here hx rfl (B d21_18) rfl rfl ?_
  refine XS.aloadN X_1.here hx rfl (B d21_19) rfl rfl ?_
  refine st_2.trans ?_
  refine XS.goto X_2.here hx rfl (pc0 := 23) (pc' := 31) rfl (B d21_23) (by decide) (by decide) ?_
  exact kt
 obtain ⟨fs, hr, hrun, hended, hW, hsame⟩ := X_2.leave (v := none) (fun _ => rfl)
 refine ⟨_, _, X_2.returnOut hx Bd.returns (B d21_31) hr, hrun, hended, _, _, rfl, ?_, ⟨_, rfl⟩, hW, hsame.mono (by decide) (by decide)⟩
 show Q_ib0 Z ch me fn ln bl fg kkf kkl spc fme lme ldr wme hv fev h0 n0 _ T_2.heap _
 exact ⟨nax_2, nbx_2, rfl, N_2, K_4, p_2_1, p_2_2, p_2_3, p_2_4, p_2_5, p_2_6, p_2_7, p_2_8, p_2_9, p_2_10, p_2_11, p_2_12, p_2_13, p_2_14, p_2_15, p_2_16, p_2_17, p_2_18, p_2_19, p_2_20, p_2_21, p_2_22, p_2_23, p_2_24, p_2_25, p_2_26, sz_nax_2, sz_nbx_2, p_2_29⟩
-- com/example/carillon/carillon/Chain.insertBehindFinger:(Lcom/example/carillon/carillon/Message;)V
theorem d21_7 : decode cd21 7 = .ok (.aload_n 1, 1) := by decide +kernel
theorem d21_8 : decode cd21 8 = .ok (.aload_n 0, 1) := by decide +kernel
theorem d21_9 : decode cd21 9 = .ok (.getfield 38, 3) := by decide +kernel
theorem d21_12 : decode cd21 12 = .ok (.invokestatic 75, 3) := by decide +kernel
theorem d21_15 : decode cd21 15 = .ok (.ifCond .eq 11, 3) := by decide +kernel
def Q_ibe (Z : State) (ch me mt fn ln bl fg : Addr) (spc fmt lmt fme lme : Int32) (ldr wmt wme : Int64) (hv spv fev : Value) (h0 : Heap) (n0 : Nat) (v : Option Value) (h : Heap) (L : List Loc) : Prop := v = none ∧ Fr n0 L ∧ Keep h0 h [ch, me, mt] ∧ Exa Z h ch sg3 ∧ xF8 Z h ch hv ∧ xF9 Z h ch (.ref me) ∧ xF10 Z h ch (.ref fn) ∧ xF11 Z h ch (.ref ln) ∧ xF12 Z h ch (.ref bl) ∧ xF13 Z h ch spv ∧ xF14 Z h ch (.int spc) ∧ xF15 Z h ch (.long (own_next ldr)) ∧ xF16 Z h ch fev ∧ xF17 Z h ch (.ref fg) ∧ Exa Z h mt sg0 ∧ xF0 Z h mt (.ref me) ∧ xF1 Z h mt (.long wmt) ∧ xF2 Z h mt (.int fmt) ∧ xF3 Z h mt (.int lmt) ∧ Exa Z h me sg0 ∧ xF0 Z h me .null ∧ xF1 Z h me (.long wme) ∧ xF2 Z h me (.int fme) ∧ xF3 Z h me (.int (1 : Int32))
set_option maxRecDepth 65536 in
set_option maxHeartbeats 40000000 in
theorem rm_ibe (l : Launch) (Z : State) (a0 : Array Value) (hw : hwT Z a0) (ws : List Jvm.Cond) (ch me mt fn ln bl fg : Addr) (spc fmt lmt fme lme : Int32) (ldr wmt wme : Int64) (hv spv fev : Value) (h0 : Heap) (n0 : Nat) (Z0 : n0 ≤ h0.size) (P0_ : Exa Z h0 ch sg3) (P1_ : xF8 Z h0 ch hv) (P2_ : xF9 Z h0 ch (.ref mt)) (P3_ : xF10 Z h0 ch (.ref fn)) (P4_ : xF11 Z h0 ch (.ref ln)) (P5_ : xF12 Z h0 ch (.ref bl)) (P6_ : xF13 Z h0 ch spv) (P7_ : xF14 Z h0 ch (.int spc)) (P8_ : xF15 Z h0 ch (.long ldr)) (P9_ : xF16 Z h0 ch fev) (P10_ : xF17 Z h0 ch (.ref fg)) (P11_ : Exa Z h0 mt sg0) (P12_ : xF0 Z h0 mt .null) (P13_ : xF1 Z h0 mt (.long wmt)) (P14_ : xF2 Z h0 mt (.int fmt)) (P15_ : xF3 Z h0 mt (.int lmt)) (P16_ : Exa Z h0 me sg0) (P17_ : xF0 Z h0 me .null) (P18_ : xF1 Z h0 me (.long wme)) (P19_ : xF2 Z h0 me (.int fme)) (P20_ : xF3 Z h0 me (.int lme)) (g_ch : n0 ≤ ch) (g_me : n0 ≤ me) (g_mt : n0 ≤ mt) (n_ch_mt : ch ≠ mt) (n_ch_me : ch ≠ me) (n_mt_me : mt ≠ me) (hdr : (own_lanes ldr = (1 : Int32))) (hgt : (¬ ((own_gb fme wme fmt wmt) = (0 : Int32)))) :
  oMF l Z mn21 (Jvm.Cond.code mn21 prog_2_method_12_code 2 none) ws (rO 4 0 0 57) #[(.ref ch), (.ref me)] h0 (Q_ibe Z ch me mt fn ln bl fg spc fmt lmt fme lme ldr wmt wme hv spv fev h0 n0) := by
 refine MetFree.of_bodySF (plainFor_of_name pn_ordc) hisR ?_
 intro p e s m args below meth c s₁ Bd hml0 hP hK
 obtain ⟨rfl, hZ, hh⟩ := hP
 have hx := Bd.exec
 have hby := Bd.bytes
 have B : ∀ {pc r}, decode cd21 pc = r → decode c.code pc = r := fun h => hb hby h
 have hml : c.maxLocals = 2 := hml0
 have hown : s.vm.findClass sg3 = some m.cls := findClass_of_methodNamed Bd.named
 have hnm := (name_of_methodNamed Bd.named Bd.method).1
 have X0 : Stand p l e (rO 4 0 0 57) s m #[(.ref ch), (.ref me)] below meth c s₁ [] 0 0 := Stand.of_body Bd
 have e0 : s₁.heap = h0 := by rw [← hh, Bd.state]; rfl
 have N0 := Fr.nil n0
 refine own_in ?_
 refine own_go (S' := s₁.setTop (mkF m 0 #[zr ch, zr me] [])) (fun tgt_ stp_ => castTop (ef_ib0 m ch me) stp_) ?_
 have K0 : Keep h0 h0 [ch, me, mt] := Keep.refl h0 _
 obtain ⟨T_1, X_1, e_1, st_1⟩ := getF X0 hx hZ hown (oV hw 94 rfl) Via.refl e0 P2_ (g := (mkF m 1 #[zr ch, zr me] [(.ref ch)])) rfl rfl (B d21_1)
 obtain ⟨T_2, X_2, e_2, st_2⟩ := getF X_1 hx hZ hown (oV hw 94 rfl) Via.refl e_1 P2_ (g := (mkF m 9 #[zr ch, zr me] [(.ref ch), (.ref me)])) rfl rfl (B d21_9)
 obtain ⟨_, _, ⟨T_3, L_3, k_3, n_3⟩, -, X_3, ⟨Lc_3, hQ_3, l_3, y_3, z_3⟩, st_3⟩ := Jvm.LawKit.callS X_2 hx (y := mn4) hown (oT hZ hw 148 rfl) (oT hZ hw 149 rfl) (oT hZ hw 19 rfl) (oT hZ hw 150 rfl) (by decide) (backOf (W := 0) (rm_gb l Z a0 hw [] me mt fme wme fmt wmt h0 n0 Z0 P19_ P18_ P14_ P13_) hZ (oW hw 150 rfl) (oW hw 19 rfl) (by decide) (by decide)) (g := (mkF m 12 #[zr ch, zr me] [(.ref mt), (.ref me)])) rfl (by rw [hml]; rfl) (argsL := [(.ref me), (.ref mt)]) (rest := []) (lenOf pd11 rfl) rfl (oQ rfl) (B d21_12) (fun _ _ => ⟨rfl, e_2, (by decide : 0 + 0 ≤ _), (by decide : 0 + 0 ≤ _)⟩)
 dsimp only [Pt.U, Pt.locs, Pt.cells, Pt.slots] at X_3 l_3 y_3 z_3 st_3 hQ_3
 subst y_3 z_3
 obtain ⟨rfl, N_3q, p_3_0⟩ := hQ_3
 have N_3 : Fr n0 L_3 := by rw [l_3]; exact Fr.app N0 N_3q
 clear l_3
 obtain ⟨cq_4, q_4, q_4'⟩ := P0_.cell
 obtain ⟨_, _, ⟨T_4, L_4, k_4, n_4⟩, -, X_4, ⟨Lc_4, hQ_4, l_4, y_4, z_4⟩, st_4⟩ := X_3.privateBack hx (y := mn19) hown (oT hZ hw 96 rfl) (oT hZ hw 97 rfl) (psl_5 hZ hw) (oP hZ hw 98 rfl) (oT hZ hw 99 rfl) (by decide) (backOf (W := 0) (rm_ap1 l Z a0 hw [] ch me mt fn ln bl fg spc fmt lmt fme lme ldr wmt wme hv spv fev h0 n0 Z0 P0_ P1_ P2_ P3_ P4_ P5_ P6_ P7_ P8_ P9_ P10_ P11_ P12_ P13_ P14_ P15_ P16_ P17_ P18_ P19_ P20_ g_ch g_me g_mt n_ch_mt n_ch_me n_mt_me hdr) hZ (oW hw 99 rfl) (oW hw 19 rfl) (by decide) (by decide)) (g := (mkF m 20 #[zr ch, zr me] [(.ref me), (.ref ch)])) rfl (by rw [hml]; rfl) (Steps.refl _) (a := ch) (by rw [p_3_0]; exact q_4) q_4' (argsL := [(.ref me)]) (rest := []) (lenOf pd12 rfl) rfl (oQ rfl) (B d21_20) (fun _ _ => ⟨rfl, p_3_0, (by decide : 0 + 0 ≤ _), (by decide : 0 + 0 ≤ _)⟩)
 dsimp only [Pt.U, Pt.locs, Pt.cells, Pt.slots] at X_4 l_4 y_4 z_4 st_4 hQ_4
 subst y_4 z_4
 obtain ⟨rfl, N_4q, p_4_0, p_4_1, p_4_2, p_4_3, p_4_4, p_4_5, p_4_6, p_4_7, p_4_8, p_4_9, p_4_10, p_4_11, p_4_12, p_4_13, p_4_14, p_4_15, p_4_16, p_4_17, p_4_18, p_4_19, p_4_20, p_4_21⟩ := hQ_4
 have N_4 : Fr n0 L_4 := by rw [l_4]; exact Fr.app N_3 N_4q
 clear l_4
 have Z_5 := Nat.le_trans Z0 p_4_0.1
 have K_6 : Keep h0 T_4.heap [ch, me, mt] := K0.trans p_4_0 fun x q => Or.inl (oM q 0 rfl fun q => oM q 1 rfl fun q => oM1 q 2 rfl)
 refine own_go (S' := T_4.setTop (mkF m 31 #[zr ch, zr me] [])) (fun target kt => ?_) ?_
 ·
  show oSt p e below s₁ m 0 #[zr ch, zr me] [] target
  refine XS.aloadN X0.here hx rfl (B d21_0) rfl rfl ?_
  refine st_1 _ ?_
  refine XS.ifnullNo X_1.here hx rfl (B d21_4) rfl ?_
  refine XS.aloadN X_1.here hx rfl (B d21_7) rfl rfl ?_
  refine XS.aloadN X_1.here hx rfl (B d21_8) rfl rfl ?_
  refine st_2 _ ?_
  refine st_3 _ ?_
  refine XS.ifNo X_3.here hx rfl (B d21_15) rfl ((if0 _ _).trans (feq hgt).1) ?_
  refine XS.aloadN X_3.here hx rfl (B d21_18) rfl rfl ?_
  refine XS.aloadN X_3.here hx rfl (B d21_19) rfl rfl ?_
  refine st_4.trans ?_
  refine XS.goto X_4.here hx rfl (pc0 := 23) (pc' := 31) rfl (B d21_23) (by decide) (by decide) ?_
  exact kt
 obtain ⟨fs, hr, hrun, hended, hW, hsame⟩ := X_4.leave (v := none) (fun _ => rfl)
 refine ⟨_, _, X_4.returnOut hx Bd.returns (B d21_31) hr, hrun, hended, _, _, rfl, ?_, ⟨_, rfl⟩, hW, hsame.mono (by decide) (by decide)⟩
 show Q_ibe Z ch me mt fn ln bl fg spc fmt lmt fme lme ldr wmt wme hv spv fev h0 n0 _ T_4.heap _
 exact ⟨rfl, N_4, K_6, p_4_1, p_4_2, p_4_3, p_4_4, p_4_5, p_4_6, p_4_7, p_4_8, p_4_9, p_4_10, p_4_11, p_4_12, p_4_13, p_4_14, p_4_15, p_4_16, p_4_17, p_4_18, p_4_19, p_4_20, p_4_21⟩
-- com/example/carillon/carillon/Chain.insertBehindFinger:(Lcom/example/carillon/carillon/Message;)V
theorem d21_26 : decode cd21 26 = .ok (.aload_n 0, 1) := by decide +kernel
theorem d21_27 : decode cd21 27 = .ok (.aload_n 1, 1) := by decide +kernel
theorem d21_28 : decode cd21 28 = .ok (.invokevirtual 110, 3) := by decide +kernel
def Q_ibf (Z : State) (ch me mx my fn ln bl fg na nb : Addr) (kkg kkf : ClassId) (spc fmx fmy fme lme : Int32) (ldr wmx wmy wme : Int64) (spv u0 u1 ev ra ew rb db : Value) (h0 : Heap) (n0 : Nat) (v : Option Value) (h : Heap) (L : List Loc) : Prop := v = none ∧ Fr n0 L ∧ Keep h0 h [ch, me] ∧ Exa Z h ch sg3 ∧ xF8 Z h ch (.ref me) ∧ xF9 Z h ch (.ref my) ∧ xF10 Z h ch (.ref fn) ∧ xF11 Z h ch (.ref ln) ∧ xF12 Z h ch (.ref bl) ∧ xF13 Z h ch spv ∧ xF14 Z h ch (.int spc) ∧ xF15 Z h ch (.long (own_next ldr)) ∧ xF16 Z h ch (.ref me) ∧ xF17 Z h ch (.ref fg) ∧ Exa Z h me sg0 ∧ xF0 Z h me (.ref mx) ∧ xF1 Z h me (.long wme) ∧ xF2 Z h me (.int fme) ∧ xF3 Z h me (.int (1 : Int32))
set_option maxRecDepth 65536 in
set_option maxHeartbeats 40000000 in
theorem rm_ibf (l : Launch) (Z : State) (a0 : Array Value) (hw : hwT Z a0) (ws : List Jvm.Cond) (ch me mx my fn ln bl fg na nb : Addr) (kkg kkf : ClassId) (spc fmx fmy fme lme : Int32) (ldr wmx wmy wme : Int64) (spv u0 u1 ev ra ew rb db : Value) (h0 : Heap) (n0 : Nat) (Z0 : n0 ≤ h0.size) (P0_ : Exa Z h0 ch sg3) (P1_ : xF8 Z h0 ch (.ref mx)) (P2_ : xF9 Z h0 ch (.ref my)) (P3_ : xF10 Z h0 ch (.ref fn)) (P4_ : xF11 Z h0 ch (.ref ln)) (P5_ : xF12 Z h0 ch (.ref bl)) (P6_ : xF13 Z h0 ch spv) (P7_ : xF14 Z h0 ch (.int spc)) (P8_ : xF15 Z h0 ch (.long ldr)) (P9_ : xF16 Z h0 ch .null) (P10_ : xF17 Z h0 ch (.ref fg)) (P11_ : aN Z h0 fg kkg .null .null) (P12_ : aN Z h0 fn kkf u0 u1) (P13_ : Exa Z h0 na sg5) (P14_ : xF18 Z h0 na ev) (P15_ : xF19 Z h0 na ra) (P16_ : Exa Z h0 nb sg5) (P17_ : xF18 Z h0 nb ew) (P18_ : xF19 Z h0 nb rb) (P19_ : xF20 Z h0 nb db) (P20_ : Exa Z h0 mx sg0) (P21_ : xF1 Z h0 mx (.long wmx)) (P22_ : xF2 Z h0 mx (.int fmx)) (P23_ : Exa Z h0 my sg0) (P24_ : xF1 Z h0 my (.long wmy)) (P25_ : xF2 Z h0 my (.int fmy)) (P26_ : Exa Z h0 me sg0) (P27_ : xF0 Z h0 me .null) (P28_ : xF1 Z h0 me (.long wme)) (P29_ : xF2 Z h0 me (.int fme)) (P30_ : xF3 Z h0 me (.int lme)) (g_ch : n0 ≤ ch) (g_me : n0 ≤ me) (n_ch_fg : ch ≠ fg) (n_ch_fn : ch ≠ fn) (n_ch_na : ch ≠ na) (n_ch_nb : ch ≠ nb) (n_ch_mx : ch ≠ mx) (n_ch_my : ch ≠ my) (n_ch_me : ch ≠ me) (n_fg_me : fg ≠ me) (n_fn_me : fn ≠ me) (n_na_me : na ≠ me) (n_nb_me : nb ≠ me) (n_mx_me : mx ≠ me) (n_my_me : my ≠ me) (hdr : (own_lanes ldr = (1 : Int32))) (hgx : ((own_gb fme wme fmx wmx) = (0 : Int32))) (hgy : ((own_gb fme wme fmy wmy) = (0 : Int32))) (hDD : (own_DD u0 u1 ev ew ra rb db na nb mx my)) :
  oMF l Z mn21 (Jvm.Cond.code mn21 prog_2_method_12_code 2 none) ws (rO 4 0 0 62) #[(.ref ch), (.ref me)] h0 (Q_ibf Z ch me mx my fn ln bl fg na nb kkg kkf spc fmx fmy fme lme ldr wmx wmy wme spv u0 u1 ev ra ew rb db h0 n0) := by
 refine MetFree.of_bodySF (plainFor_of_name pn_ordc) hisR ?_
 intro p e s m args below meth c s₁ Bd hml0 hP hK
 obtain ⟨rfl, hZ, hh⟩ := hP
 have hx := Bd.exec
 have hby := Bd.bytes
 have B : ∀ {pc r}, decode cd21 pc = r → decode c.code pc = r := fun h => hb hby h
 have hml : c.maxLocals = 2 := hml0
 have hown : s.vm.findClass sg3 = some m.cls := findClass_of_methodNamed Bd.named
 have hnm := (name_of_methodNamed Bd.named Bd.method).1
 have X0 : Stand p l e (rO 4 0 0 62) s m #[(.ref ch), (.ref me)] below meth c s₁ [] 0 0 := Stand.of_body Bd
 have e0 : s₁.heap = h0 := by rw [← hh, Bd.state]; rfl
 have N0 := Fr.nil n0
 refine own_in ?_
 refine own_go (S' := s₁.setTop (mkF m 0 #[zr ch, zr me] [])) (fun tgt_ stp_ => castTop (ef_ib0 m ch me) stp_) ?_
 have K0 : Keep h0 h0 [ch, me] := Keep.refl h0 _
 obtain ⟨T_1, X_1, e_1, st_1⟩ := getF X0 hx hZ hown (oV hw 94 rfl) Via.refl e0 P2_ (g := (mkF m 1 #[zr ch, zr me] [(.ref ch)])) rfl rfl (B d21_1)
 obtain ⟨T_2, X_2, e_2, st_2⟩ := getF X_1 hx hZ hown (oV hw 94 rfl) Via.refl e_1 P2_ (g := (mkF m 9 #[zr ch, zr me] [(.ref ch), (.ref me)])) rfl rfl (B d21_9)
 obtain ⟨_, _, ⟨T_3, L_3, k_3, n_3⟩, -, X_3, ⟨Lc_3, hQ_3, l_3, y_3, z_3⟩, st_3⟩ := Jvm.LawKit.callS X_2 hx (y := mn4) hown (oT hZ hw 148 rfl) (oT hZ hw 149 rfl) (oT hZ hw 19 rfl) (oT hZ hw 150 rfl) (by decide) (backOf (W := 0) (rm_gb l Z a0 hw [] me my fme wme fmy wmy h0 n0 Z0 P29_ P28_ P25_ P24_) hZ (oW hw 150 rfl) (oW hw 19 rfl) (by decide) (by decide)) (g := (mkF m 12 #[zr ch, zr me] [(.ref my), (.ref me)])) rfl (by rw [hml]; rfl) (argsL := [(.ref me), (.ref my)]) (rest := []) (lenOf pd11 rfl) rfl (oQ rfl) (B d21_12) (fun _ _ => ⟨rfl, e_2, (by decide : 0 + 0 ≤ _), (by decide : 0 + 0 ≤ _)⟩)
 dsimp only [Pt.U, Pt.locs, Pt.cells, Pt.slots] at X_3 l_3 y_3 z_3 st_3 hQ_3
 subst y_3 z_3
 obtain ⟨rfl, N_3q, p_3_0⟩ := hQ_3
 have N_3 : Fr n0 L_3 := by rw [l_3]; exact Fr.app N0 N_3q
 clear l_3
 obtain ⟨cq_4, q_4, q_4'⟩ := P0_.cell
 obtain ⟨_, _, ⟨T_4, L_4, k_4, n_4⟩, -, X_4, ⟨Lc_4, hQ_4, l_4, y_4, z_4⟩, st_4⟩ := X_3.privateBack hx (y := mn20) hown (oT hZ hw 152 rfl) (oT hZ hw 153 rfl) (psl_6 hZ hw) (oP hZ hw 154 rfl) (oT hZ hw 155 rfl) (by decide) (backOf (W := 0) (rm_lbf l Z a0 hw [] ch me mx my fn ln bl fg _ _ kkg kkf spc fmx fmy fme lme ldr wmx wmy wme spv u0 u1 ev ra ew rb db h0 n0 Z0 P0_ P1_ P2_ P3_ P4_ P5_ P6_ P7_ P8_ P9_ P10_ P11_ P12_ P13_ P14_ P15_ P16_ P17_ P18_ P19_ P20_ P21_ P22_ P23_ P24_ P25_ P26_ P27_ P28_ P29_ P30_ g_ch g_me n_ch_fg n_ch_fn n_ch_na n_ch_nb n_ch_mx n_ch_my n_ch_me n_fg_me n_fn_me n_na_me n_nb_me n_mx_me n_my_me hdr hgx hgy hDD) hZ (oW hw 155 rfl) (oW hw 19 rfl) (by decide) (by decide)) (g := (mkF m 28 #[zr ch, zr me] [(.ref me), (.ref ch)])) rfl (by rw [hml]; rfl) (Steps.refl _) (a := ch) (by rw [p_3_0]; exact q_4) q_4' (argsL := [(.ref me)]) (rest := []) (lenOf pd12 rfl) rfl (oQ rfl) (B d21_28) (fun _ _ => ⟨rfl, p_3_0, (by decide : 0 + 0 ≤ _), (by decide : 0 + 0 ≤ _)⟩)
 dsimp only [Pt.U, Pt.locs, Pt.cells, Pt.slots] at X_4 l_4 y_4 z_4 st_4 hQ_4
 subst y_4 z_4
 obtain ⟨rfl, N_4q, p_4_0, p_4_1, p_4_2, p_4_3, p_4_4, p_4_5, p_4_6, p_4_7, p_4_8, p_4_9, p_4_10, p_4_11, p_4_12, p_4_13, p_4_14, p_4_15, p_4_16⟩ := hQ_4
 have N_4 : Fr n0 L_4 := by rw [l_4]; exact Fr.app N_3 N_4q
 clear l_4
 have Z_5 := Nat.le_trans Z0 p_4_0.1
 have K_6 : Keep h0 T_4.heap [ch, me] := K0.trans p_4_0 fun x q => Or.inl (oM q 0 rfl fun q => oM1 q 1 rfl)
 refine own_go (S' := T_4.setTop (mkF m 31 #[zr ch, zr me] [])) (fun target kt => ?_) ?_
 ·
  show oSt p e below s₁ m 0 #[zr ch, zr me] [] target
  refine XS.aloadN X0.here hx rfl (B d21_0) rfl rfl ?_
  refine st_1 _ ?_
  refine XS.ifnullNo X_1.here hx rfl (B d21_4) rfl ?_
  refine XS.aloadN X_1.here hx rfl (B d21_7) rfl rfl ?_
  refine XS.aloadN X_1.here hx rfl (B d21_8) rfl rfl ?_
  refine st_2 _ ?_
  refine st_3 _ ?_
  refine XS.ifYes X_3.here hx rfl (pc0 := 15) (pc' := 26) rfl (B d21_15) rfl ((if0 _ _).trans (teq hgy).1) (by decide) (by decide) ?_
  refine XS.aloadN X_3.here hx rfl (B d21_26) rfl rfl ?_
  refine XS.aloadN X_3.here hx rfl (B d21_27) rfl rfl ?_
  refine st_4.trans ?_
  exact kt
 obtain ⟨fs, hr, hrun, hended, hW, hsame⟩ := X_4.leave (v := none) (fun _ => rfl)
 refine ⟨_, _, X_4.returnOut hx Bd.returns (B d21_31) hr, hrun, hended, _, _, rfl, ?_, ⟨_, rfl⟩, hW, hsame.mono (by decide) (by decide)⟩
 show Q_ibf Z ch me mx my fn ln bl fg na nb kkg kkf spc fmx fmy fme lme ldr wmx wmy wme spv u0 u1 ev ra ew rb db h0 n0 _ T_4.heap _
 exact ⟨rfl, N_4, K_6, p_4_1, p_4_2, p_4_3, p_4_4, p_4_5, p_4_6, p_4_7, p_4_8, p_4_9, p_4_10, p_4_11, p_4_12, p_4_13, p_4_14, p_4_15, p_4_16⟩
-- com/example/carillon/carillon/Chain.insertBehindFinger:(Lcom/example/carillon/carillon/Message;)V
def Q_ibm (Z : State) (ch me mx my fn ln bl fg na nb : Addr) (kkg kkf : ClassId) (spc fmx lmx fmy fme lme : Int32) (ldr wmx wmy wme : Int64) (spv u0 u1 ev ra ew rb db : Value) (h0 : Heap) (n0 : Nat) (v : Option Value) (h : Heap) (L : List Loc) : Prop := ∃ (g0 : Value), ∃ (g1 : Value), v = none ∧ Fr n0 L ∧ Keep h0 h [ch, me, mx, fg] ∧ Exa Z h ch sg3 ∧ xF8 Z h ch (.ref mx) ∧ xF9 Z h ch (.ref my) ∧ xF10 Z h ch (.ref fn) ∧ xF11 Z h ch (.ref ln) ∧ xF12 Z h ch (.ref bl) ∧ xF13 Z h ch spv ∧ xF14 Z h ch (.int spc) ∧ xF15 Z h ch (.long (own_next ldr)) ∧ xF16 Z h ch (.ref me) ∧ xF17 Z h ch (.ref fg) ∧ aN Z h fg kkg g0 g1 ∧ Exa Z h mx sg0 ∧ xF0 Z h mx (.ref me) ∧ xF1 Z h mx (.long wmx) ∧ xF2 Z h mx (.int fmx) ∧ xF3 Z h mx (.int lmx) ∧ Exa Z h me sg0 ∧ xF0 Z h me (.ref my) ∧ xF1 Z h me (.long wme) ∧ xF2 Z h me (.int fme) ∧ xF3 Z h me (.int (1 : Int32))
set_option maxRecDepth 65536 in
set_option maxHeartbeats 40000000 in
theorem rm_ibm (l : Launch) (Z : State) (a0 : Array Value) (hw : hwT Z a0) (ws : List Jvm.Cond) (ch me mx my fn ln bl fg na nb : Addr) (kkg kkf : ClassId) (spc fmx lmx fmy fme lme : Int32) (ldr wmx wmy wme : Int64) (spv u0 u1 ev ra ew rb db : Value) (h0 : Heap) (n0 : Nat) (Z0 : n0 ≤ h0.size) (P0_ : Exa Z h0 ch sg3) (P1_ : xF8 Z h0 ch (.ref mx)) (P2_ : xF9 Z h0 ch (.ref my)) (P3_ : xF10 Z h0 ch (.ref fn)) (P4_ : xF11 Z h0 ch (.ref ln)) (P5_ : xF12 Z h0 ch (.ref bl)) (P6_ : xF13 Z h0 ch spv) (P7_ : xF14 Z h0 ch (.int spc)) (P8_ : xF15 Z h0 ch (.long ldr)) (P9_ : xF16 Z h0 ch .null) (P10_ : xF17 Z h0 ch (.ref fg)) (P11_ : aN Z h0 fg kkg .null .null) (P12_ : aN Z h0 fn kkf u0 u1) (P13_ : Exa Z h0 na sg5) (P14_ : xF18 Z h0 na ev) (P15_ : xF19 Z h0 na ra) (P16_ : Exa Z h0 nb sg5) (P17_ : xF18 Z h0 nb ew) (P18_ : xF19 Z h0 nb rb) (P19_ : xF20 Z h0 nb db) (P20_ : Exa Z h0 mx sg0) (P21_ : xF0 Z h0 mx (.ref my)) (P22_ : xF1 Z h0 mx (.long wmx)) (P23_ : xF2 Z h0 mx (.int fmx)) (P24_ : xF3 Z h0 mx (.int lmx)) (P25_ : Exa Z h0 my sg0) (P26_ : xF1 Z h0 my (.long wmy)) (P27_ : xF2 Z h0 my (.int fmy)) (P28_ : Exa Z h0 me sg0) (P29_ : xF0 Z h0 me .null) (P30_ : xF1 Z h0 me (.long wme)) (P31_ : xF2 Z h0 me (.int fme)) (P32_ : xF3 Z h0 me (.int lme)) (Okkg : Ovr Z kkg sg5) (g_ch : n0 ≤ ch) (g_me : n0 ≤ me) (g_mx : n0 ≤ mx) (g_fg : n0 ≤ fg) (n_ch_fg : ch ≠ fg) (n_ch_fn : ch ≠ fn) (n_ch_na : ch ≠ na) (n_ch_nb : ch ≠ nb) (n_ch_mx : ch ≠ mx) (n_ch_my : ch ≠ my) (n_ch_me : ch ≠ me) (n_fg_fn : fg ≠ fn) (n_fg_na : fg ≠ na) (n_fg_nb : fg ≠ nb) (n_fg_mx : fg ≠ mx) (n_fg_my : fg ≠ my) (n_fg_me : fg ≠ me) (n_fn_mx : fn ≠ mx) (n_fn_me : fn ≠ me) (n_na_mx : na ≠ mx) (n_na_me : na ≠ me) (n_nb_mx : nb ≠ mx) (n_nb_me : nb ≠ me) (n_mx_my : mx ≠ my) (n_mx_me : mx ≠ me) (n_my_me : my ≠ me) (hdr : (own_lanes ldr = (1 : Int32))) (hgx : (¬ ((own_gb fme wme fmx wmx) = (0 : Int32)))) (hgy : ((own_gb fme wme fmy wmy) = (0 : Int32))) (hDD : (own_DD u0 u1 ev ew ra rb db na nb mx my)) :
  oMF l Z mn21 (Jvm.Cond.code mn21 prog_2_method_12_code 2 none) ws (rO 4 0 0 62) #[(.ref ch), (.ref me)] h0 (Q_ibm Z ch me mx my fn ln bl fg na nb kkg kkf spc fmx lmx fmy fme lme ldr wmx wmy wme spv u0 u1 ev ra ew rb db h0 n0) := by
 refine MetFree.of_bodySF (plainFor_of_name pn_ordc) hisR ?_
 intro p e s m args below meth c s₁ Bd hml0 hP hK
 obtain ⟨rfl, hZ, hh⟩ := hP
 have hx := Bd.exec
 have hby := Bd.bytes
 have B : ∀ {pc r}, decode cd21 pc = r → decode c.code pc = r := fun h => hb hby h
 have hml : c.maxLocals = 2 := hml0
 have hown : s.vm.findClass sg3 = some m.cls := findClass_of_methodNamed Bd.named
 have hnm := (name_of_methodNamed Bd.named Bd.method).1
 have X0 : Stand p l e (rO 4 0 0 62) s m #[(.ref ch), (.ref me)] below meth c s₁ [] 0 0 := Stand.of_body Bd
 have e0 : s₁.heap = h0 := by rw [← hh, Bd.state]; rfl
 have N0 := Fr.nil n0
 refine own_in ?_
 refine own_go (S' := s₁.setTop (mkF m 0 #[zr ch, zr me] [])) (fun tgt_ stp_ => castTop (ef_ib0 m ch me) stp_) ?_
 have K0 : Keep h0 h0 [ch, me, mx, fg] := Keep.refl h0 _
 obtain ⟨T_1, X_1, e_1, st_1⟩ := getF X0 hx hZ hown (oV hw 94 rfl) Via.refl e0 P2_ (g := (mkF m 1 #[zr ch, zr me] [(.ref ch)])) rfl rfl (B d21_1)
 obtain ⟨T_2, X_2, e_2, st_2⟩ := getF X_1 hx hZ hown (oV hw 94 rfl) Via.refl e_1 P2_ (g := (mkF m 9 #[zr ch, zr me] [(.ref ch), (.ref me)])) rfl rfl (B d21_9)
 obtain ⟨_, _, ⟨T_3, L_3, k_3, n_3⟩, -, X_3, ⟨Lc_3, hQ_3, l_3, y_3, z_3⟩, st_3⟩ := Jvm.LawKit.callS X_2 hx (y := mn4) hown (oT hZ hw 148 rfl) (oT hZ hw 149 rfl) (oT hZ hw 19 rfl) (oT hZ hw 150 rfl) (by decide) (backOf (W := 0) (rm_gb l Z a0 hw [] me my fme wme fmy wmy h0 n0 Z0 P31_ P30_ P27_ P26_) hZ (oW hw 150 rfl) (oW hw 19 rfl) (by decide) (by decide)) (g := (mkF m 12 #[zr ch, zr me] [(.ref my), (.ref me)])) rfl (by rw [hml]; rfl) (argsL := [(.ref me), (.ref my)]) (rest := []) (lenOf pd11 rfl) rfl (oQ rfl) (B d21_12) (fun _ _ => ⟨rfl, e_2, (by decide : 0 + 0 ≤ _), (by decide : 0 + 0 ≤ _)⟩)
 dsimp only [Pt.U, Pt.locs, Pt.cells, Pt.slots] at X_3 l_3 y_3 z_3 st_3 hQ_3
 subst y_3 z_3
 obtain ⟨rfl, N_3q, p_3_0⟩ := hQ_3
 have N_3 : Fr n0 L_3 := by rw [l_3]; exact Fr.app N0 N_3q
 clear l_3
 obtain ⟨cq_4, q_4, q_4'⟩ := P0_.cell
 obtain ⟨_, _, ⟨T_4, L_4, k_4, n_4⟩, -, X_4, ⟨Lc_4, hQ_4, l_4, y_4, z_4⟩, st_4⟩ := X_3.privateBack hx (y := mn20) hown (oT hZ hw 152 rfl) (oT hZ hw 153 rfl) (psl_6 hZ hw) (oP hZ hw 154 rfl) (oT hZ hw 155 rfl) (by decide) (backOf (W := 0) (rm_lbm l Z a0 hw [] ch me mx my fn ln bl fg _ _ kkg kkf spc fmx lmx fmy fme lme ldr wmx wmy wme spv u0 u1 ev ra ew rb db h0 n0 Z0 P0_ P1_ P2_ P3_ P4_ P5_ P6_ P7_ P8_ P9_ P10_ P11_ P12_ P13_ P14_ P15_ P16_ P17_ P18_ P19_ P20_ P21_ P22_ P23_ P24_ P25_ P26_ P27_ P28_ P29_ P30_ P31_ P32_ Okkg g_ch g_me g_mx g_fg n_ch_fg n_ch_fn n_ch_na n_ch_nb n_ch_mx n_ch_my n_ch_me n_fg_fn n_fg_na n_fg_nb n_fg_mx n_fg_my n_fg_me n_fn_mx n_fn_me n_na_mx n_na_me n_nb_mx n_nb_me n_mx_my n_mx_me n_my_me hdr hgx hgy hDD) hZ (oW hw 155 rfl) (oW hw 19 rfl) (by decide) (by decide)) (g := (mkF m 28 #[zr ch, zr me] [(.ref me), (.ref ch)])) rfl (by rw [hml]; rfl) (Steps.refl _) (a := ch) (by rw [p_3_0]; exact q_4) q_4' (argsL := [(.ref me)]) (rest := []) (lenOf pd12 rfl) rfl (oQ rfl) (B d21_28) (fun _ _ => ⟨rfl, p_3_0, (by decide : 0 + 0 ≤ _), (by decide : 0 + 0 ≤ _)⟩)
 dsimp only [Pt.U, Pt.locs, Pt.cells, Pt.slots] at X_4 l_4 y_4 z_4 st_4 hQ_4
 subst y_4 z_4
 obtain ⟨g0x_4, g1x_4, rfl, N_4q, p_4_0, p_4_1, p_4_2, p_4_3, p_4_4, p_4_5, p_4_6, p_4_7, p_4_8, p_4_9, p_4_10, p_4_11, p_4_12, p_4_13, p_4_14, p_4_15, p_4_16, p_4_17, p_4_18, p_4_19, p_4_20, p_4_21, p_4_22⟩ := hQ_4
 have N_4 : Fr n0 L_4 := by rw [l_4]; exact Fr.app N_3 N_4q
 clear l_4
 have Z_5 := Nat.le_trans Z0 p_4_0.1
 have K_6 : Keep h0 T_4.heap [ch, me, mx, fg] := K0.trans p_4_0 fun x q => Or.inl (oM q 0 rfl fun q => oM q 1 rfl fun q => oM q 2 rfl fun q => oM1 q 3 rfl)
 refine own_go (S' := T_4.setTop (mkF m 31 #[zr ch, zr me] [])) (fun target kt => ?_) ?_
 ·
  show oSt p e below s₁ m 0 #[zr ch, zr me] [] target
  refine XS.aloadN X0.here hx rfl (B d21_0) rfl rfl ?_
  refine st_1 _ ?_
  refine XS.ifnullNo X_1.here hx rfl (B d21_4) rfl ?_
  refine XS.aloadN X_1.here hx rfl (B d21_7) rfl rfl ?_
  refine XS.aloadN X_1.here hx rfl (B d21_8) rfl rfl ?_
  refine st_2 _ ?_
  refine st_3 _ ?_
  refine XS.ifYes X_3.here hx rfl (pc0 := 15) (pc' := 26) rfl (B d21_15) rfl ((if0 _ _).trans (teq hgy).1) (by decide) (by decide) ?_
  refine XS.aloadN X_3.here hx rfl (B d21_26) rfl rfl ?_
  refine XS.aloadN X_3.here hx rfl (B d21_27) rfl rfl ?_
  refine st_4.trans ?_
  exact kt
 obtain ⟨fs, hr, hrun, hended, hW, hsame⟩ := X_4.leave (v := none) (fun _ => rfl)
 refine ⟨_, _, X_4.returnOut hx Bd.returns (B d21_31) hr, hrun, hended, _, _, rfl, ?_, ⟨_, rfl⟩, hW, hsame.mono (by decide) (by decide)⟩
 show Q_ibm Z ch me mx my fn ln bl fg na nb kkg kkf spc fmx lmx fmy fme lme ldr wmx wmy wme spv u0 u1 ev ra ew rb db h0 n0 _ T_4.heap _
 exact ⟨g0x_4, g1x_4, rfl, N_4, K_6, p_4_1, p_4_2, p_4_3, p_4_4, p_4_5, p_4_6, p_4_7, p_4_8, p_4_9, p_4_10, p_4_11, p_4_12, p_4_13, p_4_14, p_4_15, p_4_16, p_4_17, p_4_18, p_4_19, p_4_20, p_4_21, p_4_22⟩
-- com/example/carillon/carillon/Chain.link:(Lcom/example/carillon/carillon/Message;)V
theorem d22_0 : decode cd22 0 = .ok (.aload_n 0, 1) := by decide +kernel
theorem d22_1 : decode cd22 1 = .ok (.invokevirtual 97, 3) := by decide +kernel
theorem d22_4 : decode cd22 4 = .ok (.aload_n 0, 1) := by decide +kernel
theorem d22_5 : decode cd22 5 = .ok (.aload_n 1, 1) := by decide +kernel
theorem d22_6 : decode cd22 6 = .ok (.invokevirtual 100, 3) := by decide +kernel
theorem d22_9 : decode cd22 9 = .ok (.return_, 1) := by decide +kernel
def Q_lk0 (Z : State) (ch me fn ln bl fg : Addr) (kkf kkl kkg : ClassId) (spc fme lme : Int32) (ldr wme : Int64) (hv fev v0 v1 : Value) (h0 : Heap) (n0 : Nat) (v : Option Value) (h : Heap) (L : List Loc) : Prop := ∃ (na : Addr), ∃ (nb : Addr), v = none ∧ Fr n0 L ∧ Keep h0 h [ch, me, fn, ln, fg] ∧ Exa Z h ch sg3 ∧ xF8 Z h ch (.ref me) ∧ xF9 Z h ch (.ref me) ∧ xF10 Z h ch (.ref fn) ∧ xF11 Z h ch (.ref ln) ∧ xF12 Z h ch (.ref bl) ∧ xF13 Z h ch .null ∧ xF14 Z h ch (.int spc) ∧ xF15 Z h ch (.long (own_next ldr)) ∧ xF16 Z h ch .null ∧ xF17 Z h ch (.ref fg) ∧ Exa Z h me sg0 ∧ xF0 Z h me .null ∧ xF1 Z h me (.long wme) ∧ xF2 Z h me (.int fme) ∧ xF3 Z h me (.int (3 : Int32)) ∧ Exa Z h na sg5 ∧ xF18 Z h na (.ref me) ∧ xF19 Z h na .null ∧ xF20 Z h na .null ∧ Exa Z h nb sg5 ∧ xF18 Z h nb (.ref me) ∧ xF19 Z h nb .null ∧ xF20 Z h nb (.ref na) ∧ aN Z h fn kkf (.ref na) (.ref nb) ∧ aN Z h ln kkl (.ref na) (.ref nb) ∧ h0.size ≤ na ∧ h0.size ≤ nb ∧ na ≠ nb ∧ aN Z h fg kkg .null .null
set_option maxRecDepth 65536 in
set_option maxHeartbeats 40000000 in
theorem rm_lk0 (l : Launch) (Z : State) (a0 : Array Value) (hw : hwT Z a0) (ws : List Jvm.Cond) (ch me fn ln bl fg : Addr) (kkf kkl kkg : ClassId) (spc fme lme : Int32) (ldr wme : Int64) (hv fev v0 v1 : Value) (h0 : Heap) (n0 : Nat) (Z0 : n0 ≤ h0.size) (P0_ : Exa Z h0 ch sg3) (P1_ : xF8 Z h0 ch hv) (P2_ : xF9 Z h0 ch .null) (P3_ : xF10 Z h0 ch (.ref fn)) (P4_ : xF11 Z h0 ch (.ref ln)) (P5_ : xF12 Z h0 ch (.ref bl)) (P6_ : xF13 Z h0 ch .null) (P7_ : xF14 Z h0 ch (.int spc)) (P8_ : xF15 Z h0 ch (.long ldr)) (P9_ : xF16 Z h0 ch fev) (P10_ : xF17 Z h0 ch (.ref fg)) (P11_ : aN Z h0 fn kkf .null .null) (P12_ : aN Z h0 ln kkl .null .null) (P13_ : Exa Z h0 me sg0) (P14_ : xF0 Z h0 me .null) (P15_ : xF1 Z h0 me (.long wme)) (P16_ : xF2 Z h0 me (.int fme)) (P17_ : xF3 Z h0 me (.int lme)) (P18_ : aN Z h0 fg kkg v0 v1) (Okkf : Ovr Z kkf sg5) (Okkl : Ovr Z kkl sg5) (g_ch : n0 ≤ ch) (g_me : n0 ≤ me) (g_fn : n0 ≤ fn) (g_ln : n0 ≤ ln) (g_fg : n0 ≤ fg) (n_ch_fn : ch ≠ fn) (n_ch_ln : ch ≠ ln) (n_ch_me : ch ≠ me) (n_ch_fg : ch ≠ fg) (n_fn_ln : fn ≠ ln) (n_fn_me : fn ≠ me) (n_fn_fg : fn ≠ fg) (n_ln_me : ln ≠ me) (n_ln_fg : ln ≠ fg) (n_me_fg : me ≠ fg) (hdr : (own_lanes ldr = (3 : Int32))) :
  oMF l Z mn22 (Jvm.Cond.code mn22 prog_2_method_11_code 2 none) ws (rO 6 2 6 85) #[(.ref ch), (.ref me)] h0 (Q_lk0 Z ch me fn ln bl fg kkf kkl kkg spc fme lme ldr wme hv fev v0 v1 h0 n0) := by
 refine MetFree.of_bodySF (plainFor_of_name pn_ordc) hisR ?_
 intro p e s m args below meth c s₁ Bd hml0 hP hK
 obtain ⟨rfl, hZ, hh⟩ := hP
 have hx := Bd.exec
 have hby := Bd.bytes
 have B : ∀ {pc r}, decode cd22 pc = r → decode c.code pc = r := fun h => hb hby h
 have hml : c.maxLocals = 2 := hml0
 have hown : s.vm.findClass sg3 = some m.cls := findClass_of_methodNamed Bd.named
 have hnm := (name_of_methodNamed Bd.named Bd.method).1
 have X0 : Stand p l e (rO 6 2 6 85) s m #[(.ref ch), (.ref me)] below meth c s₁ [] 0 0 := Stand.of_body Bd
 have e0 : s₁.heap = h0 := by rw [← hh, Bd.state]; rfl
 have N0 := Fr.nil n0
 refine own_in ?_
 refine own_go (S' := s₁.setTop (mkF m 0 #[zr ch, zr me] [])) (fun tgt_ stp_ => castTop (ef_ib0 m ch me) stp_) ?_
 have K0 : Keep h0 h0 [ch, me, fn, ln, fg] := Keep.refl h0 _
 obtain ⟨cq_1, q_1, q_1'⟩ := P0_.cell
 obtain ⟨_, _, ⟨T_1, L_1, k_1, n_1⟩, -, X_1, ⟨Lc_1, hQ_1, l_1, y_1, z_1⟩, st_1⟩ := X0.privateBack hx (y := mn9) hown (oT hZ hw 69 rfl) (oT hZ hw 70 rfl) (psl_0 hZ hw) (oP hZ hw 71 rfl) (oT hZ hw 72 rfl) (by decide) (backOf (W := 0) (rm_clf l Z a0 hw [] ch fn ln bl fg kkg spc ldr hv .null .null fev v0 v1 h0 n0 Z0 P0_ P1_ P2_ P3_ P4_ P5_ P6_ P7_ P8_ P9_ P10_ P18_ g_ch g_fg n_ch_fg) hZ (oW hw 72 rfl) (oW hw 19 rfl) (by decide) (by decide)) (g := (mkF m 1 #[zr ch, zr me] [(.ref ch)])) rfl (by rw [hml]; rfl) (Steps.refl _) (a := ch) (by rw [e0]; exact q_1) q_1' (argsL := []) (rest := []) (lenOf pd2 rfl) rfl (oQ rfl) (B d22_1) (fun _ _ => ⟨rfl, e0, (by decide : 0 + 0 ≤ _), (by decide : 0 + 0 ≤ _)⟩)
 dsimp only [Pt.U, Pt.locs, Pt.cells, Pt.slots] at X_1 l_1 y_1 z_1 st_1 hQ_1
 subst y_1 z_1
 obtain ⟨rfl, N_1q, p_1_0, p_1_1, p_1_2, p_1_3, p_1_4, p_1_5, p_1_6, p_1_7, p_1_8, p_1_9, p_1_10, p_1_11, p_1_12⟩ := hQ_1
 have N_1 : Fr n0 L_1 := by rw [l_1]; exact Fr.app N0 N_1q
 clear l_1
 have Z_2 := Nat.le_trans Z0 p_1_0.1
 have K_3 : Keep h0 T_1.heap [ch, me, fn, ln, fg] := K0.trans p_1_0 fun x q => Or.inl (oM q 0 rfl fun q => oM1 q 4 rfl)
 have f_5 := (P11_.keep p_1_0 (oN1 (Ne.symm n_ch_fn) (oN1 n_fn_fg oN)))
 have f_6 := (P12_.keep p_1_0 (oN1 (Ne.symm n_ch_ln) (oN1 n_ln_fg oN)))
 have f_7 := (P13_.keep p_1_0)
 have f_8 := (P14_.keep p_1_0 (oN1 (Ne.symm n_ch_me) (oN1 n_me_fg oN)))
 have f_9 := (P15_.keep p_1_0 (oN1 (Ne.symm n_ch_me) (oN1 n_me_fg oN)))
 have f_10 := (P16_.keep p_1_0 (oN1 (Ne.symm n_ch_me) (oN1 n_me_fg oN)))
 have f_11 := (P17_.keep p_1_0 (oN1 (Ne.symm n_ch_me) (oN1 n_me_fg oN)))
 obtain ⟨cq_4, q_4, q_4'⟩ := p_1_1.cell
 obtain ⟨_, _, ⟨T_4, L_4, k_4, n_4⟩, -, X_4, ⟨Lc_4, hQ_4, l_4, y_4, z_4⟩, st_4⟩ := X_1.privateBack hx (y := mn21) hown (oT hZ hw 90 rfl) (oT hZ hw 91 rfl) (psl_7 hZ hw) (oP hZ hw 92 rfl) (oT hZ hw 93 rfl) (by decide) (backOf (W := 0) (rm_ib0 l Z a0 hw [] ch me fn ln bl fg kkf kkl spc fme lme ldr wme hv .null T_1.heap n0 Z_2 p_1_1 p_1_2 p_1_3 p_1_4 p_1_5 p_1_6 p_1_7 p_1_8 p_1_9 p_1_10 p_1_11 f_5 f_6 f_7 f_8 f_9 f_10 f_11 Okkf Okkl g_ch g_me g_fn g_ln n_ch_fn n_ch_ln n_ch_me n_fn_ln n_fn_me n_ln_me hdr) hZ (oW hw 93 rfl) (oW hw 19 rfl) (by decide) (by decide)) (g := (mkF m 6 #[zr ch, zr me] [(.ref me), (.ref ch)])) rfl (by rw [hml]; rfl) (Steps.refl _) (a := ch) q_4 q_4' (argsL := [(.ref me)]) (rest := []) (lenOf pd12 rfl) rfl (oQ rfl) (B d22_6) (fun _ _ => ⟨rfl, rfl, (by decide : 0 + 2 ≤ _), (by decide : 0 + 6 ≤ _)⟩)
 dsimp only [Pt.U, Pt.locs, Pt.cells, Pt.slots] at X_4 l_4 y_4 z_4 st_4 hQ_4
 subst y_4 z_4
 obtain ⟨nax_4, nbx_4, rfl, N_4q, p_4_0, p_4_1, p_4_2, p_4_3, p_4_4, p_4_5, p_4_6, p_4_7, p_4_8, p_4_9, p_4_10, p_4_11, p_4_12, p_4_13, p_4_14, p_4_15, p_4_16, p_4_17, p_4_18, p_4_19, p_4_20, p_4_21, p_4_22, p_4_23, p_4_24, p_4_25, p_4_26, p_4_27, p_4_28, p_4_29⟩ := hQ_4
 have N_4 : Fr n0 L_4 := by rw [l_4]; exact Fr.app N_1 N_4q
 clear l_4
 have Z_12 := Nat.le_trans Z_2 p_4_0.1
 have K_13 : Keep h0 T_4.heap [ch, me, fn, ln, fg] := K_3.trans p_4_0 fun x q => Or.inl (oM q 0 rfl fun q => oM q 1 rfl fun q => oM q 2 rfl fun q => oM1 q 3 rfl)
 have gn_nax_4 : n0 ≤ nax_4 := Nat.le_trans Z_2 p_4_27
 have sz_nax_4 : h0.size ≤ nax_4 := Nat.le_trans K_3.1 p_4_27
 have ne_ch_nax_4 : ch ≠ nax_4 := Nat.ne_of_lt (Nat.lt_of_lt_of_le p_1_1.lt p_4_27)
 have ne_fn_nax_4 : fn ≠ nax_4 := Nat.ne_of_lt (Nat.lt_of_lt_of_le f_5.lt p_4_27)
 have ne_ln_nax_4 : ln ≠ nax_4 := Nat.ne_of_lt (Nat.lt_of_lt_of_le f_6.lt p_4_27)
 have ne_me_nax_4 : me ≠ nax_4 := Nat.ne_of_lt (Nat.lt_of_lt_of_le f_7.lt p_4_27)
 have ne_fg_nax_4 : fg ≠ nax_4 := Nat.ne_of_lt (Nat.lt_of_lt_of_le p_1_12.lt p_4_27)
 have gn_nbx_4 : n0 ≤ nbx_4 := Nat.le_trans Z_2 p_4_28
 have sz_nbx_4 : h0.size ≤ nbx_4 := Nat.le_trans K_3.1 p_4_28
 have ne_ch_nbx_4 : ch ≠ nbx_4 := Nat.ne_of_lt (Nat.lt_of_lt_of_le p_1_1.lt p_4_28)
 have ne_fn_nbx_4 : fn ≠ nbx_4 := Nat.ne_of_lt (Nat.lt_of_lt_of_le f_5.lt p_4_28)
 have ne_ln_nbx_4 : ln ≠ nbx_4 := Nat.ne_of_lt (Nat.lt_of_lt_of_le f_6.lt p_4_28)
 have ne_me_nbx_4 : me ≠ nbx_4 := Nat.ne_of_lt (Nat.lt_of_lt_of_le f_7.lt p_4_28)
 have ne_fg_nbx_4 : fg ≠ nbx_4 := Nat.ne_of_lt (Nat.lt_of_lt_of_le p_1_12.lt p_4_28)
 refine own_go (S' := T_4.setTop (mkF m 9 #[zr ch, zr me] [])) (fun target kt => ?_) ?_
 ·
  show oSt p e below s₁ m 0 #[zr ch, zr me] [] target
  refine XS.aloadN X0.here hx rfl (B d22_0) rfl rfl ?_
  refine st_1.trans ?_
  refine XS.aloadN X_1.here hx rfl (B d22_4) rfl rfl ?_
  refine XS.aloadN X_1.here hx rfl (B d22_5) rfl rfl ?_
  refine st_4.trans ?_
  exact kt
 obtain ⟨fs, hr, hrun, hended, hW, hsame⟩ := X_4.leave (v := none) (fun _ => rfl)
 refine ⟨_, _, X_4.returnOut hx Bd.returns (B d22_9) hr, hrun, hended, _, _, rfl, ?_, ⟨_, rfl⟩, hW, hsame.mono (by decide) (by decide)⟩
 show Q_lk0 Z ch me fn ln bl fg kkf kkl kkg spc fme lme ldr wme hv fev v0 v1 h0 n0 _ T_4.heap _
 have f_14 := (p_1_12.keep p_4_0 (oN1 (Ne.symm n_ch_fg) (oN1 (Ne.symm n_me_fg) (oN1 (Ne.symm n_fn_fg) (oN1 (Ne.symm n_ln_fg) oN)))))
 exact ⟨nax_4, nbx_4, rfl, N_4, K_13, p_4_1, p_4_2, p_4_3, p_4_4, p_4_5, p_4_6, p_4_7, p_4_8, p_4_9, p_4_10, p_4_11, p_4_12, p_4_13, p_4_14, p_4_15, p_4_16, p_4_17, p_4_18, p_4_19, p_4_20, p_4_21, p_4_22, p_4_23, p_4_24, p_4_25, p_4_26, sz_nax_4, sz_nbx_4, p_4_29, f_14⟩
-- com/example/carillon/carillon/Chain.link:(Lcom/example/carillon/carillon/Message;)V
def Q_lke (Z : State) (ch me mt fn ln bl fg : Addr) (kkg : ClassId) (spc fmt lmt fme lme : Int32) (ldr wmt wme : Int64) (hv spv fev v0 v1 : Value) (h0 : Heap) (n0 : Nat) (v : Option Value) (h : Heap) (L : List Loc) : Prop := v = none ∧ Fr n0 L ∧ Keep h0 h [ch, me, mt, fg] ∧ Exa Z h ch sg3 ∧ xF8 Z h ch hv ∧ xF9 Z h ch (.ref me) ∧ xF10 Z h ch (.ref fn) ∧ xF11 Z h ch (.ref ln) ∧ xF12 Z h ch (.ref bl) ∧ xF13 Z h ch spv ∧ xF14 Z h ch (.int spc) ∧ xF15 Z h ch (.long (own_next ldr)) ∧ xF16 Z h ch .null ∧ xF17 Z h ch (.ref fg) ∧ Exa Z h mt sg0 ∧ xF0 Z h mt (.ref me) ∧ xF1 Z h mt (.long wmt) ∧ xF2 Z h mt (.int fmt) ∧ xF3 Z h mt (.int lmt) ∧ Exa Z h me sg0 ∧ xF0 Z h me .null ∧ xF1 Z h me (.long wme) ∧ xF2 Z h me (.int fme) ∧ xF3 Z h me (.int (1 : Int32)) ∧ aN Z h fg kkg .null .null
set_option maxRecDepth 65536 in
set_option maxHeartbeats 40000000 in
theorem rm_lke (l : Launch) (Z : State) (a0 : Array Value) (hw : hwT Z a0) (ws : List Jvm.Cond) (ch me mt fn ln bl fg : Addr) (kkg : ClassId) (spc fmt lmt fme lme : Int32) (ldr wmt wme : Int64) (hv spv fev v0 v1 : Value) (h0 : Heap) (n0 : Nat) (Z0 : n0 ≤ h0.size) (P0_ : Exa Z h0 ch sg3) (P1_ : xF8 Z h0 ch hv) (P2_ : xF9 Z h0 ch (.ref mt)) (P3_ : xF10 Z h0 ch (.ref fn)) (P4_ : xF11 Z h0 ch (.ref ln)) (P5_ : xF12 Z h0 ch (.ref bl)) (P6_ : xF13 Z h0 ch spv) (P7_ : xF14 Z h0 ch (.int spc)) (P8_ : xF15 Z h0 ch (.long ldr)) (P9_ : xF16 Z h0 ch fev) (P10_ : xF17 Z h0 ch (.ref fg)) (P11_ : Exa Z h0 mt sg0) (P12_ : xF0 Z h0 mt .null) (P13_ : xF1 Z h0 mt (.long wmt)) (P14_ : xF2 Z h0 mt (.int fmt)) (P15_ : xF3 Z h0 mt (.int lmt)) (P16_ : Exa Z h0 me sg0) (P17_ : xF0 Z h0 me .null) (P18_ : xF1 Z h0 me (.long wme)) (P19_ : xF2 Z h0 me (.int fme)) (P20_ : xF3 Z h0 me (.int lme)) (P21_ : aN Z h0 fg kkg v0 v1) (g_ch : n0 ≤ ch) (g_me : n0 ≤ me) (g_mt : n0 ≤ mt) (g_fg : n0 ≤ fg) (n_ch_mt : ch ≠ mt) (n_ch_me : ch ≠ me) (n_ch_fg : ch ≠ fg) (n_mt_me : mt ≠ me) (n_mt_fg : mt ≠ fg) (n_me_fg : me ≠ fg) (hdr : (own_lanes ldr = (1 : Int32))) (hgt : (¬ ((own_gb fme wme fmt wmt) = (0 : Int32)))) :
  oMF l Z mn22 (Jvm.Cond.code mn22 prog_2_method_11_code 2 none) ws (rO 5 0 0 70) #[(.ref ch), (.ref me)] h0 (Q_lke Z ch me mt fn ln bl fg kkg spc fmt lmt fme lme ldr wmt wme hv spv fev v0 v1 h0 n0) := by
 refine MetFree.of_bodySF (plainFor_of_name pn_ordc) hisR ?_
 intro p e s m args below meth c s₁ Bd hml0 hP hK
 obtain ⟨rfl, hZ, hh⟩ := hP
 have hx := Bd.exec
 have hby := Bd.bytes
 have B : ∀ {pc r}, decode cd22 pc = r → decode c.code pc = r := fun h => hb hby h
 have hml : c.maxLocals = 2 := hml0
 have hown : s.vm.findClass sg3 = some m.cls := findClass_of_methodNamed Bd.named
 have hnm := (name_of_methodNamed Bd.named Bd.method).1
 have X0 : Stand p l e (rO 5 0 0 70) s m #[(.ref ch), (.ref me)] below meth c s₁ [] 0 0 := Stand.of_body Bd
 have e0 : s₁.heap = h0 := by rw [← hh, Bd.state]; rfl
 have N0 := Fr.nil n0
 refine own_in ?_
 refine own_go (S' := s₁.setTop (mkF m 0 #[zr ch, zr me] [])) (fun tgt_ stp_ => castTop (ef_ib0 m ch me) stp_) ?_
 have K0 : Keep h0 h0 [ch, me, mt, fg] := Keep.refl h0 _
 obtain ⟨cq_1, q_1, q_1'⟩ := P0_.cell
 obtain ⟨_, _, ⟨T_1, L_1, k_1, n_1⟩, -, X_1, ⟨Lc_1, hQ_1, l_1, y_1, z_1⟩, st_1⟩ := X0.privateBack hx (y := mn9) hown (oT hZ hw 69 rfl) (oT hZ hw 70 rfl) (psl_0 hZ hw) (oP hZ hw 71 rfl) (oT hZ hw 72 rfl) (by decide) (backOf (W := 0) (rm_clf l Z a0 hw [] ch fn ln bl fg kkg spc ldr hv (.ref mt) spv fev v0 v1 h0 n0 Z0 P0_ P1_ P2_ P3_ P4_ P5_ P6_ P7_ P8_ P9_ P10_ P21_ g_ch g_fg n_ch_fg) hZ (oW hw 72 rfl) (oW hw 19 rfl) (by decide) (by decide)) (g := (mkF m 1 #[zr ch, zr me] [(.ref ch)])) rfl (by rw [hml]; rfl) (Steps.refl _) (a := ch) (by rw [e0]; exact q_1) q_1' (argsL := []) (rest := []) (lenOf pd2 rfl) rfl (oQ rfl) (B d22_1) (fun _ _ => ⟨rfl, e0, (by decide : 0 + 0 ≤ _), (by decide : 0 + 0 ≤ _)⟩)
 dsimp only [Pt.U, Pt.locs, Pt.cells, Pt.slots] at X_1 l_1 y_1 z_1 st_1 hQ_1
 subst y_1 z_1
 obtain ⟨rfl, N_1q, p_1_0, p_1_1, p_1_2, p_1_3, p_1_4, p_1_5, p_1_6, p_1_7, p_1_8, p_1_9, p_1_10, p_1_11, p_1_12⟩ := hQ_1
 have N_1 : Fr n0 L_1 := by rw [l_1]; exact Fr.app N0 N_1q
 clear l_1
 have Z_2 := Nat.le_trans Z0 p_1_0.1
 have K_3 : Keep h0 T_1.heap [ch, me, mt, fg] := K0.trans p_1_0 fun x q => Or.inl (oM q 0 rfl fun q => oM1 q 3 rfl)
 have f_5 := (P11_.keep p_1_0)
 have f_6 := (P12_.keep p_1_0 (oN1 (Ne.symm n_ch_mt) (oN1 n_mt_fg oN)))
 have f_7 := (P13_.keep p_1_0 (oN1 (Ne.symm n_ch_mt) (oN1 n_mt_fg oN)))
 have f_8 := (P14_.keep p_1_0 (oN1 (Ne.symm n_ch_mt) (oN1 n_mt_fg oN)))
 have f_9 := (P15_.keep p_1_0 (oN1 (Ne.symm n_ch_mt) (oN1 n_mt_fg oN)))
 have f_10 := (P16_.keep p_1_0)
 have f_11 := (P17_.keep p_1_0 (oN1 (Ne.symm n_ch_me) (oN1 n_me_fg oN)))
 have f_12 := (P18_.keep p_1_0 (oN1 (Ne.symm n_ch_me) (oN1 n_me_fg oN)))
 have f_13 := (P19_.keep p_1_0 (oN1 (Ne.symm n_ch_me) (oN1 n_me_fg oN)))
 have f_14 := (P20_.keep p_1_0 (oN1 (Ne.symm n_ch_me) (oN1 n_me_fg oN)))
 obtain ⟨cq_4, q_4, q_4'⟩ := p_1_1.cell
 obtain ⟨_, _, ⟨T_4, L_4, k_4, n_4⟩, -, X_4, ⟨Lc_4, hQ_4, l_4, y_4, z_4⟩, st_4⟩ := X_1.privateBack hx (y := mn21) hown (oT hZ hw 90 rfl) (oT hZ hw 91 rfl) (psl_7 hZ hw) (oP hZ hw 92 rfl) (oT hZ hw 93 rfl) (by decide) (backOf (W := 0) (rm_ibe l Z a0 hw [] ch me mt fn ln bl fg spc fmt lmt fme lme ldr wmt wme hv spv .null T_1.heap n0 Z_2 p_1_1 p_1_2 p_1_3 p_1_4 p_1_5 p_1_6 p_1_7 p_1_8 p_1_9 p_1_10 p_1_11 f_5 f_6 f_7 f_8 f_9 f_10 f_11 f_12 f_13 f_14 g_ch g_me g_mt n_ch_mt n_ch_me n_mt_me hdr hgt) hZ (oW hw 93 rfl) (oW hw 19 rfl) (by decide) (by decide)) (g := (mkF m 6 #[zr ch, zr me] [(.ref me), (.ref ch)])) rfl (by rw [hml]; rfl) (Steps.refl _) (a := ch) q_4 q_4' (argsL := [(.ref me)]) (rest := []) (lenOf pd12 rfl) rfl (oQ rfl) (B d22_6) (fun _ _ => ⟨rfl, rfl, (by decide : 0 + 0 ≤ _), (by decide : 0 + 0 ≤ _)⟩)
 dsimp only [Pt.U, Pt.locs, Pt.cells, Pt.slots] at X_4 l_4 y_4 z_4 st_4 hQ_4
 subst y_4 z_4
 obtain ⟨rfl, N_4q, p_4_0, p_4_1, p_4_2, p_4_3, p_4_4, p_4_5, p_4_6, p_4_7, p_4_8, p_4_9, p_4_10, p_4_11, p_4_12, p_4_13, p_4_14, p_4_15, p_4_16, p_4_17, p_4_18, p_4_19, p_4_20, p_4_21⟩ := hQ_4
 have N_4 : Fr n0 L_4 := by rw [l_4]; exact Fr.app N_1 N_4q
 clear l_4
 have Z_15 := Nat.le_trans Z_2 p_4_0.1
 have K_16 : Keep h0 T_4.heap [ch, me, mt, fg] := K_3.trans p_4_0 fun x q => Or.inl (oM q 0 rfl fun q => oM q 1 rfl fun q => oM1 q 2 rfl)
 refine own_go (S' := T_4.setTop (mkF m 9 #[zr ch, zr me] [])) (fun target kt => ?_) ?_
 ·
  show oSt p e below s₁ m 0 #[zr ch, zr me] [] target
  refine XS.aloadN X0.here hx rfl (B d22_0) rfl rfl ?_
  refine st_1.trans ?_
  refine XS.aloadN X_1.here hx rfl (B d22_4) rfl rfl ?_
  refine XS.aloadN X_1.here hx rfl (B d22_5) rfl rfl ?_
  refine st_4.trans ?_
  exact kt
 obtain ⟨fs, hr, hrun, hended, hW, hsame⟩ := X_4.leave (v := none) (fun _ => rfl)
 refine ⟨_, _, X_4.returnOut hx Bd.returns (B d22_9) hr, hrun, hended, _, _, rfl, ?_, ⟨_, rfl⟩, hW, hsame.mono (by decide) (by decide)⟩
 show Q_lke Z ch me mt fn ln bl fg kkg spc fmt lmt fme lme ldr wmt wme hv spv fev v0 v1 h0 n0 _ T_4.heap _
 have f_17 := (p_1_12.keep p_4_0 (oN1 (Ne.symm n_ch_fg) (oN1 (Ne.symm n_me_fg) (oN1 (Ne.symm n_mt_fg) oN))))
 exact ⟨rfl, N_4, K_16, p_4_1, p_4_2, p_4_3, p_4_4, p_4_5, p_4_6, p_4_7, p_4_8, p_4_9, p_4_10, p_4_11, p_4_12, p_4_13, p_4_14, p_4_15, p_4_16, p_4_17, p_4_18, p_4_19, p_4_20, p_4_21, f_17⟩
-- com/example/carillon/carillon/Chain.link:(Lcom/example/carillon/carillon/Message;)V
def Q_lkf (Z : State) (ch me mx my fn ln bl fg na nb : Addr) (kkf kkg : ClassId) (spc fmx fmy fme lme : Int32) (ldr wmx wmy wme : Int64) (spv fev u0 u1 ev ra ew rb db v0 v1 : Value) (h0 : Heap) (n0 : Nat) (v : Option Value) (h : Heap) (L : List Loc) : Prop := v = none ∧ Fr n0 L ∧ Keep h0 h [ch, me, fg] ∧ Exa Z h ch sg3 ∧ xF8 Z h ch (.ref me) ∧ xF9 Z h ch (.ref my) ∧ xF10 Z h ch (.ref fn) ∧ xF11 Z h ch (.ref ln) ∧ xF12 Z h ch (.ref bl) ∧ xF13 Z h ch spv ∧ xF14 Z h ch (.int spc) ∧ xF15 Z h ch (.long (own_next ldr)) ∧ xF16 Z h ch (.ref me) ∧ xF17 Z h ch (.ref fg) ∧ Exa Z h me sg0 ∧ xF0 Z h me (.ref mx) ∧ xF1 Z h me (.long wme) ∧ xF2 Z h me (.int fme) ∧ xF3 Z h me (.int (1 : Int32)) ∧ aN Z h fg kkg .null .null
set_option maxRecDepth 65536 in
set_option maxHeartbeats 40000000 in
theorem rm_lkf (l : Launch) (Z : State) (a0 : Array Value) (hw : hwT Z a0) (ws : List Jvm.Cond) (ch me mx my fn ln bl fg na nb : Addr) (kkf kkg : ClassId) (spc fmx fmy fme lme : Int32) (ldr wmx wmy wme : Int64) (spv fev u0 u1 ev ra ew rb db v0 v1 : Value) (h0 : Heap) (n0 : Nat) (Z0 : n0 ≤ h0.size) (P0_ : Exa Z h0 ch sg3) (P1_ : xF8 Z h0 ch (.ref mx)) (P2_ : xF9 Z h0 ch (.ref my)) (P3_ : xF10 Z h0 ch (.ref fn)) (P4_ : xF11 Z h0 ch (.ref ln)) (P5_ : xF12 Z h0 ch (.ref bl)) (P6_ : xF13 Z h0 ch spv) (P7_ : xF14 Z h0 ch (.int spc)) (P8_ : xF15 Z h0 ch (.long ldr)) (P9_ : xF16 Z h0 ch fev) (P10_ : xF17 Z h0 ch (.ref fg)) (P11_ : aN Z h0 fn kkf u0 u1) (P12_ : Exa Z h0 na sg5) (P13_ : xF18 Z h0 na ev) (P14_ : xF19 Z h0 na ra) (P15_ : Exa Z h0 nb sg5) (P16_ : xF18 Z h0 nb ew) (P17_ : xF19 Z h0 nb rb) (P18_ : xF20 Z h0 nb db) (P19_ : Exa Z h0 mx sg0) (P20_ : xF1 Z h0 mx (.long wmx)) (P21_ : xF2 Z h0 mx (.int fmx)) (P22_ : Exa Z h0 my sg0) (P23_ : xF1 Z h0 my (.long wmy)) (P24_ : xF2 Z h0 my (.int fmy)) (P25_ : Exa Z h0 me sg0) (P26_ : xF0 Z h0 me .null) (P27_ : xF1 Z h0 me (.long wme)) (P28_ : xF2 Z h0 me (.int fme)) (P29_ : xF3 Z h0 me (.int lme)) (P30_ : aN Z h0 fg kkg v0 v1) (g_ch : n0 ≤ ch) (g_me : n0 ≤ me) (g_fg : n0 ≤ fg) (n_ch_fn : ch ≠ fn) (n_ch_na : ch ≠ na) (n_ch_nb : ch ≠ nb) (n_ch_mx : ch ≠ mx) (n_ch_my : ch ≠ my) (n_ch_me : ch ≠ me) (n_ch_fg : ch ≠ fg) (n_fn_me : fn ≠ me) (n_fn_fg : fn ≠ fg) (n_na_me : na ≠ me) (n_na_fg : na ≠ fg) (n_nb_me : nb ≠ me) (n_nb_fg : nb ≠ fg) (n_mx_me : mx ≠ me) (n_mx_fg : mx ≠ fg) (n_my_me : my ≠ me) (n_my_fg : my ≠ fg) (n_me_fg : me ≠ fg) (hdr : (own_lanes ldr = (1 : Int32))) (hgx : ((own_gb fme wme fmx wmx) = (0 : Int32))) (hgy : ((own_gb fme wme fmy wmy) = (0 : Int32))) (hDD : (own_DD u0 u1 ev ew ra rb db na nb mx my)) :
  oMF l Z mn22 (Jvm.Cond.code mn22 prog_2_method_11_code 2 none) ws (rO 5 0 0 75) #[(.ref ch), (.ref me)] h0 (Q_lkf Z ch me mx my fn ln bl fg na nb kkf kkg spc fmx fmy fme lme ldr wmx wmy wme spv fev u0 u1 ev ra ew rb db v0 v1 h0 n0) := by
 refine MetFree.of_bodySF (plainFor_of_name pn_ordc) hisR ?_
 intro p e s m args below meth c s₁ Bd hml0 hP hK
 obtain ⟨rfl, hZ, hh⟩ := hP
 have hx := Bd.exec
 have hby := Bd.bytes
 have B : ∀ {pc r}, decode cd22 pc = r → decode c.code pc = r := fun h => hb hby h
 have hml : c.maxLocals = 2 := hml0
 have hown : s.vm.findClass sg3 = some m.cls := findClass_of_methodNamed Bd.named
 have hnm := (name_of_methodNamed Bd.named Bd.method).1
 have X0 : Stand p l e (rO 5 0 0 75) s m #[(.ref ch), (.ref me)] below meth c s₁ [] 0 0 := Stand.of_body Bd
 have e0 : s₁.heap = h0 := by rw [← hh, Bd.state]; rfl
 have N0 := Fr.nil n0
 refine own_in ?_
 refine own_go (S' := s₁.setTop (mkF m 0 #[zr ch, zr me] [])) (fun tgt_ stp_ => castTop (ef_ib0 m ch me) stp_) ?_
 have K0 : Keep h0 h0 [ch, me, fg] := Keep.refl h0 _
 obtain ⟨cq_1, q_1, q_1'⟩ := P0_.cell
 obtain ⟨_, _, ⟨T_1, L_1, k_1, n_1⟩, -, X_1, ⟨Lc_1, hQ_1, l_1, y_1, z_1⟩, st_1⟩ := X0.privateBack hx (y := mn9) hown (oT hZ hw 69 rfl) (oT hZ hw 70 rfl) (psl_0 hZ hw) (oP hZ hw 71 rfl) (oT hZ hw 72 rfl) (by decide) (backOf (W := 0) (rm_clf l Z a0 hw [] ch fn ln bl fg kkg spc ldr (.ref mx) (.ref my) spv fev v0 v1 h0 n0 Z0 P0_ P1_ P2_ P3_ P4_ P5_ P6_ P7_ P8_ P9_ P10_ P30_ g_ch g_fg n_ch_fg) hZ (oW hw 72 rfl) (oW hw 19 rfl) (by decide) (by decide)) (g := (mkF m 1 #[zr ch, zr me] [(.ref ch)])) rfl (by rw [hml]; rfl) (Steps.refl _) (a := ch) (by rw [e0]; exact q_1) q_1' (argsL := []) (rest := []) (lenOf pd2 rfl) rfl (oQ rfl) (B d22_1) (fun _ _ => ⟨rfl, e0, (by decide : 0 + 0 ≤ _), (by decide : 0 + 0 ≤ _)⟩)
 dsimp only [Pt.U, Pt.locs, Pt.cells, Pt.slots] at X_1 l_1 y_1 z_1 st_1 hQ_1
 subst y_1 z_1
 obtain ⟨rfl, N_1q, p_1_0, p_1_1, p_1_2, p_1_3, p_1_4, p_1_5, p_1_6, p_1_7, p_1_8, p_1_9, p_1_10, p_1_11, p_1_12⟩ := hQ_1
 have N_1 : Fr n0 L_1 := by rw [l_1]; exact Fr.app N0 N_1q
 clear l_1
 have Z_2 := Nat.le_trans Z0 p_1_0.1
 have K_3 : Keep h0 T_1.heap [ch, me, fg] := K0.trans p_1_0 fun x q => Or.inl (oM q 0 rfl fun q => oM1 q 2 rfl)
 have f_5 := (P11_.keep p_1_0 (oN1 (Ne.symm n_ch_fn) (oN1 n_fn_fg oN)))
 have f_6 := (P12_.keep p_1_0)
 have f_7 := (P13_.keep p_1_0 (oN1 (Ne.symm n_ch_na) (oN1 n_na_fg oN)))
 have f_8 := (P14_.keep p_1_0 (oN1 (Ne.symm n_ch_na) (oN1 n_na_fg oN)))
 have f_9 := (P15_.keep p_1_0)
 have f_10 := (P16_.keep p_1_0 (oN1 (Ne.symm n_ch_nb) (oN1 n_nb_fg oN)))
 have f_11 := (P17_.keep p_1_0 (oN1 (Ne.symm n_ch_nb) (oN1 n_nb_fg oN)))
 have f_12 := (P18_.keep p_1_0 (oN1 (Ne.symm n_ch_nb) (oN1 n_nb_fg oN)))
 have f_13 := (P19_.keep p_1_0)
 have f_14 := (P20_.keep p_1_0 (oN1 (Ne.symm n_ch_mx) (oN1 n_mx_fg oN)))
 have f_15 := (P21_.keep p_1_0 (oN1 (Ne.symm n_ch_mx) (oN1 n_mx_fg oN)))
 have f_16 := (P22_.keep p_1_0)
 have f_17 := (P23_.keep p_1_0 (oN1 (Ne.symm n_ch_my) (oN1 n_my_fg oN)))
 have f_18 := (P24_.keep p_1_0 (oN1 (Ne.symm n_ch_my) (oN1 n_my_fg oN)))
 have f_19 := (P25_.keep p_1_0)
 have f_20 := (P26_.keep p_1_0 (oN1 (Ne.symm n_ch_me) (oN1 n_me_fg oN)))
 have f_21 := (P27_.keep p_1_0 (oN1 (Ne.symm n_ch_me) (oN1 n_me_fg oN)))
 have f_22 := (P28_.keep p_1_0 (oN1 (Ne.symm n_ch_me) (oN1 n_me_fg oN)))
 have f_23 := (P29_.keep p_1_0 (oN1 (Ne.symm n_ch_me) (oN1 n_me_fg oN)))
 obtain ⟨cq_4, q_4, q_4'⟩ := p_1_1.cell
 obtain ⟨_, _, ⟨T_4, L_4, k_4, n_4⟩, -, X_4, ⟨Lc_4, hQ_4, l_4, y_4, z_4⟩, st_4⟩ := X_1.privateBack hx (y := mn21) hown (oT hZ hw 90 rfl) (oT hZ hw 91 rfl) (psl_7 hZ hw) (oP hZ hw 92 rfl) (oT hZ hw 93 rfl) (by decide) (backOf (W := 0) (rm_ibf l Z a0 hw [] ch me mx my fn ln bl fg _ _ kkg kkf spc fmx fmy fme lme ldr wmx wmy wme spv u0 u1 ev ra ew rb db T_1.heap n0 Z_2 p_1_1 p_1_2 p_1_3 p_1_4 p_1_5 p_1_6 p_1_7 p_1_8 p_1_9 p_1_10 p_1_11 p_1_12 f_5 f_6 f_7 f_8 f_9 f_10 f_11 f_12 f_13 f_14 f_15 f_16 f_17 f_18 f_19 f_20 f_21 f_22 f_23 g_ch g_me n_ch_fg n_ch_fn n_ch_na n_ch_nb n_ch_mx n_ch_my n_ch_me (Ne.symm n_me_fg) n_fn_me n_na_me n_nb_me n_mx_me n_my_me hdr hgx hgy hDD) hZ (oW hw 93 rfl) (oW hw 19 rfl) (by decide) (by decide)) (g := (mkF m 6 #[zr ch, zr me] [(.ref me), (.ref ch)])) rfl (by rw [hml]; rfl) (Steps.refl _) (a := ch) q_4 q_4' (argsL := [(.ref me)]) (rest := []) (lenOf pd12 rfl) rfl (oQ rfl) (B d22_6) (fun _ _ => ⟨rfl, rfl, (by decide : 0 + 0 ≤ _), (by decide : 0 + 0 ≤ _)⟩)
 dsimp only [Pt.U, Pt.locs, Pt.cells, Pt.slots] at X_4 l_4 y_4 z_4 st_4 hQ_4
 subst y_4 z_4
 obtain ⟨rfl, N_4q, p_4_0, p_4_1, p_4_2, p_4_3, p_4_4, p_4_5, p_4_6, p_4_7, p_4_8, p_4_9, p_4_10, p_4_11, p_4_12, p_4_13, p_4_14, p_4_15, p_4_16⟩ := hQ_4
 have N_4 : Fr n0 L_4 := by rw [l_4]; exact Fr.app N_1 N_4q
 clear l_4
 have Z_24 := Nat.le_trans Z_2 p_4_0.1
 have K_25 : Keep h0 T_4.heap [ch, me, fg] := K_3.trans p_4_0 fun x q => Or.inl (oM q 0 rfl fun q => oM1 q 1 rfl)
 refine own_go (S' := T_4.setTop (mkF m 9 #[zr ch, zr me] [])) (fun target kt => ?_) ?_
 ·
  show oSt p e below s₁ m 0 #[zr ch, zr me] [] target
  refine XS.aloadN X0.here hx rfl (B d22_0) rfl rfl ?_
  refine st_1.trans ?_
  refine XS.aloadN X_1.here hx rfl (B d22_4) rfl rfl ?_
  refine XS.aloadN X_1.here hx rfl (B d22_5) rfl rfl ?_
  refine st_4.trans ?_
  exact kt
 obtain ⟨fs, hr, hrun, hended, hW, hsame⟩ := X_4.leave (v := none) (fun _ => rfl)
 refine ⟨_, _, X_4.returnOut hx Bd.returns (B d22_9) hr, hrun, hended, _, _, rfl, ?_, ⟨_, rfl⟩, hW, hsame.mono (by decide) (by decide)⟩
 show Q_lkf Z ch me mx my fn ln bl fg na nb kkf kkg spc fmx fmy fme lme ldr wmx wmy wme spv fev u0 u1 ev ra ew rb db v0 v1 h0 n0 _ T_4.heap _
 have f_26 := (p_1_12.keep p_4_0 (oN1 (Ne.symm n_ch_fg) (oN1 (Ne.symm n_me_fg) oN)))
 exact ⟨rfl, N_4, K_25, p_4_1, p_4_2, p_4_3, p_4_4, p_4_5, p_4_6, p_4_7, p_4_8, p_4_9, p_4_10, p_4_11, p_4_12, p_4_13, p_4_14, p_4_15, p_4_16, f_26⟩
-- com/example/carillon/carillon/Chain.link:(Lcom/example/carillon/carillon/Message;)V
def Q_lkm (Z : State) (ch me mx my fn ln bl fg na nb : Addr) (kkf kkg : ClassId) (spc fmx lmx fmy fme lme : Int32) (ldr wmx wmy wme : Int64) (spv fev u0 u1 ev ra ew rb db v0 v1 : Value) (h0 : Heap) (n0 : Nat) (v : Option Value) (h : Heap) (L : List Loc) : Prop := ∃ (g0 : Value), ∃ (g1 : Value), v = none ∧ Fr n0 L ∧ Keep h0 h [ch, me, mx, fg] ∧ Exa Z h ch sg3 ∧ xF8 Z h ch (.ref mx) ∧ xF9 Z h ch (.ref my) ∧ xF10 Z h ch (.ref fn) ∧ xF11 Z h ch (.ref ln) ∧ xF12 Z h ch (.ref bl) ∧ xF13 Z h ch spv ∧ xF14 Z h ch (.int spc) ∧ xF15 Z h ch (.long (own_next ldr)) ∧ xF16 Z h ch (.ref me) ∧ xF17 Z h ch (.ref fg) ∧ aN Z h fg kkg g0 g1 ∧ Exa Z h mx sg0 ∧ xF0 Z h mx (.ref me) ∧ xF1 Z h mx (.long wmx) ∧ xF2 Z h mx (.int fmx) ∧ xF3 Z h mx (.int lmx) ∧ Exa Z h me sg0 ∧ xF0 Z h me (.ref my) ∧ xF1 Z h me (.long wme) ∧ xF2 Z h me (.int fme) ∧ xF3 Z h me (.int (1 : Int32))
set_option maxRecDepth 65536 in
set_option maxHeartbeats 40000000 in
theorem rm_lkm (l : Launch) (Z : State) (a0 : Array Value) (hw : hwT Z a0) (ws : List Jvm.Cond) (ch me mx my fn ln bl fg na nb : Addr) (kkf kkg : ClassId) (spc fmx lmx fmy fme lme : Int32) (ldr wmx wmy wme : Int64) (spv fev u0 u1 ev ra ew rb db v0 v1 : Value) (h0 : Heap) (n0 : Nat) (Z0 : n0 ≤ h0.size) (P0_ : Exa Z h0 ch sg3) (P1_ : xF8 Z h0 ch (.ref mx)) (P2_ : xF9 Z h0 ch (.ref my)) (P3_ : xF10 Z h0 ch (.ref fn)) (P4_ : xF11 Z h0 ch (.ref ln)) (P5_ : xF12 Z h0 ch (.ref bl)) (P6_ : xF13 Z h0 ch spv) (P7_ : xF14 Z h0 ch (.int spc)) (P8_ : xF15 Z h0 ch (.long ldr)) (P9_ : xF16 Z h0 ch fev) (P10_ : xF17 Z h0 ch (.ref fg)) (P11_ : aN Z h0 fn kkf u0 u1) (P12_ : Exa Z h0 na sg5) (P13_ : xF18 Z h0 na ev) (P14_ : xF19 Z h0 na ra) (P15_ : Exa Z h0 nb sg5) (P16_ : xF18 Z h0 nb ew) (P17_ : xF19 Z h0 nb rb) (P18_ : xF20 Z h0 nb db) (P19_ : Exa Z h0 mx sg0) (P20_ : xF0 Z h0 mx (.ref my)) (P21_ : xF1 Z h0 mx (.long wmx)) (P22_ : xF2 Z h0 mx (.int fmx)) (P23_ : xF3 Z h0 mx (.int lmx)) (P24_ : Exa Z h0 my sg0) (P25_ : xF1 Z h0 my (.long wmy)) (P26_ : xF2 Z h0 my (.int fmy)) (P27_ : Exa Z h0 me sg0) (P28_ : xF0 Z h0 me .null) (P29_ : xF1 Z h0 me (.long wme)) (P30_ : xF2 Z h0 me (.int fme)) (P31_ : xF3 Z h0 me (.int lme)) (P32_ : aN Z h0 fg kkg v0 v1) (Okkg : Ovr Z kkg sg5) (g_ch : n0 ≤ ch) (g_me : n0 ≤ me) (g_mx : n0 ≤ mx) (g_fg : n0 ≤ fg) (n_ch_fn : ch ≠ fn) (n_ch_na : ch ≠ na) (n_ch_nb : ch ≠ nb) (n_ch_mx : ch ≠ mx) (n_ch_my : ch ≠ my) (n_ch_me : ch ≠ me) (n_ch_fg : ch ≠ fg) (n_fn_mx : fn ≠ mx) (n_fn_me : fn ≠ me) (n_fn_fg : fn ≠ fg) (n_na_mx : na ≠ mx) (n_na_me : na ≠ me) (n_na_fg : na ≠ fg) (n_nb_mx : nb ≠ mx) (n_nb_me : nb ≠ me) (n_nb_fg : nb ≠ fg) (n_mx_my : mx ≠ my) (n_mx_me : mx ≠ me) (n_mx_fg : mx ≠ fg) (n_my_me : my ≠ me) (n_my_fg : my ≠ fg) (n_me_fg : me ≠ fg) (hdr : (own_lanes ldr = (1 : Int32))) (hgx : (¬ ((own_gb fme wme fmx wmx) = (0 : Int32)))) (hgy : ((own_gb fme wme fmy wmy) = (0 : Int32))) (hDD : (own_DD u0 u1 ev ew ra rb db na nb mx my)) :
  oMF l Z mn22 (Jvm.Cond.code mn22 prog_2_method_11_code 2 none) ws (rO 5 0 0 75) #[(.ref ch), (.ref me)] h0 (Q_lkm Z ch me mx my fn ln bl fg na nb kkf kkg spc fmx lmx fmy fme lme ldr wmx wmy wme spv fev u0 u1 ev ra ew rb db v0 v1 h0 n0) := by
 refine MetFree.of_bodySF (plainFor_of_name pn_ordc) hisR ?_
 intro p e s m args below meth c s₁ Bd hml0 hP hK
 obtain ⟨rfl, hZ, hh⟩ := hP
 have hx := Bd.exec
 have hby := Bd.bytes
 have B : ∀ {pc r}, decode cd22 pc = r → decode c.code pc = r := fun h => hb hby h
 have hml : c.maxLocals = 2 := hml0
 have hown : s.vm.findClass sg3 = some m.cls := findClass_of_methodNamed Bd.named
 have hnm := (name_of_methodNamed Bd.named Bd.method).1
 have X0 : Stand p l e (rO 5 0 0 75) s m #[(.ref ch), (.ref me)] below meth c s₁ [] 0 0 := Stand.of_body Bd
 have e0 : s₁.heap = h0 := by rw [← hh, Bd.state]; rfl
 have N0 := Fr.nil n0
 refine own_in ?_
 refine own_go (S' := s₁.setTop (mkF m 0 #[zr ch, zr me] [])) (fun tgt_ stp_ => castTop (ef_ib0 m ch me) stp_) ?_
 have K0 : Keep h0 h0 [ch, me, mx, fg] := Keep.refl h0 _
 obtain ⟨cq_1, q_1, q_1'⟩ := P0_.cell
 obtain ⟨_, _, ⟨T_1, L_1, k_1, n_1⟩, -, X_1, ⟨Lc_1, hQ_1, l_1, y_1, z_1⟩, st_1⟩ := X0.privateBack hx (y := mn9) hown (oT hZ hw 69 rfl) (oT hZ hw 70 rfl) (psl_0 hZ hw) (oP hZ hw 71 rfl) (oT hZ hw 72 rfl) (by decide) (backOf (W := 0) (rm_clf l Z a0 hw [] ch fn ln bl fg kkg spc ldr (.ref mx) (.ref my) spv fev v0 v1 h0 n0 Z0 P0_ P1_ P2_ P3_ P4_ P5_ P6_ P7_ P8_ P9_ P10_ P32_ g_ch g_fg n_ch_fg) hZ (oW hw 72 rfl) (oW hw 19 rfl) (by decide) (by decide)) (g := (mkF m 1 #[zr ch, zr me] [(.ref ch)])) rfl (by rw [hml]; rfl) (Steps.refl _) (a := ch) (by rw [e0]; exact q_1) q_1' (argsL := []) (rest := []) (lenOf pd2 rfl) rfl (oQ rfl) (B d22_1) (fun _ _ => ⟨rfl, e0, (by decide : 0 + 0 ≤ _), (by decide : 0 + 0 ≤ _)⟩)
 dsimp only [Pt.U, Pt.locs, Pt.cells, Pt.slots] at X_1 l_1 y_1 z_1 st_1 hQ_1
 subst y_1 z_1
 obtain ⟨rfl, N_1q, p_1_0, p_1_1, p_1_2, p_1_3, p_1_4, p_1_5, p_1_6, p_1_7, p_1_8, p_1_9, p_1_10, p_1_11, p_1_12⟩ := hQ_1
 have N_1 : Fr n0 L_1 := by rw [l_1]; exact Fr.app N0 N_1q
 clear l_1
 have Z_2 := Nat.le_trans Z0 p_1_0.1
 have K_3 : Keep h0 T_1.heap [ch, me, mx, fg] := K0.trans p_1_0 fun x q => Or.inl (oM q 0 rfl fun q => oM1 q 3 rfl)
 have f_5 := (P11_.keep p_1_0 (oN1 (Ne.symm n_ch_fn) (oN1 n_fn_fg oN)))
 have f_6 := (P12_.keep p_1_0)
 have f_7 := (P13_.keep p_1_0 (oN1 (Ne.symm n_ch_na) (oN1 n_na_fg oN)))
 have f_8 := (P14_.keep p_1_0 (oN1 (Ne.symm n_ch_na) (oN1 n_na_fg oN)))
 have f_9 := (P15_.keep p_1_0)
 have f_10 := (P16_.keep p_1_0 (oN1 (Ne.symm n_ch_nb) (oN1 n_nb_fg oN)))
 have f_11 := (P17_.keep p_1_0 (oN1 (Ne.symm n_ch_nb) (oN1 n_nb_fg oN)))
 have f_12 := (P18_.keep p_1_0 (oN1 (Ne.symm n_ch_nb) (oN1 n_nb_fg oN)))
 have f_13 := (P19_.keep p_1_0)
 have f_14 := (P20_.keep p_1_0 (oN1 (Ne.symm n_ch_mx) (oN1 n_mx_fg oN)))
 have f_15 := (P21_.keep p_1_0 (oN1 (Ne.symm n_ch_mx) (oN1 n_mx_fg oN)))
 have f_16 := (P22_.keep p_1_0 (oN1 (Ne.symm n_ch_mx) (oN1 n_mx_fg oN)))
 have f_17 := (P23_.keep p_1_0 (oN1 (Ne.symm n_ch_mx) (oN1 n_mx_fg oN)))
 have f_18 := (P24_.keep p_1_0)
 have f_19 := (P25_.keep p_1_0 (oN1 (Ne.symm n_ch_my) (oN1 n_my_fg oN)))
 have f_20 := (P26_.keep p_1_0 (oN1 (Ne.symm n_ch_my) (oN1 n_my_fg oN)))
 have f_21 := (P27_.keep p_1_0)
 have f_22 := (P28_.keep p_1_0 (oN1 (Ne.symm n_ch_me) (oN1 n_me_fg oN)))
 have f_23 := (P29_.keep p_1_0 (oN1 (Ne.symm n_ch_me) (oN1 n_me_fg oN)))
 have f_24 := (P30_.keep p_1_0 (oN1 (Ne.symm n_ch_me) (oN1 n_me_fg oN)))
 have f_25 := (P31_.keep p_1_0 (oN1 (Ne.symm n_ch_me) (oN1 n_me_fg oN)))
 obtain ⟨cq_4, q_4, q_4'⟩ := p_1_1.cell
 obtain ⟨_, _, ⟨T_4, L_4, k_4, n_4⟩, -, X_4, ⟨Lc_4, hQ_4, l_4, y_4, z_4⟩, st_4⟩ := X_1.privateBack hx (y := mn21) hown (oT hZ hw 90 rfl) (oT hZ hw 91 rfl) (psl_7 hZ hw) (oP hZ hw 92 rfl) (oT hZ hw 93 rfl) (by decide) (backOf (W := 0) (rm_ibm l Z a0 hw [] ch me mx my fn ln bl fg _ _ kkg kkf spc fmx lmx fmy fme lme ldr wmx wmy wme spv u0 u1 ev ra ew rb db T_1.heap n0 Z_2 p_1_1 p_1_2 p_1_3 p_1_4 p_1_5 p_1_6 p_1_7 p_1_8 p_1_9 p_1_10 p_1_11 p_1_12 f_5 f_6 f_7 f_8 f_9 f_10 f_11 f_12 f_13 f_14 f_15 f_16 f_17 f_18 f_19 f_20 f_21 f_22 f_23 f_24 f_25 Okkg g_ch g_me g_mx g_fg n_ch_fg n_ch_fn n_ch_na n_ch_nb n_ch_mx n_ch_my n_ch_me (Ne.symm n_fn_fg) (Ne.symm n_na_fg) (Ne.symm n_nb_fg) (Ne.symm n_mx_fg) (Ne.symm n_my_fg) (Ne.symm n_me_fg) n_fn_mx n_fn_me n_na_mx n_na_me n_nb_mx n_nb_me n_mx_my n_mx_me n_my_me hdr hgx hgy hDD) hZ (oW hw 93 rfl) (oW hw 19 rfl) (by decide) (by decide)) (g := (mkF m 6 #[zr ch, zr me] [(.ref me), (.ref ch)])) rfl (by rw [hml]; rfl) (Steps.refl _) (a := ch) q_4 q_4' (argsL := [(.ref me)]) (rest := []) (lenOf pd12 rfl) rfl (oQ rfl) (B d22_6) (fun _ _ => ⟨rfl, rfl, (by decide : 0 + 0 ≤ _), (by decide : 0 + 0 ≤ _)⟩)
 dsimp only [Pt.U, Pt.locs, Pt.cells, Pt.slots] at X_4 l_4 y_4 z_4 st_4 hQ_4
 subst y_4 z_4
 obtain ⟨g0x_4, g1x_4, rfl, N_4q, p_4_0, p_4_1, p_4_2, p_4_3, p_4_4, p_4_5, p_4_6, p_4_7, p_4_8, p_4_9, p_4_10, p_4_11, p_4_12, p_4_13, p_4_14, p_4_15, p_4_16, p_4_17, p_4_18, p_4_19, p_4_20, p_4_21, p_4_22⟩ := hQ_4
 have N_4 : Fr n0 L_4 := by rw [l_4]; exact Fr.app N_1 N_4q
 clear l_4
 have Z_26 := Nat.le_trans Z_2 p_4_0.1
 have K_27 : Keep h0 T_4.heap [ch, me, mx, fg] := K_3.trans p_4_0 fun x q => Or.inl (oM q 0 rfl fun q => oM q 1 rfl fun q => oM q 2 rfl fun q => oM1 q 3 rfl)
 refine own_go (S' := T_4.setTop (mkF m 9 #[zr ch, zr me] [])) (fun target kt => ?_) ?_
 ·
  show oSt p e below s₁ m 0 #[zr ch, zr me] [] target
  refine XS.aloadN X0.here hx rfl (B d22_0) rfl rfl ?_
  refine st_1.trans ?_
  refine XS.aloadN X_1.here hx rfl (B d22_4) rfl rfl ?_
  refine XS.aloadN X_1.here hx rfl (B d22_5) rfl rfl ?_
  refine st_4.trans ?_
  exact kt
 obtain ⟨fs, hr, hrun, hended, hW, hsame⟩ := X_4.leave (v := none) (fun _ => rfl)
 refine ⟨_, _, X_4.returnOut hx Bd.returns (B d22_9) hr, hrun, hended, _, _, rfl, ?_, ⟨_, rfl⟩, hW, hsame.mono (by decide) (by decide)⟩
 show Q_lkm Z ch me mx my fn ln bl fg na nb kkf kkg spc fmx lmx fmy fme lme ldr wmx wmy wme spv fev u0 u1 ev ra ew rb db v0 v1 h0 n0 _ T_4.heap _
 exact ⟨g0x_4, g1x_4, rfl, N_4, K_27, p_4_1, p_4_2, p_4_3, p_4_4, p_4_5, p_4_6, p_4_7, p_4_8, p_4_9, p_4_10, p_4_11, p_4_12, p_4_13, p_4_14, p_4_15, p_4_16, p_4_17, p_4_18, p_4_19, p_4_20, p_4_21, p_4_22⟩
-- com/example/carillon/carillon/Chain.insert:(Lcom/example/carillon/carillon/Message;)V
theorem d23_0 : decode cd23 0 = .ok (.aload_n 0, 1) := by decide +kernel
theorem d23_1 : decode cd23 1 = .ok (.invokevirtual 107, 3) := by decide +kernel
theorem d23_4 : decode cd23 4 = .ok (.aload_n 0, 1) := by decide +kernel
theorem d23_5 : decode cd23 5 = .ok (.aload_n 1, 1) := by decide +kernel
theorem d23_6 : decode cd23 6 = .ok (.invokevirtual 71, 3) := by decide +kernel
theorem d23_9 : decode cd23 9 = .ok (.return_, 1) := by decide +kernel
def Q_in0 (Z : State) (ch me fn ln bl fg : Addr) (kkf kkl kkg : ClassId) (spc fme lme : Int32) (ldr wme : Int64) (hv fev v0 v1 : Value) (h0 : Heap) (n0 : Nat) (v : Option Value) (h : Heap) (L : List Loc) : Prop := ∃ (na : Addr), ∃ (nb : Addr), v = none ∧ Fr n0 L ∧ Keep h0 h [ch, me, fn, ln, fg] ∧ Exa Z h ch sg3 ∧ xF8 Z h ch (.ref me) ∧ xF9 Z h ch (.ref me) ∧ xF10 Z h ch (.ref fn) ∧ xF11 Z h ch (.ref ln) ∧ xF12 Z h ch (.ref bl) ∧ xF13 Z h ch .null ∧ xF14 Z h ch (.int spc) ∧ xF15 Z h ch (.long (own_next ldr)) ∧ xF16 Z h ch .null ∧ xF17 Z h ch (.ref fg) ∧ Exa Z h me sg0 ∧ xF0 Z h me .null ∧ xF1 Z h me (.long wme) ∧ xF2 Z h me (.int fme) ∧ xF3 Z h me (.int (3 : Int32)) ∧ Exa Z h na sg5 ∧ xF18 Z h na (.ref me) ∧ xF19 Z h na .null ∧ xF20 Z h na .null ∧ Exa Z h nb sg5 ∧ xF18 Z h nb (.ref me) ∧ xF19 Z h nb .null ∧ xF20 Z h nb (.ref na) ∧ aN Z h fn kkf (.ref na) (.ref nb) ∧ aN Z h ln kkl (.ref na) (.ref nb) ∧ h0.size ≤ na ∧ h0.size ≤ nb ∧ na ≠ nb ∧ aN Z h fg kkg .null .null
set_option maxRecDepth 65536 in
set_option maxHeartbeats 40000000 in
theorem rm_in0 (l : Launch) (Z : State) (a0 : Array Value) (hw : hwT Z a0) (ws : List Jvm.Cond) (ch me fn ln bl fg : Addr) (kkf kkl kkg : ClassId) (spc fme lme : Int32) (ldr wme : Int64) (hv fev v0 v1 : Value) (h0 : Heap) (n0 : Nat) (Z0 : n0 ≤ h0.size) (P0_ : Exa Z h0 ch sg3) (P1_ : xF8 Z h0 ch hv) (P2_ : xF9 Z h0 ch .null) (P3_ : xF10 Z h0 ch (.ref fn)) (P4_ : xF11 Z h0 ch (.ref ln)) (P5_ : xF12 Z h0 ch (.ref bl)) (P6_ : xF13 Z h0 ch .null) (P7_ : xF14 Z h0 ch (.int spc)) (P8_ : xF15 Z h0 ch (.long ldr)) (P9_ : xF16 Z h0 ch fev) (P10_ : xF17 Z h0 ch (.ref fg)) (P11_ : aN Z h0 fn kkf .null .null) (P12_ : aN Z h0 ln kkl .null .null) (P13_ : Exa Z h0 me sg0) (P14_ : xF0 Z h0 me .null) (P15_ : xF1 Z h0 me (.long wme)) (P16_ : xF2 Z h0 me (.int fme)) (P17_ : xF3 Z h0 me (.int lme)) (P18_ : aN Z h0 fg kkg v0 v1) (P19_ : Exa Z h0 bl sg4) (P20_ : xF4 Z h0 bl (.int (0 : Int32))) (Okkf : Ovr Z kkf sg5) (Okkl : Ovr Z kkl sg5) (g_ch : n0 ≤ ch) (g_me : n0 ≤ me) (g_fn : n0 ≤ fn) (g_ln : n0 ≤ ln) (g_fg : n0 ≤ fg) (n_ch_fn : ch ≠ fn) (n_ch_ln : ch ≠ ln) (n_ch_me : ch ≠ me) (n_ch_fg : ch ≠ fg) (n_ch_bl : ch ≠ bl) (n_fn_ln : fn ≠ ln) (n_fn_me : fn ≠ me) (n_fn_fg : fn ≠ fg) (n_fn_bl : fn ≠ bl) (n_ln_me : ln ≠ me) (n_ln_fg : ln ≠ fg) (n_ln_bl : ln ≠ bl) (n_me_fg : me ≠ fg) (n_me_bl : me ≠ bl) (n_fg_bl : fg ≠ bl) (hdr : (own_lanes ldr = (3 : Int32))) :
  oMF l Z mn23 (Jvm.Cond.code mn23 prog_2_method_10_code 2 none) ws (rO 7 2 6 98) #[(.ref ch), (.ref me)] h0 (Q_in0 Z ch me fn ln bl fg kkf kkl kkg spc fme lme ldr wme hv fev v0 v1 h0 n0) := by
 refine MetFree.of_bodySF (plainFor_of_name pn_ordc) hisR ?_
 intro p e s m args below meth c s₁ Bd hml0 hP hK
 obtain ⟨rfl, hZ, hh⟩ := hP
 have hx := Bd.exec
 have hby := Bd.bytes
 have B : ∀ {pc r}, decode cd23 pc = r → decode c.code pc = r := fun h => hb hby h
 have hml : c.maxLocals = 2 := hml0
 have hown : s.vm.findClass sg3 = some m.cls := findClass_of_methodNamed Bd.named
 have hnm := (name_of_methodNamed Bd.named Bd.method).1
 have X0 : Stand p l e (rO 7 2 6 98) s m #[(.ref ch), (.ref me)] below meth c s₁ [] 0 0 := Stand.of_body Bd
 have e0 : s₁.heap = h0 := by rw [← hh, Bd.state]; rfl
 have N0 := Fr.nil n0
 refine own_in ?_
 refine own_go (S' := s₁.setTop (mkF m 0 #[zr ch, zr me] [])) (fun tgt_ stp_ => castTop (ef_ib0 m ch me) stp_) ?_
 have K0 : Keep h0 h0 [ch, me, fn, ln, fg] := Keep.refl h0 _
 obtain ⟨cq_1, kq_1, q_1a, q_1b, q_1c⟩ := isOf hZ e0 P0_
 obtain ⟨_, _, ⟨T_1, L_1, k_1, n_1⟩, -, X_1, ⟨Lc_1, hQ_1, l_1, y_1, z_1⟩, st_1⟩ := X0.virtualBack hx (y := mn11) (z := mn11) hown (oT hZ hw 59 rfl) (oT hZ hw 60 rfl) (notFace_of_selects (args := #[]) (oT hZ hw 62 rfl)) (oT hZ hw 62 rfl) (oT hZ hw 61 rfl) (by decide) (backOf (W := 0) (rm_pal l Z a0 hw [] ch fn ln bl fg kkg spc ldr hv .null .null fev v0 v1 h0 n0 Z0 P0_ P1_ P2_ P3_ P4_ P5_ P6_ P7_ P8_ P9_ P10_ P19_ P20_ P18_ g_ch g_fg n_ch_bl n_ch_fg (Ne.symm n_fg_bl)) hZ (oW hw 63 rfl) (oW hw 19 rfl) (by decide) (by decide)) q_1a q_1c (g := (mkF m 1 #[zr ch, zr me] [(.ref ch)])) rfl (by rw [hml]; rfl) (Steps.refl _) (argsL := []) (rest := []) (lenOf pd2 rfl) rfl (oQ rfl) (B d23_1) (fun _ _ => ⟨rfl, e0, (by decide : 0 + 0 ≤ _), (by decide : 0 + 0 ≤ _)⟩)
 dsimp only [Pt.U, Pt.locs, Pt.cells, Pt.slots] at X_1 l_1 y_1 z_1 st_1 hQ_1
 subst y_1 z_1
 obtain ⟨rfl, N_1q, p_1_0, p_1_1, p_1_2, p_1_3, p_1_4, p_1_5, p_1_6, p_1_7, p_1_8, p_1_9, p_1_10, p_1_11, p_1_12⟩ := hQ_1
 have N_1 : Fr n0 L_1 := by rw [l_1]; exact Fr.app N0 N_1q
 clear l_1
 have Z_2 := Nat.le_trans Z0 p_1_0.1
 have K_3 : Keep h0 T_1.heap [ch, me, fn, ln, fg] := K0.trans p_1_0 fun x q => Or.inl (oM q 0 rfl fun q => oM1 q 4 rfl)
 have f_5 := (P11_.keep p_1_0 (oN1 (Ne.symm n_ch_fn) (oN1 n_fn_fg oN)))
 have f_6 := (P12_.keep p_1_0 (oN1 (Ne.symm n_ch_ln) (oN1 n_ln_fg oN)))
 have f_7 := (P13_.keep p_1_0)
 have f_8 := (P14_.keep p_1_0 (oN1 (Ne.symm n_ch_me) (oN1 n_me_fg oN)))
 have f_9 := (P15_.keep p_1_0 (oN1 (Ne.symm n_ch_me) (oN1 n_me_fg oN)))
 have f_10 := (P16_.keep p_1_0 (oN1 (Ne.symm n_ch_me) (oN1 n_me_fg oN)))
 have f_11 := (P17_.keep p_1_0 (oN1 (Ne.symm n_ch_me) (oN1 n_me_fg oN)))
 obtain ⟨cq_4, q_4, q_4'⟩ := p_1_1.cell
 obtain ⟨_, _, ⟨T_4, L_4, k_4, n_4⟩, -, X_4, ⟨Lc_4, hQ_4, l_4, y_4, z_4⟩, st_4⟩ := X_1.privateBack hx (y := mn22) hown (oT hZ hw 86 rfl) (oT hZ hw 87 rfl) (psl_8 hZ hw) (oP hZ hw 88 rfl) (oT hZ hw 89 rfl) (by decide) (backOf (W := 0) (rm_lk0 l Z a0 hw [] ch me fn ln bl fg kkf kkl kkg spc fme lme ldr wme hv .null .null .null T_1.heap n0 Z_2 p_1_1 p_1_2 p_1_3 p_1_4 p_1_5 p_1_6 p_1_7 p_1_8 p_1_9 p_1_10 p_1_11 f_5 f_6 f_7 f_8 f_9 f_10 f_11 p_1_12 Okkf Okkl g_ch g_me g_fn g_ln g_fg n_ch_fn n_ch_ln n_ch_me n_ch_fg n_fn_ln n_fn_me n_fn_fg n_ln_me n_ln_fg n_me_fg hdr) hZ (oW hw 89 rfl) (oW hw 19 rfl) (by decide) (by decide)) (g := (mkF m 6 #[zr ch, zr me] [(.ref me), (.ref ch)])) rfl (by rw [hml]; rfl) (Steps.refl _) (a := ch) q_4 q_4' (argsL := [(.ref me)]) (rest := []) (lenOf pd12 rfl) rfl (oQ rfl) (B d23_6) (fun _ _ => ⟨rfl, rfl, (by decide : 0 + 2 ≤ _), (by decide : 0 + 6 ≤ _)⟩)
 dsimp only [Pt.U, Pt.locs, Pt.cells, Pt.slots] at X_4 l_4 y_4 z_4 st_4 hQ_4
 subst y_4 z_4
 have f_12 := (P19_.keep p_1_0)
 obtain ⟨nax_4, nbx_4, rfl, N_4q, p_4_0, p_4_1, p_4_2, p_4_3, p_4_4, p_4_5, p_4_6, p_4_7, p_4_8, p_4_9, p_4_10, p_4_11, p_4_12, p_4_13, p_4_14, p_4_15, p_4_16, p_4_17, p_4_18, p_4_19, p_4_20, p_4_21, p_4_22, p_4_23, p_4_24, p_4_25, p_4_26, p_4_27, p_4_28, p_4_29, p_4_30⟩ := hQ_4
 have N_4 : Fr n0 L_4 := by rw [l_4]; exact Fr.app N_1 N_4q
 clear l_4
 have Z_13 := Nat.le_trans Z_2 p_4_0.1
 have K_14 : Keep h0 T_4.heap [ch, me, fn, ln, fg] := K_3.trans p_4_0 fun x q => Or.inl (oM q 0 rfl fun q => oM q 1 rfl fun q => oM q 2 rfl fun q => oM q 3 rfl fun q => oM1 q 4 rfl)
 have gn_nax_4 : n0 ≤ nax_4 := Nat.le_trans Z_2 p_4_27
 have sz_nax_4 : h0.size ≤ nax_4 := Nat.le_trans K_3.1 p_4_27
 have ne_ch_nax_4 : ch ≠ nax_4 := Nat.ne_of_lt (Nat.lt_of_lt_of_le p_1_1.lt p_4_27)
 have ne_fn_nax_4 : fn ≠ nax_4 := Nat.ne_of_lt (Nat.lt_of_lt_of_le f_5.lt p_4_27)
 have ne_ln_nax_4 : ln ≠ nax_4 := Nat.ne_of_lt (Nat.lt_of_lt_of_le f_6.lt p_4_27)
 have ne_me_nax_4 : me ≠ nax_4 := Nat.ne_of_lt (Nat.lt_of_lt_of_le f_7.lt p_4_27)
 have ne_fg_nax_4 : fg ≠ nax_4 := Nat.ne_of_lt (Nat.lt_of_lt_of_le p_1_12.lt p_4_27)
 have ne_bl_nax_4 : bl ≠ nax_4 := Nat.ne_of_lt (Nat.lt_of_lt_of_le f_12.lt p_4_27)
 have gn_nbx_4 : n0 ≤ nbx_4 := Nat.le_trans Z_2 p_4_28
 have sz_nbx_4 : h0.size ≤ nbx_4 := Nat.le_trans K_3.1 p_4_28
 have ne_ch_nbx_4 : ch ≠ nbx_4 := Nat.ne_of_lt (Nat.lt_of_lt_of_le p_1_1.lt p_4_28)
 have ne_fn_nbx_4 : fn ≠ nbx_4 := Nat.ne_of_lt (Nat.lt_of_lt_of_le f_5.lt p_4_28)
 have ne_ln_nbx_4 : ln ≠ nbx_4 := Nat.ne_of_lt (Nat.lt_of_lt_of_le f_6.lt p_4_28)
 have ne_me_nbx_4 : me ≠ nbx_4 := Nat.ne_of_lt (Nat.lt_of_lt_of_le f_7.lt p_4_28)
 have ne_fg_nbx_4 : fg ≠ nbx_4 := Nat.ne_of_lt (Nat.lt_of_lt_of_le p_1_12.lt p_4_28)
 have ne_bl_nbx_4 : bl ≠ nbx_4 := Nat.ne_of_lt (Nat.lt_of_lt_of_le f_12.lt p_4_28)
 refine own_go (S' := T_4.setTop (mkF m 9 #[zr ch, zr me] [])) (fun target kt => ?_) ?_
 ·
  show oSt p e below s₁ m 0 #[zr ch, zr me] [] target
  refine XS.aloadN X0.here hx rfl (B d23_0) rfl rfl ?_
  refine st_1.trans ?_
  refine XS.aloadN X_1.here hx rfl (B d23_4) rfl rfl ?_
  refine XS.aloadN X_1.here hx rfl (B d23_5) rfl rfl ?_
  refine st_4.trans ?_
  exact kt
 obtain ⟨fs, hr, hrun, hended, hW, hsame⟩ := X_4.leave (v := none) (fun _ => rfl)
 refine ⟨_, _, X_4.returnOut hx Bd.returns (B d23_9) hr, hrun, hended, _, _, rfl, ?_, ⟨_, rfl⟩, hW, hsame.mono (by decide) (by decide)⟩
 show Q_in0 Z ch me fn ln bl fg kkf kkl kkg spc fme lme ldr wme hv fev v0 v1 h0 n0 _ T_4.heap _
 exact ⟨nax_4, nbx_4, rfl, N_4, K_14, p_4_1, p_4_2, p_4_3, p_4_4, p_4_5, p_4_6, p_4_7, p_4_8, p_4_9, p_4_10, p_4_11, p_4_12, p_4_13, p_4_14, p_4_15, p_4_16, p_4_17, p_4_18, p_4_19, p_4_20, p_4_21, p_4_22, p_4_23, p_4_24, p_4_25, p_4_26, sz_nax_4, sz_nbx_4, p_4_29, p_4_30⟩
-- com/example/carillon/carillon/Chain.insert:(Lcom/example/carillon/carillon/Message;)V
def Q_ine (Z : State) (ch me mt fn ln bl fg : Addr) (kkg : ClassId) (spc fmt lmt fme lme : Int32) (ldr wmt wme : Int64) (hv spv fev v0 v1 : Value) (h0 : Heap) (n0 : Nat) (v : Option Value) (h : Heap) (L : List Loc) : Prop := v = none ∧ Fr n0 L ∧ Keep h0 h [ch, me, mt, fg] ∧ Exa Z h ch sg3 ∧ xF8 Z h ch hv ∧ xF9 Z h ch (.ref me) ∧ xF10 Z h ch (.ref fn) ∧ xF11 Z h ch (.ref ln) ∧ xF12 Z h ch (.ref bl) ∧ xF13 Z h ch spv ∧ xF14 Z h ch (.int spc) ∧ xF15 Z h ch (.long (own_next ldr)) ∧ xF16 Z h ch .null ∧ xF17 Z h ch (.ref fg) ∧ Exa Z h mt sg0 ∧ xF0 Z h mt (.ref me) ∧ xF1 Z h mt (.long wmt) ∧ xF2 Z h mt (.int fmt) ∧ xF3 Z h mt (.int lmt) ∧ Exa Z h me sg0 ∧ xF0 Z h me .null ∧ xF1 Z h me (.long wme) ∧ xF2 Z h me (.int fme) ∧ xF3 Z h me (.int (1 : Int32)) ∧ aN Z h fg kkg .null .null
set_option maxRecDepth 65536 in
set_option maxHeartbeats 40000000 in
theorem rm_ine (l : Launch) (Z : State) (a0 : Array Value) (hw : hwT Z a0) (ws : List Jvm.Cond) (ch me mt fn ln bl fg : Addr) (kkg : ClassId) (spc fmt lmt fme lme : Int32) (ldr wmt wme : Int64) (hv spv fev v0 v1 : Value) (h0 : Heap) (n0 : Nat) (Z0 : n0 ≤ h0.size) (P0_ : Exa Z h0 ch sg3) (P1_ : xF8 Z h0 ch hv) (P2_ : xF9 Z h0 ch (.ref mt)) (P3_ : xF10 Z h0 ch (.ref fn)) (P4_ : xF11 Z h0 ch (.ref ln)) (P5_ : xF12 Z h0 ch (.ref bl)) (P6_ : xF13 Z h0 ch spv) (P7_ : xF14 Z h0 ch (.int spc)) (P8_ : xF15 Z h0 ch (.long ldr)) (P9_ : xF16 Z h0 ch fev) (P10_ : xF17 Z h0 ch (.ref fg)) (P11_ : Exa Z h0 mt sg0) (P12_ : xF0 Z h0 mt .null) (P13_ : xF1 Z h0 mt (.long wmt)) (P14_ : xF2 Z h0 mt (.int fmt)) (P15_ : xF3 Z h0 mt (.int lmt)) (P16_ : Exa Z h0 me sg0) (P17_ : xF0 Z h0 me .null) (P18_ : xF1 Z h0 me (.long wme)) (P19_ : xF2 Z h0 me (.int fme)) (P20_ : xF3 Z h0 me (.int lme)) (P21_ : aN Z h0 fg kkg v0 v1) (P22_ : Exa Z h0 bl sg4) (P23_ : xF4 Z h0 bl (.int (0 : Int32))) (g_ch : n0 ≤ ch) (g_me : n0 ≤ me) (g_mt : n0 ≤ mt) (g_fg : n0 ≤ fg) (n_ch_mt : ch ≠ mt) (n_ch_me : ch ≠ me) (n_ch_fg : ch ≠ fg) (n_ch_bl : ch ≠ bl) (n_mt_me : mt ≠ me) (n_mt_fg : mt ≠ fg) (n_mt_bl : mt ≠ bl) (n_me_fg : me ≠ fg) (n_me_bl : me ≠ bl) (n_fg_bl : fg ≠ bl) (hdr : (own_lanes ldr = (1 : Int32))) (hgt : (¬ ((own_gb fme wme fmt wmt) = (0 : Int32)))) :
  oMF l Z mn23 (Jvm.Cond.code mn23 prog_2_method_10_code 2 none) ws (rO 6 0 0 83) #[(.ref ch), (.ref me)] h0 (Q_ine Z ch me mt fn ln bl fg kkg spc fmt lmt fme lme ldr wmt wme hv spv fev v0 v1 h0 n0) := by
 refine MetFree.of_bodySF (plainFor_of_name pn_ordc) hisR ?_
 intro p e s m args below meth c s₁ Bd hml0 hP hK
 obtain ⟨rfl, hZ, hh⟩ := hP
 have hx := Bd.exec
 have hby := Bd.bytes
 have B : ∀ {pc r}, decode cd23 pc = r → decode c.code pc = r := fun h => hb hby h
 have hml : c.maxLocals = 2 := hml0
 have hown : s.vm.findClass sg3 = some m.cls := findClass_of_methodNamed Bd.named
 have hnm := (name_of_methodNamed Bd.named Bd.method).1
 have X0 : Stand p l e (rO 6 0 0 83) s m #[(.ref ch), (.ref me)] below meth c s₁ [] 0 0 := Stand.of_body Bd
 have e0 : s₁.heap = h0 := by rw [← hh, Bd.state]; rfl
 have N0 := Fr.nil n0
 refine own_in ?_
 refine own_go (S' := s₁.setTop (mkF m 0 #[zr ch, zr me] [])) (fun tgt_ stp_ => castTop (ef_ib0 m ch me) stp_) ?_
 have K0 : Keep h0 h0 [ch, me, mt, fg] := Keep.refl h0 _
 obtain ⟨cq_1, kq_1, q_1a, q_1b, q_1c⟩ := isOf hZ e0 P0_
 obtain ⟨_, _, ⟨T_1, L_1, k_1, n_1⟩, -, X_1, ⟨Lc_1, hQ_1, l_1, y_1, z_1⟩, st_1⟩ := X0.virtualBack hx (y := mn11) (z := mn11) hown (oT hZ hw 59 rfl) (oT hZ hw 60 rfl) (notFace_of_selects (args := #[]) (oT hZ hw 62 rfl)) (oT hZ hw 62 rfl) (oT hZ hw 61 rfl) (by decide) (backOf (W := 0) (rm_pal l Z a0 hw [] ch fn ln bl fg kkg spc ldr hv (.ref mt) spv fev v0 v1 h0 n0 Z0 P0_ P1_ P2_ P3_ P4_ P5_ P6_ P7_ P8_ P9_ P10_ P22_ P23_ P21_ g_ch g_fg n_ch_bl n_ch_fg (Ne.symm n_fg_bl)) hZ (oW hw 63 rfl) (oW hw 19 rfl) (by decide) (by decide)) q_1a q_1c (g := (mkF m 1 #[zr ch, zr me] [(.ref ch)])) rfl (by rw [hml]; rfl) (Steps.refl _) (argsL := []) (rest := []) (lenOf pd2 rfl) rfl (oQ rfl) (B d23_1) (fun _ _ => ⟨rfl, e0, (by decide : 0 + 0 ≤ _), (by decide : 0 + 0 ≤ _)⟩)
 dsimp only [Pt.U, Pt.locs, Pt.cells, Pt.slots] at X_1 l_1 y_1 z_1 st_1 hQ_1
 subst y_1 z_1
 obtain ⟨rfl, N_1q, p_1_0, p_1_1, p_1_2, p_1_3, p_1_4, p_1_5, p_1_6, p_1_7, p_1_8, p_1_9, p_1_10, p_1_11, p_1_12⟩ := hQ_1
 have N_1 : Fr n0 L_1 := by rw [l_1]; exact Fr.app N0 N_1q
 clear l_1
 have Z_2 := Nat.le_trans Z0 p_1_0.1
 have K_3 : Keep h0 T_1.heap [ch, me, mt, fg] := K0.trans p_1_0 fun x q => Or.inl (oM q 0 rfl fun q => oM1 q 3 rfl)
 have f_5 := (P11_.keep p_1_0)
 have f_6 := (P12_.keep p_1_0 (oN1 (Ne.symm n_ch_mt) (oN1 n_mt_fg oN)))
 have f_7 := (P13_.keep p_1_0 (oN1 (Ne.symm n_ch_mt) (oN1 n_mt_fg oN)))
 have f_8 := (P14_.keep p_1_0 (oN1 (Ne.symm n_ch_mt) (oN1 n_mt_fg oN)))
 have f_9 := (P15_.keep p_1_0 (oN1 (Ne.symm n_ch_mt) (oN1 n_mt_fg oN)))
 have f_10 := (P16_.keep p_1_0)
 have f_11 := (P17_.keep p_1_0 (oN1 (Ne.symm n_ch_me) (oN1 n_me_fg oN)))
 have f_12 := (P18_.keep p_1_0 (oN1 (Ne.symm n_ch_me) (oN1 n_me_fg oN)))
 have f_13 := (P19_.keep p_1_0 (oN1 (Ne.symm n_ch_me) (oN1 n_me_fg oN)))
 have f_14 := (P20_.keep p_1_0 (oN1 (Ne.symm n_ch_me) (oN1 n_me_fg oN)))
 obtain ⟨cq_4, q_4, q_4'⟩ := p_1_1.cell
 obtain ⟨_, _, ⟨T_4, L_4, k_4, n_4⟩, -, X_4, ⟨Lc_4, hQ_4, l_4, y_4, z_4⟩, st_4⟩ := X_1.privateBack hx (y := mn22) hown (oT hZ hw 86 rfl) (oT hZ hw 87 rfl) (psl_8 hZ hw) (oP hZ hw 88 rfl) (oT hZ hw 89 rfl) (by decide) (backOf (W := 0) (rm_lke l Z a0 hw [] ch me mt fn ln bl fg kkg spc fmt lmt fme lme ldr wmt wme hv spv .null .null .null T_1.heap n0 Z_2 p_1_1 p_1_2 p_1_3 p_1_4 p_1_5 p_1_6 p_1_7 p_1_8 p_1_9 p_1_10 p_1_11 f_5 f_6 f_7 f_8 f_9 f_10 f_11 f_12 f_13 f_14 p_1_12 g_ch g_me g_mt g_fg n_ch_mt n_ch_me n_ch_fg n_mt_me n_mt_fg n_me_fg hdr hgt) hZ (oW hw 89 rfl) (oW hw 19 rfl) (by decide) (by decide)) (g := (mkF m 6 #[zr ch, zr me] [(.ref me), (.ref ch)])) rfl (by rw [hml]; rfl) (Steps.refl _) (a := ch) q_4 q_4' (argsL := [(.ref me)]) (rest := []) (lenOf pd12 rfl) rfl (oQ rfl) (B d23_6) (fun _ _ => ⟨rfl, rfl, (by decide : 0 + 0 ≤ _), (by decide : 0 + 0 ≤ _)⟩)
 dsimp only [Pt.U, Pt.locs, Pt.cells, Pt.slots] at X_4 l_4 y_4 z_4 st_4 hQ_4
 subst y_4 z_4
 obtain ⟨rfl, N_4q, p_4_0, p_4_1, p_4_2, p_4_3, p_4_4, p_4_5, p_4_6, p_4_7, p_4_8, p_4_9, p_4_10, p_4_11, p_4_12, p_4_13, p_4_14, p_4_15, p_4_16, p_4_17, p_4_18, p_4_19, p_4_20, p_4_21, p_4_22⟩ := hQ_4
 have N_4 : Fr n0 L_4 := by rw [l_4]; exact Fr.app N_1 N_4q
 clear l_4
 have Z_15 := Nat.le_trans Z_2 p_4_0.1
 have K_16 : Keep h0 T_4.heap [ch, me, mt, fg] := K_3.trans p_4_0 fun x q => Or.inl (oM q 0 rfl fun q => oM q 1 rfl fun q => oM q 2 rfl fun q => oM1 q 3 rfl)
 refine own_go (S' := T_4.setTop (mkF m 9 #[zr ch, zr me] [])) (fun target kt => ?_) ?_
 ·
  show oSt p e below s₁ m 0 #[zr ch, zr me] [] target
  refine XS.aloadN X0.here hx rfl (B d23_0) rfl rfl ?_
  refine st_1.trans ?_
  refine XS.aloadN X_1.here hx rfl (B d23_4) rfl rfl ?_
  refine XS.aloadN X_1.here hx rfl (B d23_5) rfl rfl ?_
  refine st_4.trans ?_
  exact kt
 obtain ⟨fs, hr, hrun, hended, hW, hsame⟩ := X_4.leave (v := none) (fun _ => rfl)
 refine ⟨_, _, X_4.returnOut hx Bd.returns (B d23_9) hr, hrun, hended, _, _, rfl, ?_, ⟨_, rfl⟩, hW, hsame.mono (by decide) (by decide)⟩
 show Q_ine Z ch me mt fn ln bl fg kkg spc fmt lmt fme lme ldr wmt wme hv spv fev v0 v1 h0 n0 _ T_4.heap _
 exact ⟨rfl, N_4, K_16, p_4_1, p_4_2, p_4_3, p_4_4, p_4_5, p_4_6, p_4_7, p_4_8, p_4_9, p_4_10, p_4_11, p_4_12, p_4_13, p_4_14, p_4_15, p_4_16, p_4_17, p_4_18, p_4_19, p_4_20, p_4_21, p_4_22⟩
-- com/example/carillon/carillon/Chain.insert:(Lcom/example/carillon/carillon/Message;)V
def Q_inf (Z : State) (ch me mx my fn ln bl fg na nb : Addr) (kkf kkg : ClassId) (spc fmx fmy fme lme : Int32) (ldr wmx wmy wme : Int64) (spv fev u0 u1 ev ra ew rb db v0 v1 : Value) (h0 : Heap) (n0 : Nat) (v : Option Value) (h : Heap) (L : List Loc) : Prop := v = none ∧ Fr n0 L ∧ Keep h0 h [ch, me, fg] ∧ Exa Z h ch sg3 ∧ xF8 Z h ch (.ref me) ∧ xF9 Z h ch (.ref my) ∧ xF10 Z h ch (.ref fn) ∧ xF11 Z h ch (.ref ln) ∧ xF12 Z h ch (.ref bl) ∧ xF13 Z h ch spv ∧ xF14 Z h ch (.int spc) ∧ xF15 Z h ch (.long (own_next ldr)) ∧ xF16 Z h ch (.ref me) ∧ xF17 Z h ch (.ref fg) ∧ Exa Z h me sg0 ∧ xF0 Z h me (.ref mx) ∧ xF1 Z h me (.long wme) ∧ xF2 Z h me (.int fme) ∧ xF3 Z h me (.int (1 : Int32)) ∧ aN Z h fg kkg .null .null
set_option maxRecDepth 65536 in
set_option maxHeartbeats 40000000 in
theorem rm_inf (l : Launch) (Z : State) (a0 : Array Value) (hw : hwT Z a0) (ws : List Jvm.Cond) (ch me mx my fn ln bl fg na nb : Addr) (kkf kkg : ClassId) (spc fmx fmy fme lme : Int32) (ldr wmx wmy wme : Int64) (spv fev u0 u1 ev ra ew rb db v0 v1 : Value) (h0 : Heap) (n0 : Nat) (Z0 : n0 ≤ h0.size) (P0_ : Exa Z h0 ch sg3) (P1_ : xF8 Z h0 ch (.ref mx)) (P2_ : xF9 Z h0 ch (.ref my)) (P3_ : xF10 Z h0 ch (.ref fn)) (P4_ : xF11 Z h0 ch (.ref ln)) (P5_ : xF12 Z h0 ch (.ref bl)) (P6_ : xF13 Z h0 ch spv) (P7_ : xF14 Z h0 ch (.int spc)) (P8_ : xF15 Z h0 ch (.long ldr)) (P9_ : xF16 Z h0 ch fev) (P10_ : xF17 Z h0 ch (.ref fg)) (P11_ : aN Z h0 fn kkf u0 u1) (P12_ : Exa Z h0 na sg5) (P13_ : xF18 Z h0 na ev) (P14_ : xF19 Z h0 na ra) (P15_ : Exa Z h0 nb sg5) (P16_ : xF18 Z h0 nb ew) (P17_ : xF19 Z h0 nb rb) (P18_ : xF20 Z h0 nb db) (P19_ : Exa Z h0 mx sg0) (P20_ : xF1 Z h0 mx (.long wmx)) (P21_ : xF2 Z h0 mx (.int fmx)) (P22_ : Exa Z h0 my sg0) (P23_ : xF1 Z h0 my (.long wmy)) (P24_ : xF2 Z h0 my (.int fmy)) (P25_ : Exa Z h0 me sg0) (P26_ : xF0 Z h0 me .null) (P27_ : xF1 Z h0 me (.long wme)) (P28_ : xF2 Z h0 me (.int fme)) (P29_ : xF3 Z h0 me (.int lme)) (P30_ : aN Z h0 fg kkg v0 v1) (P31_ : Exa Z h0 bl sg4) (P32_ : xF4 Z h0 bl (.int (0 : Int32))) (g_ch : n0 ≤ ch) (g_me : n0 ≤ me) (g_fg : n0 ≤ fg) (n_ch_fn : ch ≠ fn) (n_ch_na : ch ≠ na) (n_ch_nb : ch ≠ nb) (n_ch_mx : ch ≠ mx) (n_ch_my : ch ≠ my) (n_ch_me : ch ≠ me) (n_ch_fg : ch ≠ fg) (n_ch_bl : ch ≠ bl) (n_fn_me : fn ≠ me) (n_fn_fg : fn ≠ fg) (n_na_me : na ≠ me) (n_na_fg : na ≠ fg) (n_nb_me : nb ≠ me) (n_nb_fg : nb ≠ fg) (n_mx_me : mx ≠ me) (n_mx_fg : mx ≠ fg) (n_my_me : my ≠ me) (n_my_fg : my ≠ fg) (n_me_fg : me ≠ fg) (n_me_bl : me ≠ bl) (n_fg_bl : fg ≠ bl) (hdr : (own_lanes ldr = (1 : Int32))) (hgx : ((own_gb fme wme fmx wmx) = (0 : Int32))) (hgy : ((own_gb fme wme fmy wmy) = (0 : Int32))) (hDD : (own_DD u0 u1 ev ew ra rb db na nb mx my)) :
  oMF l Z mn23 (Jvm.Cond.code mn23 prog_2_method_10_code 2 none) ws (rO 6 0 0 88) #[(.ref ch), (.ref me)] h0 (Q_inf Z ch me mx my fn ln bl fg na nb kkf kkg spc fmx fmy fme lme ldr wmx wmy wme spv fev u0 u1 ev ra ew rb db v0 v1 h0 n0) := by
 refine MetFree.of_bodySF (plainFor_of_name pn_ordc) hisR ?_
 intro p e s m args below meth c s₁ Bd hml0 hP hK
 obtain ⟨rfl, hZ, hh⟩ := hP
 have hx := Bd.exec
 have hby := Bd.bytes
 have B : ∀ {pc r}, decode cd23 pc = r → decode c.code pc = r := fun h => hb hby h
 have hml : c.maxLocals = 2 := hml0
 have hown : s.vm.findClass sg3 = some m.cls := findClass_of_methodNamed Bd.named
 have hnm := (name_of_methodNamed Bd.named Bd.method).1
 have X0 : Stand p l e (rO 6 0 0 88) s m #[(.ref ch), (.ref me)] below meth c s₁ [] 0 0 := Stand.of_body Bd
 have e0 : s₁.heap = h0 := by rw [← hh, Bd.state]; rfl
 have N0 := Fr.nil n0
 refine own_in ?_
 refine own_go (S' := s₁.setTop (mkF m 0 #[zr ch, zr me] [])) (fun tgt_ stp_ => castTop (ef_ib0 m ch me) stp_) ?_
 have K0 : Keep h0 h0 [ch, me, fg] := Keep.refl h0 _
 obtain ⟨cq_1, kq_1, q_1a, q_1b, q_1c⟩ := isOf hZ e0 P0_
 obtain ⟨_, _, ⟨T_1, L_1, k_1, n_1⟩, -, X_1, ⟨Lc_1, hQ_1, l_1, y_1, z_1⟩, st_1⟩ := X0.virtualBack hx (y := mn11) (z := mn11) hown (oT hZ hw 59 rfl) (oT hZ hw 60 rfl) (notFace_of_selects (args := #[]) (oT hZ hw 62 rfl)) (oT hZ hw 62 rfl) (oT hZ hw 61 rfl) (by decide) (backOf (W := 0) (rm_pal l Z a0 hw [] ch fn ln bl fg kkg spc ldr (.ref mx) (.ref my) spv fev v0 v1 h0 n0 Z0 P0_ P1_ P2_ P3_ P4_ P5_ P6_ P7_ P8_ P9_ P10_ P31_ P32_ P30_ g_ch g_fg n_ch_bl n_ch_fg (Ne.symm n_fg_bl)) hZ (oW hw 63 rfl) (oW hw 19 rfl) (by decide) (by decide)) q_1a q_1c (g := (mkF m 1 #[zr ch, zr me] [(.ref ch)])) rfl (by rw [hml]; rfl) (Steps.refl _) (argsL := []) (rest := []) (lenOf pd2 rfl) rfl (oQ rfl) (B d23_1) (fun _ _ => ⟨rfl, e0, (by decide : 0 + 0 ≤ _), (by decide : 0 + 0 ≤ _)⟩)
 dsimp only [Pt.U, Pt.locs, Pt.cells, Pt.slots] at X_1 l_1 y_1 z_1 st_1 hQ_1
 subst y_1 z_1
 obtain ⟨rfl, N_1q, p_1_0, p_1_1, p_1_2, p_1_3, p_1_4, p_1_5, p_1_6, p_1_7, p_1_8, p_1_9, p_1_10, p_1_11, p_1_12⟩ := hQ_1
 have N_1 : Fr n0 L_1 := by rw [l_1]; exact Fr.app N0 N_1q
 clear l_1
 have Z_2 := Nat.le_trans Z0 p_1_0.1
 have K_3 : Keep h0 T_1.heap [ch, me, fg] := K0.trans p_1_0 fun x q => Or.inl (oM q 0 rfl fun q => oM1 q 2 rfl)
 have f_5 := (P11_.keep p_1_0 (oN1 (Ne.symm n_ch_fn) (oN1 n_fn_fg oN)))
 have f_6 := (P12_.keep p_1_0)
 have f_7 := (P13_.keep p_1_0 (oN1 (Ne.symm n_ch_na) (oN1 n_na_fg oN)))
 have f_8 := (P14_.keep p_1_0 (oN1 (Ne.symm n_ch_na) (oN1 n_na_fg oN)))
 have f_9 := (P15_.keep p_1_0)
 have f_10 := (P16_.keep p_1_0 (oN1 (Ne.symm n_ch_nb) (oN1 n_nb_fg oN)))
 have f_11 := (P17_.keep p_1_0 (oN1 (Ne.symm n_ch_nb) (oN1 n_nb_fg oN)))
 have f_12 := (P18_.keep p_1_0 (oN1 (Ne.symm n_ch_nb) (oN1 n_nb_fg oN)))
 have f_13 := (P19_.keep p_1_0)
 have f_14 := (P20_.keep p_1_0 (oN1 (Ne.symm n_ch_mx) (oN1 n_mx_fg oN)))
 have f_15 := (P21_.keep p_1_0 (oN1 (Ne.symm n_ch_mx) (oN1 n_mx_fg oN)))
 have f_16 := (P22_.keep p_1_0)
 have f_17 := (P23_.keep p_1_0 (oN1 (Ne.symm n_ch_my) (oN1 n_my_fg oN)))
 have f_18 := (P24_.keep p_1_0 (oN1 (Ne.symm n_ch_my) (oN1 n_my_fg oN)))
 have f_19 := (P25_.keep p_1_0)
 have f_20 := (P26_.keep p_1_0 (oN1 (Ne.symm n_ch_me) (oN1 n_me_fg oN)))
 have f_21 := (P27_.keep p_1_0 (oN1 (Ne.symm n_ch_me) (oN1 n_me_fg oN)))
 have f_22 := (P28_.keep p_1_0 (oN1 (Ne.symm n_ch_me) (oN1 n_me_fg oN)))
 have f_23 := (P29_.keep p_1_0 (oN1 (Ne.symm n_ch_me) (oN1 n_me_fg oN)))
 obtain ⟨cq_4, q_4, q_4'⟩ := p_1_1.cell
 obtain ⟨_, _, ⟨T_4, L_4, k_4, n_4⟩, -, X_4, ⟨Lc_4, hQ_4, l_4, y_4, z_4⟩, st_4⟩ := X_1.privateBack hx (y := mn22) hown (oT hZ hw 86 rfl) (oT hZ hw 87 rfl) (psl_8 hZ hw) (oP hZ hw 88 rfl) (oT hZ hw 89 rfl) (by decide) (backOf (W := 0) (rm_lkf l Z a0 hw [] ch me mx my fn ln bl fg _ _ kkf kkg spc fmx fmy fme lme ldr wmx wmy wme spv .null u0 u1 ev ra ew rb db .null .null T_1.heap n0 Z_2 p_1_1 p_1_2 p_1_3 p_1_4 p_1_5 p_1_6 p_1_7 p_1_8 p_1_9 p_1_10 p_1_11 f_5 f_6 f_7 f_8 f_9 f_10 f_11 f_12 f_13 f_14 f_15 f_16 f_17 f_18 f_19 f_20 f_21 f_22 f_23 p_1_12 g_ch g_me g_fg n_ch_fn n_ch_na n_ch_nb n_ch_mx n_ch_my n_ch_me n_ch_fg n_fn_me n_fn_fg n_na_me n_na_fg n_nb_me n_nb_fg n_mx_me n_mx_fg n_my_me n_my_fg n_me_fg hdr hgx hgy hDD) hZ (oW hw 89 rfl) (oW hw 19 rfl) (by decide) (by decide)) (g := (mkF m 6 #[zr ch, zr me] [(.ref me), (.ref ch)])) rfl (by rw [hml]; rfl) (Steps.refl _) (a := ch) q_4 q_4' (argsL := [(.ref me)]) (rest := []) (lenOf pd12 rfl) rfl (oQ rfl) (B d23_6) (fun _ _ => ⟨rfl, rfl, (by decide : 0 + 0 ≤ _), (by decide : 0 + 0 ≤ _)⟩)
 dsimp only [Pt.U, Pt.locs, Pt.cells, Pt.slots] at X_4 l_4 y_4 z_4 st_4 hQ_4
 subst y_4 z_4
 obtain ⟨rfl, N_4q, p_4_0, p_4_1, p_4_2, p_4_3, p_4_4, p_4_5, p_4_6, p_4_7, p_4_8, p_4_9, p_4_10, p_4_11, p_4_12, p_4_13, p_4_14, p_4_15, p_4_16, p_4_17⟩ := hQ_4
 have N_4 : Fr n0 L_4 := by rw [l_4]; exact Fr.app N_1 N_4q
 clear l_4
 have Z_24 := Nat.le_trans Z_2 p_4_0.1
 have K_25 : Keep h0 T_4.heap [ch, me, fg] := K_3.trans p_4_0 fun x q => Or.inl (oM q 0 rfl fun q => oM q 1 rfl fun q => oM1 q 2 rfl)
 refine own_go (S' := T_4.setTop (mkF m 9 #[zr ch, zr me] [])) (fun target kt => ?_) ?_
 ·
  show oSt p e below s₁ m 0 #[zr ch, zr me] [] target
  refine XS.aloadN X0.here hx rfl (B d23_0) rfl rfl ?_
  refine st_1.trans ?_
  refine XS.aloadN X_1.here hx rfl (B d23_4) rfl rfl ?_
  refine XS.aloadN X_1.here hx rfl (B d23_5) rfl rfl ?_
  refine st_4.trans ?_
  exact kt
 obtain ⟨fs, hr, hrun, hended, hW, hsame⟩ := X_4.leave (v := none) (fun _ => rfl)
 refine ⟨_, _, X_4.returnOut hx Bd.returns (B d23_9) hr, hrun, hended, _, _, rfl, ?_, ⟨_, rfl⟩, hW, hsame.mono (by decide) (by decide)⟩
 show Q_inf Z ch me mx my fn ln bl fg na nb kkf kkg spc fmx fmy fme lme ldr wmx wmy wme spv fev u0 u1 ev ra ew rb db v0 v1 h0 n0 _ T_4.heap _
 exact ⟨rfl, N_4, K_25, p_4_1, p_4_2, p_4_3, p_4_4, p_4_5, p_4_6, p_4_7, p_4_8, p_4_9, p_4_10, p_4_11, p_4_12, p_4_13, p_4_14, p_4_15, p_4_16, p_4_17⟩
-- com/example/carillon/carillon/Chain.insert:(Lcom/example/carillon/carillon/Message;)V
def Q_inm (Z : State) (ch me mx my fn ln bl fg na nb : Addr) (kkf kkg : ClassId) (spc fmx lmx fmy fme lme : Int32) (ldr wmx wmy wme : Int64) (spv fev u0 u1 ev ra ew rb db v0 v1 : Value) (h0 : Heap) (n0 : Nat) (v : Option Value) (h : Heap) (L : List Loc) : Prop := ∃ (g0 : Value), ∃ (g1 : Value), v = none ∧ Fr n0 L ∧ Keep h0 h [ch, me, mx, fg] ∧ Exa Z h ch sg3 ∧ xF8 Z h ch (.ref mx) ∧ xF9 Z h ch (.ref my) ∧ xF10 Z h ch (.ref fn) ∧ xF11 Z h ch (.ref ln) ∧ xF12 Z h ch (.ref bl) ∧ xF13 Z h ch spv ∧ xF14 Z h ch (.int spc) ∧ xF15 Z h ch (.long (own_next ldr)) ∧ xF16 Z h ch (.ref me) ∧ xF17 Z h ch (.ref fg) ∧ aN Z h fg kkg g0 g1 ∧ Exa Z h mx sg0 ∧ xF0 Z h mx (.ref me) ∧ xF1 Z h mx (.long wmx) ∧ xF2 Z h mx (.int fmx) ∧ xF3 Z h mx (.int lmx) ∧ Exa Z h me sg0 ∧ xF0 Z h me (.ref my) ∧ xF1 Z h me (.long wme) ∧ xF2 Z h me (.int fme) ∧ xF3 Z h me (.int (1 : Int32))
set_option maxRecDepth 65536 in
set_option maxHeartbeats 40000000 in
theorem rm_inm (l : Launch) (Z : State) (a0 : Array Value) (hw : hwT Z a0) (ws : List Jvm.Cond) (ch me mx my fn ln bl fg na nb : Addr) (kkf kkg : ClassId) (spc fmx lmx fmy fme lme : Int32) (ldr wmx wmy wme : Int64) (spv fev u0 u1 ev ra ew rb db v0 v1 : Value) (h0 : Heap) (n0 : Nat) (Z0 : n0 ≤ h0.size) (P0_ : Exa Z h0 ch sg3) (P1_ : xF8 Z h0 ch (.ref mx)) (P2_ : xF9 Z h0 ch (.ref my)) (P3_ : xF10 Z h0 ch (.ref fn)) (P4_ : xF11 Z h0 ch (.ref ln)) (P5_ : xF12 Z h0 ch (.ref bl)) (P6_ : xF13 Z h0 ch spv) (P7_ : xF14 Z h0 ch (.int spc)) (P8_ : xF15 Z h0 ch (.long ldr)) (P9_ : xF16 Z h0 ch fev) (P10_ : xF17 Z h0 ch (.ref fg)) (P11_ : aN Z h0 fn kkf u0 u1) (P12_ : Exa Z h0 na sg5) (P13_ : xF18 Z h0 na ev) (P14_ : xF19 Z h0 na ra) (P15_ : Exa Z h0 nb sg5) (P16_ : xF18 Z h0 nb ew) (P17_ : xF19 Z h0 nb rb) (P18_ : xF20 Z h0 nb db) (P19_ : Exa Z h0 mx sg0) (P20_ : xF0 Z h0 mx (.ref my)) (P21_ : xF1 Z h0 mx (.long wmx)) (P22_ : xF2 Z h0 mx (.int fmx)) (P23_ : xF3 Z h0 mx (.int lmx)) (P24_ : Exa Z h0 my sg0) (P25_ : xF1 Z h0 my (.long wmy)) (P26_ : xF2 Z h0 my (.int fmy)) (P27_ : Exa Z h0 me sg0) (P28_ : xF0 Z h0 me .null) (P29_ : xF1 Z h0 me (.long wme)) (P30_ : xF2 Z h0 me (.int fme)) (P31_ : xF3 Z h0 me (.int lme)) (P32_ : aN Z h0 fg kkg v0 v1) (P33_ : Exa Z h0 bl sg4) (P34_ : xF4 Z h0 bl (.int (0 : Int32))) (Okkg : Ovr Z kkg sg5) (g_ch : n0 ≤ ch) (g_me : n0 ≤ me) (g_mx : n0 ≤ mx) (g_fg : n0 ≤ fg) (n_ch_fn : ch ≠ fn) (n_ch_na : ch ≠ na) (n_ch_nb : ch ≠ nb) (n_ch_mx : ch ≠ mx) (n_ch_my : ch ≠ my) (n_ch_me : ch ≠ me) (n_ch_fg : ch ≠ fg) (n_ch_bl : ch ≠ bl) (n_fn_mx : fn ≠ mx) (n_fn_me : fn ≠ me) (n_fn_fg : fn ≠ fg) (n_na_mx : na ≠ mx) (n_na_me : na ≠ me) (n_na_fg : na ≠ fg) (n_nb_mx : nb ≠ mx) (n_nb_me : nb ≠ me) (n_nb_fg : nb ≠ fg) (n_mx_my : mx ≠ my) (n_mx_me : mx ≠ me) (n_mx_fg : mx ≠ fg) (n_mx_bl : mx ≠ bl) (n_my_me : my ≠ me) (n_my_fg : my ≠ fg) (n_me_fg : me ≠ fg) (n_me_bl : me ≠ bl) (n_fg_bl : fg ≠ bl) (hdr : (own_lanes ldr = (1 : Int32))) (hgx : (¬ ((own_gb fme wme fmx wmx) = (0 : Int32)))) (hgy : ((own_gb fme wme fmy wmy) = (0 : Int32))) (hDD : (own_DD u0 u1 ev ew ra rb db na nb mx my)) :
  oMF l Z mn23 (Jvm.Cond.code mn23 prog_2_method_10_code 2 none) ws (rO 6 0 0 88) #[(.ref ch), (.ref me)] h0 (Q_inm Z ch me mx my fn ln bl fg na nb kkf kkg spc fmx lmx fmy fme lme ldr wmx wmy wme spv fev u0 u1 ev ra ew rb db v0 v1 h0 n0) := by
 refine MetFree.of_bodySF (plainFor_of_name pn_ordc) hisR ?_
 intro p e s m args below meth c s₁ Bd hml0 hP hK
 obtain ⟨rfl, hZ, hh⟩ := hP
 have hx := Bd.exec
 have hby := Bd.bytes
 have B : ∀ {pc r}, decode cd23 pc = r → decode c.code pc = r := fun h => hb hby h
 have hml : c.maxLocals = 2 := hml0
 have hown : s.vm.findClass sg3 = some m.cls := findClass_of_methodNamed Bd.named
 have hnm := (name_of_methodNamed Bd.named Bd.method).1
 have X0 : Stand p l e (rO 6 0 0 88) s m #[(.ref ch), (.ref me)] below meth c s₁ [] 0 0 := Stand.of_body Bd
 have e0 : s₁.heap = h0 := by rw [← hh, Bd.state]; rfl
 have N0 := Fr.nil n0
 refine own_in ?_
 refine own_go (S' := s₁.setTop (mkF m 0 #[zr ch, zr me] [])) (fun tgt_ stp_ => castTop (ef_ib0 m ch me) stp_) ?_
 have K0 : Keep h0 h0 [ch, me, mx, fg] := Keep.refl h0 _
 obtain ⟨cq_1, kq_1, q_1a, q_1b, q_1c⟩ := isOf hZ e0 P0_
 obtain ⟨_, _, ⟨T_1, L_1, k_1, n_1⟩, -, X_1, ⟨Lc_1, hQ_1, l_1, y_1, z_1⟩, st_1⟩ := X0.virtualBack hx (y := mn11) (z := mn11) hown (oT hZ hw 59 rfl) (oT hZ hw 60 rfl) (notFace_of_selects (args := #[]) (oT hZ hw 62 rfl)) (oT hZ hw 62 rfl) (oT hZ hw 61 rfl) (by decide) (backOf (W := 0) (rm_pal l Z a0 hw [] ch fn ln bl fg kkg spc ldr (.ref mx) (.ref my) spv fev v0 v1 h0 n0 Z0 P0_ P1_ P2_ P3_ P4_ P5_ P6_ P7_ P8_ P9_ P10_ P33_ P34_ P32_ g_ch g_fg n_ch_bl n_ch_fg (Ne.symm n_fg_bl)) hZ (oW hw 63 rfl) (oW hw 19 rfl) (by decide) (by decide)) q_1a q_1c (g := (mkF m 1 #[zr ch, zr me] [(.ref ch)])) rfl (by rw [hml]; rfl) (Steps.refl _) (argsL := []) (rest := []) (lenOf pd2 rfl) rfl (oQ rfl) (B d23_1) (fun _ _ => ⟨rfl, e0, (by decide : 0 + 0 ≤ _), (by decide : 0 + 0 ≤ _)⟩)
 dsimp only [Pt.U, Pt.locs, Pt.cells, Pt.slots] at X_1 l_1 y_1 z_1 st_1 hQ_1
 subst y_1 z_1
 obtain ⟨rfl, N_1q, p_1_0, p_1_1, p_1_2, p_1_3, p_1_4, p_1_5, p_1_6, p_1_7, p_1_8, p_1_9, p_1_10, p_1_11, p_1_12⟩ := hQ_1
 have N_1 : Fr n0 L_1 := by rw [l_1]; exact Fr.app N0 N_1q
 clear l_1
 have Z_2 := Nat.le_trans Z0 p_1_0.1
 have K_3 : Keep h0 T_1.heap [ch, me, mx, fg] := K0.trans p_1_0 fun x q => Or.inl (oM q 0 rfl fun q => oM1 q 3 rfl)
 have f_5 := (P11_.keep p_1_0 (oN1 (Ne.symm n_ch_fn) (oN1 n_fn_fg oN)))
 have f_6 := (P12_.keep p_1_0)
 have f_7 := (P13_.keep p_1_0 (oN1 (Ne.symm n_ch_na) (oN1 n_na_fg oN)))
 have f_8 := (P14_.keep p_1_0 (oN1 (Ne.symm n_ch_na) (oN1 n_na_fg oN)))
 have f_9 := (P15_.keep p_1_0)
 have f_10 := (P16_.keep p_1_0 (oN1 (Ne.symm n_ch_nb) (oN1 n_nb_fg oN)))
 have f_11 := (P17_.keep p_1_0 (oN1 (Ne.symm n_ch_nb) (oN1 n_nb_fg oN)))
 have f_12 := (P18_.keep p_1_0 (oN1 (Ne.symm n_ch_nb) (oN1 n_nb_fg oN)))
 have f_13 := (P19_.keep p_1_0)
 have f_14 := (P20_.keep p_1_0 (oN1 (Ne.symm n_ch_mx) (oN1 n_mx_fg oN)))
 have f_15 := (P21_.keep p_1_0 (oN1 (Ne.symm n_ch_mx) (oN1 n_mx_fg oN)))
 have f_16 := (P22_.keep p_1_0 (oN1 (Ne.symm n_ch_mx) (oN1 n_mx_fg oN)))
 have f_17 := (P23_.keep p_1_0 (oN1 (Ne.symm n_ch_mx) (oN1 n_mx_fg oN)))
 have f_18 := (P24_.keep p_1_0)
 have f_19 := (P25_.keep p_1_0 (oN1 (Ne.symm n_ch_my) (oN1 n_my_fg oN)))
 have f_20 := (P26_.keep p_1_0 (oN1 (Ne.symm n_ch_my) (oN1 n_my_fg oN)))
 have f_21 := (P27_.keep p_1_0)
 have f_22 := (P28_.keep p_1_0 (oN1 (Ne.symm n_ch_me) (oN1 n_me_fg oN)))
 have f_23 := (P29_.keep p_1_0 (oN1 (Ne.symm n_ch_me) (oN1 n_me_fg oN)))
 have f_24 := (P30_.keep p_1_0 (oN1 (Ne.symm n_ch_me) (oN1 n_me_fg oN)))
 have f_25 := (P31_.keep p_1_0 (oN1 (Ne.symm n_ch_me) (oN1 n_me_fg oN)))
 obtain ⟨cq_4, q_4, q_4'⟩ := p_1_1.cell
 obtain ⟨_, _, ⟨T_4, L_4, k_4, n_4⟩, -, X_4, ⟨Lc_4, hQ_4, l_4, y_4, z_4⟩, st_4⟩ := X_1.privateBack hx (y := mn22) hown (oT hZ hw 86 rfl) (oT hZ hw 87 rfl) (psl_8 hZ hw) (oP hZ hw 88 rfl) (oT hZ hw 89 rfl) (by decide) (backOf (W := 0) (rm_lkm l Z a0 hw [] ch me mx my fn ln bl fg _ _ kkf kkg spc fmx lmx fmy fme lme ldr wmx wmy wme spv .null u0 u1 ev ra ew rb db .null .null T_1.heap n0 Z_2 p_1_1 p_1_2 p_1_3 p_1_4 p_1_5 p_1_6 p_1_7 p_1_8 p_1_9 p_1_10 p_1_11 f_5 f_6 f_7 f_8 f_9 f_10 f_11 f_12 f_13 f_14 f_15 f_16 f_17 f_18 f_19 f_20 f_21 f_22 f_23 f_24 f_25 p_1_12 Okkg g_ch g_me g_mx g_fg n_ch_fn n_ch_na n_ch_nb n_ch_mx n_ch_my n_ch_me n_ch_fg n_fn_mx n_fn_me n_fn_fg n_na_mx n_na_me n_na_fg n_nb_mx n_nb_me n_nb_fg n_mx_my n_mx_me n_mx_fg n_my_me n_my_fg n_me_fg hdr hgx hgy hDD) hZ (oW hw 89 rfl) (oW hw 19 rfl) (by decide) (by decide)) (g := (mkF m 6 #[zr ch, zr me] [(.ref me), (.ref ch)])) rfl (by rw [hml]; rfl) (Steps.refl _) (a := ch) q_4 q_4' (argsL := [(.ref me)]) (rest := []) (lenOf pd12 rfl) rfl (oQ rfl) (B d23_6) (fun _ _ => ⟨rfl, rfl, (by decide : 0 + 0 ≤ _), (by decide : 0 + 0 ≤ _)⟩)
 dsimp only [Pt.U, Pt.locs, Pt.cells, Pt.slots] at X_4 l_4 y_4 z_4 st_4 hQ_4
 subst y_4 z_4
 obtain ⟨g0x_4, g1x_4, rfl, N_4q, p_4_0, p_4_1, p_4_2, p_4_3, p_4_4, p_4_5, p_4_6, p_4_7, p_4_8, p_4_9, p_4_10, p_4_11, p_4_12, p_4_13, p_4_14, p_4_15, p_4_16, p_4_17, p_4_18, p_4_19, p_4_20, p_4_21, p_4_22⟩ := hQ_4
 have N_4 : Fr n0 L_4 := by rw [l_4]; exact Fr.app N_1 N_4q
 clear l_4
 have Z_26 := Nat.le_trans Z_2 p_4_0.1
 have K_27 : Keep h0 T_4.heap [ch, me, mx, fg] := K_3.trans p_4_0 fun x q => Or.inl (oM q 0 rfl fun q => oM q 1 rfl fun q => oM q 2 rfl fun q => oM1 q 3 rfl)
 refine own_go (S' := T_4.setTop (mkF m 9 #[zr ch, zr me] [])) (fun target kt => ?_) ?_
 ·
  show oSt p e below s₁ m 0 #[zr ch, zr me] [] target
  refine XS.aloadN X0.here hx rfl (B d23_0) rfl rfl ?_
  refine st_1.trans ?_
  refine XS.aloadN X_1.here hx rfl (B d23_4) rfl rfl ?_
  refine XS.aloadN X_1.here hx rfl (B d23_5) rfl rfl ?_
  refine st_4.trans ?_
  exact kt
 obtain ⟨fs, hr, hrun, hended, hW, hsame⟩ := X_4.leave (v := none) (fun _ => rfl)
 refine ⟨_, _, X_4.returnOut hx Bd.returns (B d23_9) hr, hrun, hended, _, _, rfl, ?_, ⟨_, rfl⟩, hW, hsame.mono (by decide) (by decide)⟩
 show Q_inm Z ch me mx my fn ln bl fg na nb kkf kkg spc fmx lmx fmy fme lme ldr wmx wmy wme spv fev u0 u1 ev ra ew rb db v0 v1 h0 n0 _ T_4.heap _
 exact ⟨g0x_4, g1x_4, rfl, N_4, K_27, p_4_1, p_4_2, p_4_3, p_4_4, p_4_5, p_4_6, p_4_7, p_4_8, p_4_9, p_4_10, p_4_11, p_4_12, p_4_13, p_4_14, p_4_15, p_4_16, p_4_17, p_4_18, p_4_19, p_4_20, p_4_21, p_4_22⟩
-- com/example/carillon/carillon/Chain.<init>:()V
theorem d24_0 : decode cd24 0 = .ok (.aload_n 0, 1) := by decide +kernel
theorem d24_1 : decode cd24 1 = .ok (.invokespecial 1, 3) := by decide +kernel
theorem d24_4 : decode cd24 4 = .ok (.aload_n 0, 1) := by decide +kernel
theorem d24_5 : decode cd24 5 = .ok (.bipush 11, 2) := by decide +kernel
theorem d24_7 : decode cd24 7 = .ok (.anewarray 9, 3) := by decide +kernel
theorem d24_10 : decode cd24 10 = .ok (.putfield 11, 3) := by decide +kernel
theorem d24_13 : decode cd24 13 = .ok (.aload_n 0, 1) := by decide +kernel
theorem d24_14 : decode cd24 14 = .ok (.bipush 11, 2) := by decide +kernel
theorem d24_16 : decode cd24 16 = .ok (.anewarray 9, 3) := by decide +kernel
theorem d24_19 : decode cd24 19 = .ok (.putfield 15, 3) := by decide +kernel
theorem d24_22 : decode cd24 22 = .ok (.aload_n 0, 1) := by decide +kernel
theorem d24_23 : decode cd24 23 = .ok (.new 18, 3) := by decide +kernel
theorem d24_26 : decode cd24 26 = .ok (.dup, 1) := by decide +kernel
theorem d24_27 : decode cd24 27 = .ok (.invokespecial 20, 3) := by decide +kernel
theorem d24_30 : decode cd24 30 = .ok (.putfield 21, 3) := by decide +kernel
theorem d24_33 : decode cd24 33 = .ok (.aload_n 0, 1) := by decide +kernel
theorem d24_34 : decode cd24 34 = .ok (.ldc2_w 25, 3) := by decide +kernel
theorem d24_37 : decode cd24 37 = .ok (.putfield 27, 3) := by decide +kernel
theorem d24_40 : decode cd24 40 = .ok (.aload_n 0, 1) := by decide +kernel
theorem d24_41 : decode cd24 41 = .ok (.bipush 11, 2) := by decide +kernel
theorem d24_43 : decode cd24 43 = .ok (.anewarray 9, 3) := by decide +kernel
theorem d24_46 : decode cd24 46 = .ok (.putfield 31, 3) := by decide +kernel
theorem d24_49 : decode cd24 49 = .ok (.return_, 1) := by decide +kernel
def Q_ci (Z : State) (ch : Addr) (h0 : Heap) (n0 : Nat) (v : Option Value) (h : Heap) (L : List Loc) : Prop := ∃ (fn : Addr), ∃ (ln : Addr), ∃ (bl : Addr), ∃ (fg : Addr), ∃ (kkf : ClassId), ∃ (kkl : ClassId), ∃ (kkg : ClassId), v = none ∧ Fr n0 L ∧ Keep h0 h [ch] ∧ Exa Z h ch sg3 ∧ xF8 Z h ch .null ∧ xF9 Z h ch .null ∧ xF10 Z h ch (.ref fn) ∧ xF11 Z h ch (.ref ln) ∧ xF12 Z h ch (.ref bl) ∧ xF13 Z h ch .null ∧ xF14 Z h ch (.int (0 : Int32)) ∧ xF15 Z h ch (.long (-7046029254386353131 : Int64)) ∧ xF16 Z h ch .null ∧ xF17 Z h ch (.ref fg) ∧ aN Z h fn kkf .null .null ∧ aN Z h ln kkl .null .null ∧ aN Z h fg kkg .null .null ∧ Exa Z h bl sg4 ∧ xF4 Z h bl (.int (0 : Int32)) ∧ xF5 Z h bl (.long (-9223372036854775808 : Int64)) ∧ Ovr Z kkf sg5 ∧ Ovr Z kkl sg5 ∧ Ovr Z kkg sg5 ∧ h0.size ≤ fn ∧ h0.size ≤ ln ∧ h0.size ≤ bl ∧ h0.size ≤ fg ∧ fn ≠ ln ∧ fn ≠ bl ∧ fn ≠ fg ∧ ln ≠ bl ∧ ln ≠ fg ∧ bl ≠ fg
set_option maxRecDepth 65536 in
set_option maxHeartbeats 40000000 in
theorem rm_ci (l : Launch) (Z : State) (a0 : Array Value) (hw : hwT Z a0) (ws : List Jvm.Cond) (ch : Addr) (h0 : Heap) (n0 : Nat) (Z0 : n0 ≤ h0.size) (P0_ : Exa Z h0 ch sg3) (P1_ : xF8 Z h0 ch .null) (P2_ : xF9 Z h0 ch .null) (P3_ : xF10 Z h0 ch .null) (P4_ : xF11 Z h0 ch .null) (P5_ : xF12 Z h0 ch .null) (P6_ : xF13 Z h0 ch .null) (P7_ : xF14 Z h0 ch (.int (0 : Int32))) (P8_ : xF15 Z h0 ch (.long (0 : Int64))) (P9_ : xF16 Z h0 ch .null) (P10_ : xF17 Z h0 ch .null) (g_ch : n0 ≤ ch) :
  oMF l Z mn24 (Jvm.Cond.code mn24 prog_2_method_1_code 1 none) ws (rO 2 6 38 26) #[(.ref ch)] h0 (Q_ci Z ch h0 n0) := by
 refine MetFree.of_bodySF (plainFor_of_name pn_ordc) hisR ?_
 intro p e s m args below meth c s₁ Bd hml0 hP hK
 obtain ⟨rfl, hZ, hh⟩ := hP
 have hx := Bd.exec
 have hby := Bd.bytes
 have B : ∀ {pc r}, decode cd24 pc = r → decode c.code pc = r := fun h => hb hby h
 have hml : c.maxLocals = 1 := hml0
 have hown : s.vm.findClass sg3 = some m.cls := findClass_of_methodNamed Bd.named
 have hnm := (name_of_methodNamed Bd.named Bd.method).1
 have X0 : Stand p l e (rO 2 6 38 26) s m #[(.ref ch)] below meth c s₁ [] 0 0 := Stand.of_body Bd
 have e0 : s₁.heap = h0 := by rw [← hh, Bd.state]; rfl
 have N0 := Fr.nil n0
 refine own_in ?_
 refine own_go (S' := s₁.setTop (mkF m 0 #[zr ch] [])) (fun tgt_ stp_ => castTop (ef_clf m ch) stp_) ?_
 have K0 : Keep h0 h0 [ch] := Keep.refl h0 _
 obtain ⟨T_1, X_1, e_1, st_1⟩ := initO X0 hx hZ hown (oW hw 23 rfl) (oW hw 7 rfl) (oW hw 8 rfl) e0 (g := (mkF m 1 #[zr ch] [(.ref ch)])) rfl (by rw [hml]; rfl) rfl (B d24_1) (by decide) (W := 0) (oQ rfl) (by decide)
 obtain ⟨T_2, h_2, k_2, X_2, e_2, E_2, A_2, O_2, st_2⟩ := newR X_1 hx hZ hown (oW hw 24 rfl) (oW hw 25 rfl) e_1 (g := (mkF m 7 #[zr ch] [(.int (11 : Int32)), (.ref ch)])) rfl (B d24_7) rfl (by decide) (cap := 11) (by decide) (by decide) (by decide) (by decide)
 obtain ⟨b_2, g_2⟩ : ∃ z, z = h0.size := ⟨_, rfl⟩
 rw [← g_2] at A_2 st_2
 have gn_b_2 : n0 ≤ b_2 := Nat.le_trans Z0 (Nat.le_of_eq g_2.symm)
 have sz_b_2 : h0.size ≤ b_2 := Nat.le_trans K0.1 (Nat.le_of_eq g_2.symm)
 have ne_ch_b_2 : ch ≠ b_2 := Nat.ne_of_lt (Nat.lt_of_lt_of_le P0_.lt (Nat.le_of_eq g_2.symm))
 have V_2 : aN Z h_2 b_2 k_2 .null .null := (Arv.new A_2 (by decide)).pad (pad_rep [] .null 11)
 have Z_3 := Nat.le_trans Z0 E_2.1
 have K_4 : Keep h0 h_2 [ch] := K0.ext E_2
 have f_5 := (P0_.ext E_2)
 have f_6 := (P3_.ext E_2)
 obtain ⟨T_7, h_7, X_7, e_7, W_7, st_7⟩ := putF X_2 hx hZ hown (oV hw 26 rfl) Via.refl e_2 f_6 f_5 (Or.inr ⟨(oW hw 27 rfl), rfl, hnm⟩) (oW hw 18 rfl) (ty := (.array (.object sg5))) (by decide) rfl rfl (g := (mkF m 10 #[zr ch] [(.ref b_2), (.ref ch)])) rfl rfl (B d24_10)
 obtain ⟨Lg_7, XG_7, N_7⟩ := own_gen X_7 (Fr.snoc X_7 N0 g_ch)
 have F_7 := f_6.same W_7
 have Z_8 := Nat.le_trans Z_3 (Keep.of_wr W_7).1
 have K_9 : Keep h0 h_7 [ch] := K_4.wr W_7 (oK 0 rfl)
 obtain ⟨T_10, h_10, k_10, X_10, e_10, E_10, A_10, O_10, st_10⟩ := newR XG_7 hx hZ hown (oW hw 24 rfl) (oW hw 25 rfl) e_7 (g := (mkF m 16 #[zr ch] [(.int (11 : Int32)), (.ref ch)])) rfl (B d24_16) rfl (by decide) (cap := 11) (by decide) (by decide) (by decide) (by decide)
 obtain ⟨b_10, g_10⟩ : ∃ z, z = h_7.size := ⟨_, rfl⟩
 rw [← g_10] at A_10 st_10
 have gn_b_10 : n0 ≤ b_10 := Nat.le_trans Z_8 (Nat.le_of_eq g_10.symm)
 have sz_b_10 : h0.size ≤ b_10 := Nat.le_trans K_9.1 (Nat.le_of_eq g_10.symm)
 have f_11 := (f_5.wr W_7)
 have ne_ch_b_10 : ch ≠ b_10 := Nat.ne_of_lt (Nat.lt_of_lt_of_le f_11.lt (Nat.le_of_eq g_10.symm))
 have f_12 := (V_2.other W_7 (Ne.symm ne_ch_b_2))
 have ne_b_2_b_10 : b_2 ≠ b_10 := Nat.ne_of_lt (Nat.lt_of_lt_of_le f_12.lt (Nat.le_of_eq g_10.symm))
 have V_10 : aN Z h_10 b_10 k_10 .null .null := (Arv.new A_10 (by decide)).pad (pad_rep [] .null 11)
 have Z_13 := Nat.le_trans Z_8 E_10.1
 have K_14 : Keep h0 h_10 [ch] := K_9.ext E_10
 have f_15 := (f_11.ext E_10)
 have f_16 := (((P4_.ext E_2).other W_7 (Or.inr (sn_60 hw))).ext E_10)
 obtain ⟨T_17, h_17, X_17, e_17, W_17, st_17⟩ := putF X_10 hx hZ hown (oV hw 28 rfl) Via.refl e_10 f_16 f_15 (Or.inr ⟨(oW hw 29 rfl), rfl, hnm⟩) (oW hw 18 rfl) (ty := (.array (.object sg5))) (by decide) rfl rfl (g := (mkF m 19 #[zr ch] [(.ref b_10), (.ref ch)])) rfl rfl (B d24_19)
 obtain ⟨Lg_17, XG_17, N_17⟩ := own_gen X_17 (Fr.snoc X_17 N_7 g_ch)
 have F_17 := f_16.same W_17
 have Z_18 := Nat.le_trans Z_13 (Keep.of_wr W_17).1
 have K_19 : Keep h0 h_17 [ch] := K_14.wr W_17 (oK 0 rfl)
 obtain ⟨T_20, h_20, X_20, e_20, E_20, A_20, D_20, -, st_20⟩ := newO XG_17 hx hZ hown (oW hw 30 rfl) (oW hw 31 rfl) (oW hw 32 rfl) e_17 (g := (mkF m 23 #[zr ch] [(.ref ch)])) rfl (B d24_23) (by decide) (by decide)
 obtain ⟨b_20, g_20⟩ : ∃ z, z = h_17.size := ⟨_, rfl⟩
 rw [← g_20] at A_20 D_20 st_20
 have gn_b_20 : n0 ≤ b_20 := Nat.le_trans Z_18 (Nat.le_of_eq g_20.symm)
 have sz_b_20 : h0.size ≤ b_20 := Nat.le_trans K_19.1 (Nat.le_of_eq g_20.symm)
 have f_21 := (f_15.wr W_17)
 have ne_ch_b_20 : ch ≠ b_20 := Nat.ne_of_lt (Nat.lt_of_lt_of_le f_21.lt (Nat.le_of_eq g_20.symm))
 have f_22 := ((f_12.ext E_10).other W_17 (Ne.symm ne_ch_b_2))
 have ne_b_2_b_20 : b_2 ≠ b_20 := Nat.ne_of_lt (Nat.lt_of_lt_of_le f_22.lt (Nat.le_of_eq g_20.symm))
 have f_23 := (V_10.other W_17 (Ne.symm ne_ch_b_10))
 have ne_b_10_b_20 : b_10 ≠ b_20 := Nat.ne_of_lt (Nat.lt_of_lt_of_le f_23.lt (Nat.le_of_eq g_20.symm))
 have Z_24 := Nat.le_trans Z_18 E_20.1
 have K_25 : Keep h0 h_20 [ch] := K_19.ext E_20
 have F_20_entries : xF6 Z h_20 b_20 .null := D_20 (Or.inl (oW hw 40 rfl)) (ty := (.array (.object sg0))) (by decide)
 have F_20_keys : xF7 Z h_20 b_20 .null := D_20 (Or.inl (oW hw 43 rfl)) (ty := (.array .long)) (by decide)
 have F_20_highestOrder : xF5 Z h_20 b_20 (.long (0 : Int64)) := D_20 (Or.inl (oW hw 46 rfl)) (ty := .long) (by decide)
 have F_20_size : xF4 Z h_20 b_20 (.int (0 : Int32)) := D_20 (Or.inl (oW hw 85 rfl)) (ty := .int) (by decide)
 obtain ⟨_, _, ⟨T_26, L_26, k_26, n_26⟩, -, X_26, ⟨Lc_26, hQ_26, l_26, y_26, z_26⟩, st_26⟩ := X_20.specialBack hx (y := mn5) rfl hown (oT hZ hw 33 rfl) (oT hZ hw 34 rfl) (oT hZ hw 35 rfl) (by decide) (backOf (W := 2) (rm_bi l Z a0 hw [] b_20  h_20 n0 Z_24 A_20 F_20_entries F_20_keys F_20_size F_20_highestOrder gn_b_20) hZ (oW hw 35 rfl) (oW hw 32 rfl) (by decide) (by decide)) (g := (mkF m 27 #[zr ch] [(.ref b_20), (.ref b_20), (.ref ch)])) rfl (by rw [hml]; rfl) (Steps.refl _) (a := b_20) (argsL := []) (rest := [(.ref b_20), (.ref ch)]) (lenOf pd2 rfl) rfl (oQ rfl) (B d24_27) (fun _ _ => ⟨rfl, e_20, (by decide : 3 + 2 ≤ _), (by decide : 27 + 0 ≤ _)⟩)
 dsimp only [Pt.U, Pt.locs, Pt.cells, Pt.slots] at X_26 l_26 y_26 z_26 st_26 hQ_26
 subst y_26 z_26
 obtain ⟨rfl, N_26q, p_26_0, p_26_1, p_26_2, p_26_3⟩ := hQ_26
 have N_26 : Fr n0 L_26 := by rw [l_26]; exact Fr.app N_17 N_26q
 clear l_26
 have Z_27 := Nat.le_trans Z_24 p_26_0.1
 have K_28 : Keep h0 T_26.heap [ch] := K_25.trans p_26_0 (fun x hx => by
  simp only [List.mem_cons, List.not_mem_nil, or_false] at hx
  subst hx
  exact Or.inr sz_b_20)
 have f_29 := ((f_21.ext E_20).keep p_26_0)
 have f_30 := ((((((P5_.ext E_2).other W_7 (Or.inr (sn_61 hw))).ext E_10).other W_17 (Or.inr (sn_62 hw))).ext E_20).keep p_26_0 (oN1 ne_ch_b_20 oN))
 obtain ⟨T_31, h_31, X_31, e_31, W_31, st_31⟩ := putF X_26 hx hZ hown (oV hw 47 rfl) Via.refl rfl f_30 f_29 (Or.inr ⟨(oW hw 48 rfl), rfl, hnm⟩) (oW hw 18 rfl) (ty := (.object sg4)) (by decide) rfl rfl (g := (mkF m 30 #[zr ch] [(.ref b_20), (.ref ch)])) rfl rfl (B d24_30)
 obtain ⟨Lg_31, XG_31, N_31⟩ := own_gen X_31 (Fr.snoc X_31 N_26 g_ch)
 have F_31 := f_30.same W_31
 have Z_32 := Nat.le_trans Z_27 (Keep.of_wr W_31).1
 have K_33 : Keep h0 h_31 [ch] := K_28.wr W_31 (oK 0 rfl)
 have f_34 := (f_29.wr W_31)
 have f_35 := (((((((P8_.ext E_2).other W_7 (Or.inr (sn_63 hw))).ext E_10).other W_17 (Or.inr (sn_64 hw))).ext E_20).keep p_26_0 (oN1 ne_ch_b_20 oN)).other W_31 (Or.inr (sn_65 hw)))
 obtain ⟨T_36, h_36, X_36, e_36, W_36, st_36⟩ := putF XG_31 hx hZ hown (oV hw 50 rfl) Via.refl e_31 f_35 f_34 (Or.inl (oW hw 51 rfl)) (oW hw 18 rfl) (ty := .long) (by decide) rfl rfl (g := (mkF m 37 #[zr ch] [(.long (-7046029254386353131 : Int64)), (.ref ch)])) rfl rfl (B d24_37)
 obtain ⟨Lg_36, XG_36, N_36⟩ := own_gen X_36 (Fr.snoc X_36 N_31 g_ch)
 have F_36 := f_35.same W_36
 have Z_37 := Nat.le_trans Z_32 (Keep.of_wr W_36).1
 have K_38 : Keep h0 h_36 [ch] := K_33.wr W_36 (oK 0 rfl)
 obtain ⟨T_39, h_39, k_39, X_39, e_39, E_39, A_39, O_39, st_39⟩ := newR XG_36 hx hZ hown (oW hw 24 rfl) (oW hw 25 rfl) e_36 (g := (mkF m 43 #[zr ch] [(.int (11 : Int32)), (.ref ch)])) rfl (B d24_43) rfl (by decide) (cap := 11) (by decide) (by decide) (by decide) (by decide)
 obtain ⟨b_39, g_39⟩ : ∃ z, z = h_36.size := ⟨_, rfl⟩
 rw [← g_39] at A_39 st_39
 have gn_b_39 : n0 ≤ b_39 := Nat.le_trans Z_37 (Nat.le_of_eq g_39.symm)
 have sz_b_39 : h0.size ≤ b_39 := Nat.le_trans K_38.1 (Nat.le_of_eq g_39.symm)
 have f_40 := (f_34.wr W_36)
 have ne_ch_b_39 : ch ≠ b_39 := Nat.ne_of_lt (Nat.lt_of_lt_of_le f_40.lt (Nat.le_of_eq g_39.symm))
 have f_41 := ((((f_22.ext E_20).keep p_26_0 (oN1 ne_b_2_b_20 oN)).other W_31 (Ne.symm ne_ch_b_2)).other W_36 (Ne.symm ne_ch_b_2))
 have ne_b_2_b_39 : b_2 ≠ b_39 := Nat.ne_of_lt (Nat.lt_of_lt_of_le f_41.lt (Nat.le_of_eq g_39.symm))
 have f_42 := ((((f_23.ext E_20).keep p_26_0 (oN1 ne_b_10_b_20 oN)).other W_31 (Ne.symm ne_ch_b_10)).other W_36 (Ne.symm ne_ch_b_10))
 have ne_b_10_b_39 : b_10 ≠ b_39 := Nat.ne_of_lt (Nat.lt_of_lt_of_le f_42.lt (Nat.le_of_eq g_39.symm))
 have f_43 := ((p_26_1.wr W_31).wr W_36)
 have ne_b_20_b_39 : b_20 ≠ b_39 := Nat.ne_of_lt (Nat.lt_of_lt_of_le f_43.lt (Nat.le_of_eq g_39.symm))
 have V_39 : aN Z h_39 b_39 k_39 .null .null := (Arv.new A_39 (by decide)).pad (pad_rep [] .null 11)
 have Z_44 := Nat.le_trans Z_37 E_39.1
 have K_45 : Keep h0 h_39 [ch] := K_38.ext E_39
 have f_46 := (f_40.ext E_39)
 have f_47 := (((((((((P10_.ext E_2).other W_7 (Or.inr (sn_66 hw))).ext E_10).other W_17 (Or.inr (sn_67 hw))).ext E_20).keep p_26_0 (oN1 ne_ch_b_20 oN)).other W_31 (Or.inr (sn_68 hw))).other W_36 (Or.inr (sn_29 hw))).ext E_39)
 obtain ⟨T_48, h_48, X_48, e_48, W_48, st_48⟩ := putF X_39 hx hZ hown (oV hw 52 rfl) Via.refl e_39 f_47 f_46 (Or.inr ⟨(oW hw 53 rfl), rfl, hnm⟩) (oW hw 18 rfl) (ty := (.array (.object sg5))) (by decide) rfl rfl (g := (mkF m 46 #[zr ch] [(.ref b_39), (.ref ch)])) rfl rfl (B d24_46)
 obtain ⟨Lg_48, XG_48, N_48⟩ := own_gen X_48 (Fr.snoc X_48 N_36 g_ch)
 have F_48 := f_47.same W_48
 have Z_49 := Nat.le_trans Z_44 (Keep.of_wr W_48).1
 have K_50 : Keep h0 h_48 [ch] := K_45.wr W_48 (oK 0 rfl)
 refine own_go (S' := T_48.setTop (mkF m 49 #[zr ch] [])) (fun target kt => ?_) ?_
 ·
  show oSt p e below s₁ m 0 #[zr ch] [] target
  refine XS.aloadN X0.here hx rfl (B d24_0) rfl rfl ?_
  refine st_1 _ ?_
  refine XS.aloadN X_1.here hx rfl (B d24_4) rfl rfl ?_
  refine XS.bipush X_1.here hx rfl (B d24_5) ?_
  refine st_2 _ ?_
  refine st_7 _ ?_
  refine XS.aloadN XG_7.here hx rfl (B d24_13) rfl rfl ?_
  refine XS.bipush XG_7.here hx rfl (B d24_14) ?_
  refine st_10 _ ?_
  refine st_17 _ ?_
  refine XS.aloadN XG_17.here hx rfl (B d24_22) rfl rfl ?_
  refine st_20 _ ?_
  refine XS.dup X_20.here hx rfl (B d24_26) rfl rfl ?_
  refine st_26.trans ?_
  refine st_31 _ ?_
  refine XS.aloadN XG_31.here hx rfl (B d24_33) rfl rfl ?_
  refine XG_31.ldc2Long hx hown (oT hZ hw 49 rfl) (g := (mkF m 34 #[zr ch] [(.ref ch)])) rfl (B d24_34) _ ?_
  show oSt p e below T_31 m 37 #[zr ch] [(.long (-7046029254386353131 : Int64)), (.ref ch)] target
  refine st_36 _ ?_
  refine XS.aloadN XG_36.here hx rfl (B d24_40) rfl rfl ?_
  refine XS.bipush XG_36.here hx rfl (B d24_41) ?_
  refine st_39 _ ?_
  refine st_48 _ ?_
  exact kt
 obtain ⟨fs, hr, hrun, hended, hW, hsame⟩ := XG_48.leave (v := none) (fun _ => rfl)
 refine ⟨_, _, XG_48.returnOut hx Bd.returns (B d24_49) hr, hrun, hended, _, _, rfl, ?_, ⟨_, rfl⟩, hW, hsame.mono (by decide) (by decide)⟩
 show Q_ci Z ch h0 n0 _ T_48.heap _
 rw [e_48]
 have f_51 := (f_46.wr W_48)
 have f_52 := ((((((((((P1_.ext E_2).other W_7 (Or.inr (sn_69 hw))).ext E_10).other W_17 (Or.inr (sn_70 hw))).ext E_20).keep p_26_0 (oN1 ne_ch_b_20 oN)).other W_31 (Or.inr (sn_71 hw))).other W_36 (Or.inr (sn_21 hw))).ext E_39).other W_48 (Or.inr (sn_72 hw)))
 have f_53 := ((((((((((P2_.ext E_2).other W_7 (Or.inr (sn_73 hw))).ext E_10).other W_17 (Or.inr (sn_74 hw))).ext E_20).keep p_26_0 (oN1 ne_ch_b_20 oN)).other W_31 (Or.inr (sn_75 hw))).other W_36 (Or.inr (sn_22 hw))).ext E_39).other W_48 (Or.inr (sn_76 hw)))
 have f_54 := ((((((((F_7.ext E_10).other W_17 (Or.inr (sn_77 hw))).ext E_20).keep p_26_0 (oN1 ne_ch_b_20 oN)).other W_31 (Or.inr (sn_78 hw))).other W_36 (Or.inr (sn_23 hw))).ext E_39).other W_48 (Or.inr (sn_79 hw)))
 have f_55 := ((((((F_17.ext E_20).keep p_26_0 (oN1 ne_ch_b_20 oN)).other W_31 (Or.inr (sn_80 hw))).other W_36 (Or.inr (sn_24 hw))).ext E_39).other W_48 (Or.inr (sn_81 hw)))
 have f_56 := (((F_31.other W_36 (Or.inr (sn_25 hw))).ext E_39).other W_48 (Or.inr (sn_82 hw)))
 have f_57 := ((((((((((P6_.ext E_2).other W_7 (Or.inr (sn_83 hw))).ext E_10).other W_17 (Or.inr (sn_84 hw))).ext E_20).keep p_26_0 (oN1 ne_ch_b_20 oN)).other W_31 (Or.inr (sn_85 hw))).other W_36 (Or.inr (sn_26 hw))).ext E_39).other W_48 (Or.inr (sn_86 hw)))
 have f_58 := ((((((((((P7_.ext E_2).other W_7 (Or.inr (sn_87 hw))).ext E_10).other W_17 (Or.inr (sn_88 hw))).ext E_20).keep p_26_0 (oN1 ne_ch_b_20 oN)).other W_31 (Or.inr (sn_89 hw))).other W_36 (Or.inr (sn_27 hw))).ext E_39).other W_48 (Or.inr (sn_90 hw)))
 have f_59 := ((F_36.ext E_39).other W_48 (Or.inr (sn_91 hw)))
 have f_60 := ((((((((((P9_.ext E_2).other W_7 (Or.inr (sn_92 hw))).ext E_10).other W_17 (Or.inr (sn_93 hw))).ext E_20).keep p_26_0 (oN1 ne_ch_b_20 oN)).other W_31 (Or.inr (sn_94 hw))).other W_36 (Or.inr (sn_28 hw))).ext E_39).other W_48 (Or.inr (sn_95 hw)))
 have f_61 := ((f_41.ext E_39).other W_48 (Ne.symm ne_ch_b_2))
 have f_62 := ((f_42.ext E_39).other W_48 (Ne.symm ne_ch_b_10))
 have f_63 := (V_39.other W_48 (Ne.symm ne_ch_b_39))
 have f_64 := ((f_43.ext E_39).wr W_48)
 have f_65 := ((((p_26_2.other W_31 (Or.inl (Ne.symm ne_ch_b_20))).other W_36 (Or.inl (Ne.symm ne_ch_b_20))).ext E_39).other W_48 (Or.inl (Ne.symm ne_ch_b_20)))
 have f_66 := ((((p_26_3.other W_31 (Or.inl (Ne.symm ne_ch_b_20))).other W_36 (Or.inl (Ne.symm ne_ch_b_20))).ext E_39).other W_48 (Or.inl (Ne.symm ne_ch_b_20)))
 exact ⟨b_2, b_10, b_20, b_39, k_2, k_10, k_39, rfl, N_48, K_50, f_51, f_52, f_53, f_54, f_55, f_56, f_57, f_58, f_59, f_60, F_48, f_61, f_62, f_63, f_64, f_65, f_66, O_2, O_10, O_39, sz_b_2, sz_b_10, sz_b_20, sz_b_39, ne_b_2_b_10, ne_b_2_b_20, ne_b_2_b_39, ne_b_10_b_20, ne_b_10_b_39, ne_b_20_b_39⟩
-- com/example/carillon/carillon/Chain.first:()Lcom/example/carillon/carillon/Message;
theorem d25_0 : decode cd25 0 = .ok (.aload_n 0, 1) := by decide +kernel
theorem d25_1 : decode cd25 1 = .ok (.getfield 34, 3) := by decide +kernel
theorem d25_4 : decode cd25 4 = .ok (.areturn, 1) := by decide +kernel
def Q_fst (Z : State) (ch mx : Addr) (h0 : Heap) (n0 : Nat) (v : Option Value) (h : Heap) (L : List Loc) : Prop := v = some (.ref mx) ∧ Fr n0 L ∧ h = h0
set_option maxRecDepth 65536 in
set_option maxHeartbeats 40000000 in
theorem rm_fst (l : Launch) (Z : State) (a0 : Array Value) (hw : hwT Z a0) (ws : List Jvm.Cond) (ch mx : Addr) (h0 : Heap) (n0 : Nat) (Z0 : n0 ≤ h0.size) (P0_ : xF8 Z h0 ch (.ref mx)) :
  oMF l Z mn25 (Jvm.Cond.code mn25 prog_2_method_2_code 1 (some (.object sg0))) ws (rO 0 0 0 0) #[(.ref ch)] h0 (Q_fst Z ch mx h0 n0) := by
 refine MetFree.of_bodySF (plainFor_of_name pn_ordc) hisR ?_
 intro p e s m args below meth c s₁ Bd hml0 hP hK
 obtain ⟨rfl, hZ, hh⟩ := hP
 have hx := Bd.exec
 have hby := Bd.bytes
 have B : ∀ {pc r}, decode cd25 pc = r → decode c.code pc = r := fun h => hb hby h
 have hml : c.maxLocals = 1 := hml0
 have hown : s.vm.findClass sg3 = some m.cls := findClass_of_methodNamed Bd.named
 have hnm := (name_of_methodNamed Bd.named Bd.method).1
 have X0 : Stand p l e (rO 0 0 0 0) s m #[(.ref ch)] below meth c s₁ [] 0 0 := Stand.of_body Bd
 have e0 : s₁.heap = h0 := by rw [← hh, Bd.state]; rfl
 have N0 := Fr.nil n0
 refine own_in ?_
 refine own_go (S' := s₁.setTop (mkF m 0 #[zr ch] [])) (fun tgt_ stp_ => castTop (ef_clf m ch) stp_) ?_
 obtain ⟨T_1, X_1, e_1, st_1⟩ := getF X0 hx hZ hown (oV hw 119 rfl) Via.refl e0 P0_ (g := (mkF m 1 #[zr ch] [(.ref ch)])) rfl rfl (B d25_1)
 refine own_go (S' := T_1.setTop (mkF m 4 #[zr ch] [(.ref mx)])) (fun target kt => ?_) ?_
 ·
  show oSt p e below s₁ m 0 #[zr ch] [] target
  refine XS.aloadN X0.here hx rfl (B d25_0) rfl rfl ?_
  refine st_1 _ ?_
  exact kt
 obtain ⟨fs, hr, hrun, hended, hW, hsame⟩ := X_1.leave (v := some (.ref mx)) (fun h => by rw [Bd.returns] at h; cases h)
 refine ⟨_, _, retOut X_1 hx Bd.returns rfl (Or.inr (Or.inr (Or.inr (Or.inr ⟨rfl, rfl, rfl⟩)))) (B d25_4) hr, hrun, hended, _, _, rfl, ?_, ⟨_, rfl⟩, hW, hsame.mono (by decide) (by decide)⟩
 show Q_fst Z ch mx h0 n0 _ T_1.heap _
 rw [e_1]
 exact ⟨rfl, N0, rfl⟩
-- java/lang/Math.max:(JJ)J
theorem d26_0 : decode cd26 0 = .ok (.lload_n 0, 1) := by decide +kernel
theorem d26_1 : decode cd26 1 = .ok (.lload_n 2, 1) := by decide +kernel
theorem d26_2 : decode cd26 2 = .ok (.lcmp, 1) := by decide +kernel
theorem d26_3 : decode cd26 3 = .ok (.ifCond .lt 7, 3) := by decide +kernel
theorem d26_6 : decode cd26 6 = .ok (.lload_n 0, 1) := by decide +kernel
theorem d26_7 : decode cd26 7 = .ok (.goto 4, 3) := by decide +kernel
theorem d26_10 : decode cd26 10 = .ok (.lload_n 2, 1) := by decide +kernel
theorem d26_11 : decode cd26 11 = .ok (.lreturn, 1) := by decide +kernel
theorem ef_mxj (m : MethodId) (w1 w2 : Int64) : entryFrame m #[(.long w1), (.long w2)] 4 = mkF m 0 #[.val (.long w1), .second, .val (.long w2), .second] [] := by first | (simp [entryFrame, mkF, argsToLocals, Value.category]; done) | rfl
def Q_mxj (Z : State) (w1 w2 : Int64) (h0 : Heap) (n0 : Nat) (v : Option Value) (h : Heap) (L : List Loc) : Prop := v = some (.long (own_max w1 w2)) ∧ Fr n0 L ∧ h = h0
set_option maxRecDepth 65536 in
set_option maxHeartbeats 40000000 in
theorem rm_mxj (l : Launch) (Z : State) (a0 : Array Value) (hw : hwT Z a0) (ws : List Jvm.Cond) (w1 w2 : Int64) (h0 : Heap) (n0 : Nat) (Z0 : n0 ≤ h0.size) :
  oMF l Z mn26 (Jvm.Cond.code mn26 jdk_29_method_66_code 4 (some .long)) ws (rO 0 0 0 0) #[(.long w1), (.long w2)] h0 (Q_mxj Z w1 w2 h0 n0) := by
 refine MetFree.of_bodySF (Jvm.Free.JP.mathPlain rfl (by decide +kernel)) hisR ?_
 intro p e s m args below meth c s₁ Bd hml0 hP hK
 obtain ⟨rfl, hZ, hh⟩ := hP
 have hx := Bd.exec
 have hby := Bd.bytes
 have B : ∀ {pc r}, decode cd26 pc = r → decode c.code pc = r := fun h => hb hby h
 have hml : c.maxLocals = 4 := hml0
 have hown : s.vm.findClass "java/lang/Math" = some m.cls := findClass_of_methodNamed Bd.named
 have hnm := (name_of_methodNamed Bd.named Bd.method).1
 have X0 : Stand p l e (rO 0 0 0 0) s m #[(.long w1), (.long w2)] below meth c s₁ [] 0 0 := Stand.of_body Bd
 have e0 : s₁.heap = h0 := by rw [← hh, Bd.state]; rfl
 have N0 := Fr.nil n0
 refine own_in ?_
 refine own_go (S' := s₁.setTop (mkF m 0 #[.val (.long w1), zs, .val (.long w2), zs] [])) (fun tgt_ stp_ => castTop (ef_mxj m w1 w2) stp_) ?_
 refine own_go (S' := s₁.setTop (mkF m 3 #[.val (.long w1), zs, .val (.long w2), zs] [(.int (lcmpW w1 w2))])) (fun target kt => ?_) ?_
 ·
  show oSt p e below s₁ m 0 #[.val (.long w1), zs, .val (.long w2), zs] [] target
  refine XS.lloadN X0.here hx rfl (B d26_0) rfl ?_
  refine XS.lloadN X0.here hx rfl (B d26_1) rfl ?_
  refine XS.lcmp X0.here hx rfl (B d26_2) rfl ?_
  exact kt
 by_cases hc3 : w1 < w2
 ·
  refine own_go (S' := s₁.setTop (mkF m 11 #[.val (.long w1), zs, .val (.long w2), zs] [(.long w2)])) (fun target kt => ?_) ?_
  ·
   show oSt p e below s₁ m 3 #[.val (.long w1), zs, .val (.long w2), zs] [(.int (lcmpW w1 w2))] target
   refine XS.ifYes X0.here hx rfl (pc0 := 3) (pc' := 10) rfl (B d26_3) rfl ((if0 _ _).trans (tlt (own_l3 hc3)).1) (by decide) (by decide) ?_
   refine XS.lloadN X0.here hx rfl (B d26_10) rfl ?_
   exact kt
  obtain ⟨fs, hr, hrun, hended, hW, hsame⟩ := X0.leave (v := some (.long w2)) (fun h => by rw [Bd.returns] at h; cases h)
  refine ⟨_, _, Jvm.Stand.lreturnOut X0 hx Bd.returns (B d26_11) hr, hrun, hended, _, _, rfl, ?_, ⟨_, rfl⟩, hW, hsame.mono (by decide) (by decide)⟩
  show Q_mxj Z w1 w2 h0 n0 _ s₁.heap _
  rw [e0]
  exact ⟨(congrArg (fun z => some (Value.long z)) (by first | (simp only [own_max, hc3, not_true_eq_false, not_false_eq_true, and_self, and_true, true_and, and_false, false_and, or_self, or_true, true_or, or_false, false_or, if_true, if_false, ↓reduceIte]; done) | (simp [own_max, hc3]; done))), N0, rfl⟩
 ·
  refine own_go (S' := s₁.setTop (mkF m 11 #[.val (.long w1), zs, .val (.long w2), zs] [(.long w1)])) (fun target kt => ?_) ?_
  ·
   show oSt p e below s₁ m 3 #[.val (.long w1), zs, .val (.long w2), zs] [(.int (lcmpW w1 w2))] target
   refine XS.ifNo X0.here hx rfl (B d26_3) rfl ((if0 _ _).trans (flt (own_l4 hc3)).1) ?_
   refine XS.lloadN X0.here hx rfl (B d26_6) rfl ?_
   refine XS.goto X0.here hx rfl (pc0 := 7) (pc' := 11) rfl (B d26_7) (by decide) (by decide) ?_
   exact kt
  obtain ⟨fs, hr, hrun, hended, hW, hsame⟩ := X0.leave (v := some (.long w1)) (fun h => by rw [Bd.returns] at h; cases h)
  refine ⟨_, _, Jvm.Stand.lreturnOut X0 hx Bd.returns (B d26_11) hr, hrun, hended, _, _, rfl, ?_, ⟨_, rfl⟩, hW, hsame.mono (by decide) (by decide)⟩
  show Q_mxj Z w1 w2 h0 n0 _ s₁.heap _
  rw [e0]
  exact ⟨(congrArg (fun z => some (Value.long z)) (by first | (simp only [own_max, hc3, not_true_eq_false, not_false_eq_true, and_self, and_true, true_and, and_false, false_and, or_self, or_true, true_or, or_false, false_or, if_true, if_false, ↓reduceIte]; done) | (simp [own_max, hc3]; done))), N0, rfl⟩
-- com/example/carillon/carillon/Chain.lastOrder:()J
theorem d27_0 : decode cd27 0 = .ok (.aload_n 0, 1) := by decide +kernel
theorem d27_1 : decode cd27 1 = .ok (.getfield 38, 3) := by decide +kernel
theorem d27_4 : decode cd27 4 = .ok (.ifnonnull 9, 3) := by decide +kernel
theorem d27_13 : decode cd27 13 = .ok (.aload_n 0, 1) := by decide +kernel
theorem d27_14 : decode cd27 14 = .ok (.getfield 38, 3) := by decide +kernel
theorem d27_17 : decode cd27 17 = .ok (.invokestatic 45, 3) := by decide +kernel
theorem d27_20 : decode cd27 20 = .ok (.lstore_n 1, 1) := by decide +kernel
theorem d27_21 : decode cd27 21 = .ok (.lload_n 1, 1) := by decide +kernel
theorem d27_22 : decode cd27 22 = .ok (.aload_n 0, 1) := by decide +kernel
theorem d27_23 : decode cd27 23 = .ok (.getfield 21, 3) := by decide +kernel
theorem d27_26 : decode cd27 26 = .ok (.invokevirtual 49, 3) := by decide +kernel
theorem d27_29 : decode cd27 29 = .ok (.invokestatic 53, 3) := by decide +kernel
theorem d27_32 : decode cd27 32 = .ok (.lreturn, 1) := by decide +kernel
def Q_lao (Z : State) (ch my bl : Addr) (fmy : Int32) (wmy : Int64) (h0 : Heap) (n0 : Nat) (v : Option Value) (h : Heap) (L : List Loc) : Prop := v = some (.long (own_ord fmy wmy)) ∧ Fr n0 L ∧ h = h0
set_option maxRecDepth 65536 in
set_option maxHeartbeats 40000000 in
theorem rm_lao (l : Launch) (Z : State) (a0 : Array Value) (hw : hwT Z a0) (ws : List Jvm.Cond) (ch my bl : Addr) (fmy : Int32) (wmy : Int64) (h0 : Heap) (n0 : Nat) (Z0 : n0 ≤ h0.size) (P0_ : Exa Z h0 ch sg3) (P1_ : xF9 Z h0 ch (.ref my)) (P2_ : xF12 Z h0 ch (.ref bl)) (P3_ : Exa Z h0 bl sg4) (P4_ : xF5 Z h0 bl (.long (-9223372036854775808 : Int64))) (P5_ : Exa Z h0 my sg0) (P6_ : xF1 Z h0 my (.long wmy)) (P7_ : xF2 Z h0 my (.int fmy)) :
  oMF l Z mn27 (Jvm.Cond.code mn27 prog_2_method_3_code 3 (some .long)) ws (rO 1 0 0 15) #[(.ref ch)] h0 (Q_lao Z ch my bl fmy wmy h0 n0) := by
 refine MetFree.of_bodySF (plainFor_of_name pn_ordc) hisR ?_
 intro p e s m args below meth c s₁ Bd hml0 hP hK
 obtain ⟨rfl, hZ, hh⟩ := hP
 have hx := Bd.exec
 have hby := Bd.bytes
 have B : ∀ {pc r}, decode cd27 pc = r → decode c.code pc = r := fun h => hb hby h
 have hml : c.maxLocals = 3 := hml0
 have hown : s.vm.findClass sg3 = some m.cls := findClass_of_methodNamed Bd.named
 have hnm := (name_of_methodNamed Bd.named Bd.method).1
 have X0 : Stand p l e (rO 1 0 0 15) s m #[(.ref ch)] below meth c s₁ [] 0 0 := Stand.of_body Bd
 have e0 : s₁.heap = h0 := by rw [← hh, Bd.state]; rfl
 have N0 := Fr.nil n0
 refine own_in ?_
 refine own_go (S' := s₁.setTop (mkF m 0 #[zr ch, zu, zu] [])) (fun tgt_ stp_ => castTop (ef_draw m ch) stp_) ?_
 obtain ⟨T_1, X_1, e_1, st_1⟩ := getF X0 hx hZ hown (oV hw 94 rfl) Via.refl e0 P1_ (g := (mkF m 1 #[zr ch, zu, zu] [(.ref ch)])) rfl rfl (B d27_1)
 obtain ⟨T_2, X_2, e_2, st_2⟩ := getF X_1 hx hZ hown (oV hw 94 rfl) Via.refl e_1 P1_ (g := (mkF m 14 #[zr ch, zu, zu] [(.ref ch)])) rfl rfl (B d27_14)
 obtain ⟨_, _, ⟨T_3, L_3, k_3, n_3⟩, -, X_3, ⟨Lc_3, hQ_3, l_3, y_3, z_3⟩, st_3⟩ := Jvm.LawKit.callS X_2 hx (y := mn2) hown (oT hZ hw 156 rfl) (oT hZ hw 157 rfl) (oT hZ hw 19 rfl) (oT hZ hw 158 rfl) (by decide) (backOf (W := 0) (rm_ordc l Z a0 hw [] my fmy wmy h0 n0 Z0 P7_ P6_) hZ (oW hw 158 rfl) (oW hw 19 rfl) (by decide) (by decide)) (g := (mkF m 17 #[zr ch, zu, zu] [(.ref my)])) rfl (by rw [hml]; rfl) (argsL := [(.ref my)]) (rest := []) (lenOf pd0 rfl) rfl (oQ rfl) (B d27_17) (fun _ _ => ⟨rfl, e_2, (by decide : 0 + 0 ≤ _), (by decide : 0 + 0 ≤ _)⟩)
 dsimp only [Pt.U, Pt.locs, Pt.cells, Pt.slots] at X_3 l_3 y_3 z_3 st_3 hQ_3
 subst y_3 z_3
 obtain ⟨rfl, N_3q, p_3_0⟩ := hQ_3
 have N_3 : Fr n0 L_3 := by rw [l_3]; exact Fr.app N0 N_3q
 clear l_3
 obtain ⟨T_4, X_4, e_4, st_4⟩ := getF X_3 hx hZ hown (oV hw 47 rfl) Via.refl p_3_0 P2_ (g := (mkF m 23 #[zr ch, .val (.long (own_ord fmy wmy)), zs] [(.ref ch), (.long (own_ord fmy wmy))])) rfl rfl (B d27_23)
 obtain ⟨cq_5, kq_5, q_5a, q_5b, q_5c⟩ := isOf hZ e_4 P3_
 obtain ⟨_, _, ⟨T_5, L_5, k_5, n_5⟩, -, X_5, ⟨Lc_5, hQ_5, l_5, y_5, z_5⟩, st_5⟩ := X_4.virtualBack hx (y := mn7) (z := mn7) hown (oT hZ hw 182 rfl) (oT hZ hw 183 rfl) (notFace_of_selects (args := #[]) (oT hZ hw 185 rfl)) (oT hZ hw 185 rfl) (oT hZ hw 184 rfl) (by decide) (backOf (W := 2) (rm_hio l Z a0 hw [] bl  h0 n0 Z0 P4_) hZ (oW hw 186 rfl) (oW hw 32 rfl) (by decide) (by decide)) q_5a q_5c (g := (mkF m 26 #[zr ch, .val (.long (own_ord fmy wmy)), zs] [(.ref bl), (.long (own_ord fmy wmy))])) rfl (by rw [hml]; rfl) (Steps.refl _) (argsL := []) (rest := [(.long (own_ord fmy wmy))]) (lenOf pd13 rfl) rfl (oQ rfl) (B d27_26) (fun _ _ => ⟨rfl, e_4, (by decide : 0 + 0 ≤ _), (by decide : 0 + 0 ≤ _)⟩)
 dsimp only [Pt.U, Pt.locs, Pt.cells, Pt.slots] at X_5 l_5 y_5 z_5 st_5 hQ_5
 subst y_5 z_5
 obtain ⟨rfl, N_5q, p_5_0⟩ := hQ_5
 have N_5 : Fr n0 L_5 := by rw [l_5]; exact Fr.app N_3 N_5q
 clear l_5
 obtain ⟨_, _, ⟨T_6, L_6, k_6, n_6⟩, -, X_6, ⟨Lc_6, hQ_6, l_6, y_6, z_6⟩, st_6⟩ := Jvm.LawKit.callS X_5 hx (y := mn26) hown (oT hZ hw 187 rfl) (oT hZ hw 188 rfl) (oT hZ hw 189 rfl) (oT hZ hw 190 rfl) (by decide) (backOf (W := 0) (rm_mxj l Z a0 hw [] (own_ord fmy wmy) (-9223372036854775808 : Int64)  h0 n0 Z0 ) hZ (oW hw 190 rfl) (oW hw 189 rfl) (by decide) (by decide)) (g := (mkF m 29 #[zr ch, .val (.long (own_ord fmy wmy)), zs] [(.long (-9223372036854775808 : Int64)), (.long (own_ord fmy wmy))])) rfl (by rw [hml]; rfl) (argsL := [(.long (own_ord fmy wmy)), (.long (-9223372036854775808 : Int64))]) (rest := []) (lenOf pd14 rfl) rfl (oQ rfl) (B d27_29) (fun _ _ => ⟨rfl, p_5_0, (by decide : 0 + 0 ≤ _), (by decide : 0 + 0 ≤ _)⟩)
 dsimp only [Pt.U, Pt.locs, Pt.cells, Pt.slots] at X_6 l_6 y_6 z_6 st_6 hQ_6
 subst y_6 z_6
 obtain ⟨rfl, N_6q, p_6_0⟩ := hQ_6
 have N_6 : Fr n0 L_6 := by rw [l_6]; exact Fr.app N_5 N_6q
 clear l_6
 refine own_go (S' := T_6.setTop (mkF m 32 #[zr ch, .val (.long (own_ord fmy wmy)), zs] [(.long (own_max (own_ord fmy wmy) (-9223372036854775808 : Int64)))])) (fun target kt => ?_) ?_
 ·
  show oSt p e below s₁ m 0 #[zr ch, zu, zu] [] target
  refine XS.aloadN X0.here hx rfl (B d27_0) rfl rfl ?_
  refine st_1 _ ?_
  refine XS.ifnonnullYes X_1.here hx rfl (pc0 := 4) (pc' := 13) rfl (B d27_4) rfl (by decide) (by decide) ?_
  refine XS.aloadN X_1.here hx rfl (B d27_13) rfl rfl ?_
  refine st_2 _ ?_
  refine st_3 _ ?_
  refine XS.lstoreN X_3.here hx rfl (B d27_20) rfl (l' := #[zr ch, .val (.long (own_ord fmy wmy)), zs]) rfl ?_
  refine XS.lloadN X_3.here hx rfl (B d27_21) rfl ?_
  refine XS.aloadN X_3.here hx rfl (B d27_22) rfl rfl ?_
  refine st_4 _ ?_
  refine st_5.trans ?_
  refine st_6 _ ?_
  exact kt
 obtain ⟨fs, hr, hrun, hended, hW, hsame⟩ := X_6.leave (v := some (.long (own_max (own_ord fmy wmy) (-9223372036854775808 : Int64)))) (fun h => by rw [Bd.returns] at h; cases h)
 refine ⟨_, _, Jvm.Stand.lreturnOut X_6 hx Bd.returns (B d27_32) hr, hrun, hended, _, _, rfl, ?_, ⟨_, rfl⟩, hW, hsame.mono (by decide) (by decide)⟩
 show Q_lao Z ch my bl fmy wmy h0 n0 _ T_6.heap _
 rw [p_6_0]
 exact ⟨(congrArg (fun z => some (Value.long z)) (own_maxmin _)), N_6, rfl⟩
-- com/example/carillon/carillon/Chain.unlinkNode:(ILcom/example/carillon/carillon/Chain$Node;Lcom/example/carillon/carillon/Chain$Node;)V
theorem d28_0 : decode cd28 0 = .ok (.aload_n 2, 1) := by decide +kernel
theorem d28_1 : decode cd28 1 = .ok (.ifnonnull 18, 3) := by decide +kernel
theorem d28_4 : decode cd28 4 = .ok (.aload_n 0, 1) := by decide +kernel
theorem d28_5 : decode cd28 5 = .ok (.getfield 11, 3) := by decide +kernel
theorem d28_8 : decode cd28 8 = .ok (.iload_n 1, 1) := by decide +kernel
theorem d28_9 : decode cd28 9 = .ok (.iconst 1, 1) := by decide +kernel
theorem d28_10 : decode cd28 10 = .ok (.isub, 1) := by decide +kernel
theorem d28_11 : decode cd28 11 = .ok (.aload_n 3, 1) := by decide +kernel
theorem d28_12 : decode cd28 12 = .ok (.getfield 125, 3) := by decide +kernel
theorem d28_15 : decode cd28 15 = .ok (.aastore, 1) := by decide +kernel
theorem d28_16 : decode cd28 16 = .ok (.goto 11, 3) := by decide +kernel
theorem d28_27 : decode cd28 27 = .ok (.aload_n 0, 1) := by decide +kernel
theorem d28_28 : decode cd28 28 = .ok (.getfield 15, 3) := by decide +kernel
theorem d28_31 : decode cd28 31 = .ok (.iload_n 1, 1) := by decide +kernel
theorem d28_32 : decode cd28 32 = .ok (.iconst 1, 1) := by decide +kernel
theorem d28_33 : decode cd28 33 = .ok (.isub, 1) := by decide +kernel
theorem d28_34 : decode cd28 34 = .ok (.aaload, 1) := by decide +kernel
theorem d28_35 : decode cd28 35 = .ok (.aload_n 3, 1) := by decide +kernel
theorem d28_36 : decode cd28 36 = .ok (.if_acmp .ne 12, 3) := by decide +kernel
theorem d28_39 : decode cd28 39 = .ok (.aload_n 0, 1) := by decide +kernel
theorem d28_40 : decode cd28 40 = .ok (.getfield 15, 3) := by decide +kernel
theorem d28_43 : decode cd28 43 = .ok (.iload_n 1, 1) := by decide +kernel
theorem d28_44 : decode cd28 44 = .ok (.iconst 1, 1) := by decide +kernel
theorem d28_45 : decode cd28 45 = .ok (.isub, 1) := by decide +kernel
theorem d28_46 : decode cd28 46 = .ok (.aload_n 2, 1) := by decide +kernel
theorem d28_47 : decode cd28 47 = .ok (.aastore, 1) := by decide +kernel
theorem d28_48 : decode cd28 48 = .ok (.aload_n 3, 1) := by decide +kernel
theorem d28_49 : decode cd28 49 = .ok (.aconst_null, 1) := by decide +kernel
theorem d28_50 : decode cd28 50 = .ok (.putfield 129, 3) := by decide +kernel
theorem d28_53 : decode cd28 53 = .ok (.aload_n 3, 1) := by decide +kernel
theorem d28_54 : decode cd28 54 = .ok (.aconst_null, 1) := by decide +kernel
theorem d28_55 : decode cd28 55 = .ok (.putfield 132, 3) := by decide +kernel
theorem d28_58 : decode cd28 58 = .ok (.aload_n 3, 1) := by decide +kernel
theorem d28_59 : decode cd28 59 = .ok (.aconst_null, 1) := by decide +kernel
theorem d28_60 : decode cd28 60 = .ok (.putfield 125, 3) := by decide +kernel
theorem d28_63 : decode cd28 63 = .ok (.aload_n 0, 1) := by decide +kernel
theorem d28_64 : decode cd28 64 = .ok (.getfield 172, 3) := by decide +kernel
theorem d28_67 : decode cd28 67 = .ok (.sipush 256, 3) := by decide +kernel
theorem d28_70 : decode cd28 70 = .ok (.if_icmp .ge 26, 3) := by decide +kernel
theorem d28_73 : decode cd28 73 = .ok (.aload_n 3, 1) := by decide +kernel
theorem d28_74 : decode cd28 74 = .ok (.aload_n 0, 1) := by decide +kernel
theorem d28_75 : decode cd28 75 = .ok (.getfield 176, 3) := by decide +kernel
theorem d28_78 : decode cd28 78 = .ok (.putfield 125, 3) := by decide +kernel
theorem d28_81 : decode cd28 81 = .ok (.aload_n 0, 1) := by decide +kernel
theorem d28_82 : decode cd28 82 = .ok (.aload_n 3, 1) := by decide +kernel
theorem d28_83 : decode cd28 83 = .ok (.putfield 176, 3) := by decide +kernel
theorem d28_86 : decode cd28 86 = .ok (.aload_n 0, 1) := by decide +kernel
theorem d28_87 : decode cd28 87 = .ok (.dup, 1) := by decide +kernel
theorem d28_88 : decode cd28 88 = .ok (.getfield 172, 3) := by decide +kernel
theorem d28_91 : decode cd28 91 = .ok (.iconst 1, 1) := by decide +kernel
theorem d28_92 : decode cd28 92 = .ok (.iadd, 1) := by decide +kernel
theorem d28_93 : decode cd28 93 = .ok (.putfield 172, 3) := by decide +kernel
theorem d28_96 : decode cd28 96 = .ok (.return_, 1) := by decide +kernel
theorem ef_uln1 (m : MethodId) (ch nd fn ln bl fg : Addr) (kkf kkl : ClassId) (spc : Int32) (ldr : Int64) (hv tv spv fev u1 g1 ev db : Value) : entryFrame m #[(.ref ch), (.int (1 : Int32)), .null, (.ref nd)] 4 = mkF m 0 #[.val (.ref ch), .val (.int (1 : Int32)), .val .null, .val (.ref nd)] [] := by first | (simp [entryFrame, mkF, argsToLocals, Value.category]; done) | rfl
def Q_uln1 (Z : State) (ch nd fn ln bl fg : Addr) (kkf kkl : ClassId) (spc : Int32) (ldr : Int64) (hv tv spv fev u1 g1 ev db : Value) (h0 : Heap) (n0 : Nat) (v : Option Value) (h : Heap) (L : List Loc) : Prop := v = none ∧ Fr n0 L ∧ Keep h0 h [ch, fn, ln, nd] ∧ Exa Z h ch sg3 ∧ xF8 Z h ch hv ∧ xF9 Z h ch tv ∧ xF10 Z h ch (.ref fn) ∧ xF11 Z h ch (.ref ln) ∧ xF12 Z h ch (.ref bl) ∧ xF13 Z h ch (.ref nd) ∧ xF14 Z h ch (.int (spc + (1 : Int32))) ∧ xF15 Z h ch (.long ldr) ∧ xF16 Z h ch fev ∧ xF17 Z h ch (.ref fg) ∧ aN Z h fn kkf .null u1 ∧ aN Z h ln kkl .null g1 ∧ Exa Z h nd sg5 ∧ xF18 Z h nd .null ∧ xF19 Z h nd spv ∧ xF20 Z h nd .null
set_option maxRecDepth 65536 in
set_option maxHeartbeats 40000000 in
theorem rm_uln1 (l : Launch) (Z : State) (a0 : Array Value) (hw : hwT Z a0) (ws : List Jvm.Cond) (ch nd fn ln bl fg : Addr) (kkf kkl : ClassId) (spc : Int32) (ldr : Int64) (hv tv spv fev u1 g1 ev db : Value) (h0 : Heap) (n0 : Nat) (Z0 : n0 ≤ h0.size) (P0_ : Exa Z h0 ch sg3) (P1_ : xF8 Z h0 ch hv) (P2_ : xF9 Z h0 ch tv) (P3_ : xF10 Z h0 ch (.ref fn)) (P4_ : xF11 Z h0 ch (.ref ln)) (P5_ : xF12 Z h0 ch (.ref bl)) (P6_ : xF13 Z h0 ch spv) (P7_ : xF14 Z h0 ch (.int spc)) (P8_ : xF15 Z h0 ch (.long ldr)) (P9_ : xF16 Z h0 ch fev) (P10_ : xF17 Z h0 ch (.ref fg)) (P11_ : aN Z h0 fn kkf (.ref nd) u1) (P12_ : aN Z h0 ln kkl (.ref nd) g1) (P13_ : Exa Z h0 nd sg5) (P14_ : xF18 Z h0 nd ev) (P15_ : xF19 Z h0 nd .null) (P16_ : xF20 Z h0 nd db) (Okkf : Ovr Z kkf sg5) (Okkl : Ovr Z kkl sg5) (g_ch : n0 ≤ ch) (g_fn : n0 ≤ fn) (g_ln : n0 ≤ ln) (g_nd : n0 ≤ nd) (n_ch_fn : ch ≠ fn) (n_ch_ln : ch ≠ ln) (n_ch_nd : ch ≠ nd) (n_fn_ln : fn ≠ ln) (n_fn_nd : fn ≠ nd) (n_ln_nd : ln ≠ nd) (hsp : (spc < (256 : Int32))) (hsv : (Value.isRef spv = true)) :
  oMF l Z mn28 (Jvm.Cond.code mn28 prog_2_method_23_code 4 none) ws (rO 0 0 0 0) #[(.ref ch), (.int (1 : Int32)), .null, (.ref nd)] h0 (Q_uln1 Z ch nd fn ln bl fg kkf kkl spc ldr hv tv spv fev u1 g1 ev db h0 n0) := by
 refine MetFree.of_bodySF (plainFor_of_name pn_ordc) hisR ?_
 intro p e s m args below meth c s₁ Bd hml0 hP hK
 obtain ⟨rfl, hZ, hh⟩ := hP
 have hx := Bd.exec
 have hby := Bd.bytes
 have B : ∀ {pc r}, decode cd28 pc = r → decode c.code pc = r := fun h => hb hby h
 have hml : c.maxLocals = 4 := hml0
 have hown : s.vm.findClass sg3 = some m.cls := findClass_of_methodNamed Bd.named
 have hnm := (name_of_methodNamed Bd.named Bd.method).1
 have X0 : Stand p l e (rO 0 0 0 0) s m #[(.ref ch), (.int (1 : Int32)), .null, (.ref nd)] below meth c s₁ [] 0 0 := Stand.of_body Bd
 have e0 : s₁.heap = h0 := by rw [← hh, Bd.state]; rfl
 have N0 := Fr.nil n0
 refine own_in ?_
 refine own_go (S' := s₁.setTop (mkF m 0 #[zr ch, zi 1, zn, zr nd] [])) (fun tgt_ stp_ => castTop (ef_uln1 m ch nd fn ln bl fg kkf kkl spc ldr hv tv spv fev u1 g1 ev db) stp_) ?_
 have K0 : Keep h0 h0 [ch, fn, ln, nd] := Keep.refl h0 _
 obtain ⟨T_1, X_1, e_1, st_1⟩ := getF X0 hx hZ hown (oV hw 26 rfl) Via.refl e0 P3_ (g := (mkF m 5 #[zr ch, zi 1, zn, zr nd] [(.ref ch)])) rfl rfl (B d28_5)
 obtain ⟨T_2, X_2, e_2, st_2⟩ := getF X_1 hx hZ hown (oV hw 141 rfl) Via.refl e_1 P15_ (g := (mkF m 12 #[zr ch, zi 1, zn, zr nd] [(.ref nd), (.int (0 : Int32)), (.ref fn)])) rfl rfl (B d28_12)
 obtain ⟨c_3, Ar_3, q_3, S_3, M_3, Hs_3, G_3⟩ := id P11_
 have hin_3 : ¬ ((0 : Int32) < 0 ∨ c_3.slots.size ≤ ((0 : Int32)).toNatClampNeg) := inb_of S_3 ⟨by decide, by decide⟩
 obtain ⟨T_3, h_3, X_3, e_3, W_3, st_3⟩ := stR X_2 hx hZ e_2 Ar_3 (j := (0 : Int32)) hin_3 rfl (Or.inl rfl) (g := (mkF m 15 #[zr ch, zi 1, zn, zr nd] [.null, (.int (0 : Int32)), (.ref fn)])) rfl rfl (B d28_15)
 obtain ⟨Lg_3, XG_3, N_3⟩ := own_gen X_3 (Fr.snoc X_3 N0 g_fn)
 have V_3 : aN Z h_3 fn kkf .null u1 := Arv.set Ar_3 q_3 S_3 M_3 Hs_3 G_3 rfl W_3 0 rfl (Nat.le_of_ble_eq_true rfl)
 have Z_4 := Nat.le_trans Z0 (Keep.of_wr W_3).1
 have K_5 : Keep h0 h_3 [ch, fn, ln, nd] := K0.wr W_3 (oK 1 rfl)
 have f_6 := (P4_.other W_3 (Or.inl n_ch_fn))
 obtain ⟨T_7, X_7, e_7, st_7⟩ := getF XG_3 hx hZ hown (oV hw 28 rfl) Via.refl e_3 f_6 (g := (mkF m 28 #[zr ch, zi 1, zn, zr nd] [(.ref ch)])) rfl rfl (B d28_28)
 have f_8 := (P12_.other W_3 (Ne.symm n_fn_ln))
 obtain ⟨c_9, Ar_9, q_9, S_9, M_9, Hs_9, G_9⟩ := id f_8
 have hin_9 : ¬ ((0 : Int32) < 0 ∨ c_9.slots.size ≤ ((0 : Int32)).toNatClampNeg) := inb_of S_9 ⟨by decide, by decide⟩
 have hat_9 : c_9.slots[((0 : Int32)).toNatClampNeg]? = some (.ref nd) := Hs_9.at hin_9 rfl
 obtain ⟨T_10, X_10, e_10, st_10⟩ := getF X_7 hx hZ hown (oV hw 28 rfl) Via.refl e_7 f_6 (g := (mkF m 40 #[zr ch, zi 1, zn, zr nd] [(.ref ch)])) rfl rfl (B d28_40)
 obtain ⟨c_11, Ar_11, q_11, S_11, M_11, Hs_11, G_11⟩ := id f_8
 have hin_11 : ¬ ((0 : Int32) < 0 ∨ c_11.slots.size ≤ ((0 : Int32)).toNatClampNeg) := inb_of S_11 ⟨by decide, by decide⟩
 obtain ⟨T_11, h_11, X_11, e_11, W_11, st_11⟩ := stR X_10 hx hZ e_10 Ar_11 (j := (0 : Int32)) hin_11 rfl (Or.inl rfl) (g := (mkF m 47 #[zr ch, zi 1, zn, zr nd] [.null, (.int (0 : Int32)), (.ref ln)])) rfl rfl (B d28_47)
 obtain ⟨Lg_11, XG_11, N_11⟩ := own_gen X_11 (Fr.snoc X_11 N_3 g_ln)
 have V_11 : aN Z h_11 ln kkl .null g1 := Arv.set Ar_11 q_11 S_11 M_11 Hs_11 G_11 rfl W_11 0 rfl (Nat.le_of_ble_eq_true rfl)
 have Z_12 := Nat.le_trans Z_4 (Keep.of_wr W_11).1
 have K_13 : Keep h0 h_11 [ch, fn, ln, nd] := K_5.wr W_11 (oK 2 rfl)
 have f_14 := ((P13_.wr W_3).wr W_11)
 have f_15 := ((P14_.other W_3 (Or.inl (Ne.symm n_fn_nd))).other W_11 (Or.inl (Ne.symm n_ln_nd)))
 obtain ⟨T_16, h_16, X_16, e_16, W_16, st_16⟩ := putF XG_11 hx hZ hown (oV hw 137 rfl) Via.refl e_11 f_15 f_14 (Or.inl (oW hw 138 rfl)) (oW hw 131 rfl) (ty := (.object sg0)) (by decide) rfl rfl (g := (mkF m 50 #[zr ch, zi 1, zn, zr nd] [.null, (.ref nd)])) rfl rfl (B d28_50)
 obtain ⟨Lg_16, XG_16, N_16⟩ := own_gen X_16 (Fr.snoc X_16 N_11 g_nd)
 have F_16 := f_15.same W_16
 have Z_17 := Nat.le_trans Z_12 (Keep.of_wr W_16).1
 have K_18 : Keep h0 h_16 [ch, fn, ln, nd] := K_13.wr W_16 (oK 3 rfl)
 have f_19 := (f_14.wr W_16)
 have f_20 := (((P16_.other W_3 (Or.inl (Ne.symm n_fn_nd))).other W_11 (Or.inl (Ne.symm n_ln_nd))).other W_16 (Or.inr (sn_31 hw)))
 obtain ⟨T_21, h_21, X_21, e_21, W_21, st_21⟩ := putF XG_16 hx hZ hown (oV hw 139 rfl) Via.refl e_16 f_20 f_19 (Or.inl (oW hw 140 rfl)) (oW hw 131 rfl) (ty := (.object sg5)) (by decide) rfl rfl (g := (mkF m 55 #[zr ch, zi 1, zn, zr nd] [.null, (.ref nd)])) rfl rfl (B d28_55)
 obtain ⟨Lg_21, XG_21, N_21⟩ := own_gen X_21 (Fr.snoc X_21 N_16 g_nd)
 have F_21 := f_20.same W_21
 have Z_22 := Nat.le_trans Z_17 (Keep.of_wr W_21).1
 have K_23 : Keep h0 h_21 [ch, fn, ln, nd] := K_18.wr W_21 (oK 3 rfl)
 have f_24 := (f_19.wr W_21)
 have f_25 := ((((P15_.other W_3 (Or.inl (Ne.symm n_fn_nd))).other W_11 (Or.inl (Ne.symm n_ln_nd))).other W_16 (Or.inr (sn_30 hw))).other W_21 (Or.inr (sn_32 hw)))
 obtain ⟨T_26, h_26, X_26, e_26, W_26, st_26⟩ := putF XG_21 hx hZ hown (oV hw 141 rfl) Via.refl e_21 f_25 f_24 (Or.inl (oW hw 142 rfl)) (oW hw 131 rfl) (ty := (.object sg5)) (by decide) rfl rfl (g := (mkF m 60 #[zr ch, zi 1, zn, zr nd] [.null, (.ref nd)])) rfl rfl (B d28_60)
 obtain ⟨Lg_26, XG_26, N_26⟩ := own_gen X_26 (Fr.snoc X_26 N_21 g_nd)
 have F_26 := f_25.same W_26
 have Z_27 := Nat.le_trans Z_22 (Keep.of_wr W_26).1
 have K_28 : Keep h0 h_26 [ch, fn, ln, nd] := K_23.wr W_26 (oK 3 rfl)
 have f_29 := (((((P7_.other W_3 (Or.inl n_ch_fn)).other W_11 (Or.inl n_ch_ln)).other W_16 (Or.inl n_ch_nd)).other W_21 (Or.inl n_ch_nd)).other W_26 (Or.inl n_ch_nd))
 obtain ⟨T_30, X_30, e_30, st_30⟩ := getF XG_26 hx hZ hown (oV hw 203 rfl) Via.refl e_26 f_29 (g := (mkF m 64 #[zr ch, zi 1, zn, zr nd] [(.ref ch)])) rfl rfl (B d28_64)
 have f_31 := (((((P6_.other W_3 (Or.inl n_ch_fn)).other W_11 (Or.inl n_ch_ln)).other W_16 (Or.inl n_ch_nd)).other W_21 (Or.inl n_ch_nd)).other W_26 (Or.inl n_ch_nd))
 obtain ⟨T_32, X_32, e_32, st_32⟩ := getF X_30 hx hZ hown (oV hw 129 rfl) Via.refl e_30 f_31 (g := (mkF m 75 #[zr ch, zi 1, zn, zr nd] [(.ref ch), (.ref nd)])) rfl rfl (B d28_75)
 have f_33 := (f_24.wr W_26)
 obtain ⟨T_34, h_34, X_34, e_34, W_34, st_34⟩ := putF X_32 hx hZ hown (oV hw 141 rfl) Via.refl e_32 F_26 f_33 (Or.inl (oW hw 142 rfl)) (oW hw 131 rfl) (ty := (.object sg5)) (by decide) (own_nar hsv) (own_fit hsv) (g := (mkF m 78 #[zr ch, zi 1, zn, zr nd] [spv, (.ref nd)])) rfl rfl (B d28_78)
 obtain ⟨Lg_34, XG_34, N_34⟩ := own_gen X_34 (Fr.snoc X_34 N_26 g_nd)
 have F_34 := F_26.same W_34
 have Z_35 := Nat.le_trans Z_27 (Keep.of_wr W_34).1
 have K_36 : Keep h0 h_34 [ch, fn, ln, nd] := K_28.wr W_34 (oK 3 rfl)
 have f_37 := ((((((P0_.wr W_3).wr W_11).wr W_16).wr W_21).wr W_26).wr W_34)
 have f_38 := (f_31.other W_34 (Or.inl n_ch_nd))
 obtain ⟨T_39, h_39, X_39, e_39, W_39, st_39⟩ := putF XG_34 hx hZ hown (oV hw 129 rfl) Via.refl e_34 f_38 f_37 (Or.inl (oW hw 130 rfl)) (oW hw 18 rfl) (ty := (.object sg5)) (by decide) rfl rfl (g := (mkF m 83 #[zr ch, zi 1, zn, zr nd] [(.ref nd), (.ref ch)])) rfl rfl (B d28_83)
 obtain ⟨Lg_39, XG_39, N_39⟩ := own_gen X_39 (Fr.snoc X_39 N_34 g_ch)
 have F_39 := f_38.same W_39
 have Z_40 := Nat.le_trans Z_35 (Keep.of_wr W_39).1
 have K_41 : Keep h0 h_39 [ch, fn, ln, nd] := K_36.wr W_39 (oK 0 rfl)
 have f_42 := ((f_29.other W_34 (Or.inl n_ch_nd)).other W_39 (Or.inr (sn_96 hw)))
 obtain ⟨T_43, X_43, e_43, st_43⟩ := getF XG_39 hx hZ hown (oV hw 203 rfl) Via.refl e_39 f_42 (g := (mkF m 88 #[zr ch, zi 1, zn, zr nd] [(.ref ch), (.ref ch)])) rfl rfl (B d28_88)
 have f_44 := (f_37.wr W_39)
 obtain ⟨T_45, h_45, X_45, e_45, W_45, st_45⟩ := putF X_43 hx hZ hown (oV hw 203 rfl) Via.refl e_43 f_42 f_44 (Or.inl (oW hw 204 rfl)) (oW hw 18 rfl) (ty := .int) (by decide) rfl rfl (g := (mkF m 93 #[zr ch, zi 1, zn, zr nd] [(.int (spc + (1 : Int32))), (.ref ch)])) rfl rfl (B d28_93)
 obtain ⟨Lg_45, XG_45, N_45⟩ := own_gen X_45 (Fr.snoc X_45 N_39 g_ch)
 have F_45 := f_42.same W_45
 have Z_46 := Nat.le_trans Z_40 (Keep.of_wr W_45).1
 have K_47 : Keep h0 h_45 [ch, fn, ln, nd] := K_41.wr W_45 (oK 0 rfl)
 refine own_go (S' := T_45.setTop (mkF m 96 #[zr ch, zi 1, zn, zr nd] [])) (fun target kt => ?_) ?_
 ·
  show oSt p e below s₁ m 0 #[zr ch, zi 1, zn, zr nd] [] target
  refine XS.aloadN X0.here hx rfl (B d28_0) rfl rfl ?_
  refine XS.ifnonnullNo X0.here hx rfl (B d28_1) rfl ?_
  refine XS.aloadN X0.here hx rfl (B d28_4) rfl rfl ?_
  refine st_1 _ ?_
  refine XS.iloadN X_1.here hx rfl (B d28_8) rfl ?_
  refine XS.iconst X_1.here hx rfl (B d28_9) ?_
  refine XS.isub X_1.here hx rfl (B d28_10) rfl ?_
  show oSt p e below T_1 m 11 #[zr ch, zi 1, zn, zr nd] [(.int ((1 : Int32) - (1 : Int32))), (.ref fn)] target
  rw [show (1 : Int32) - (1 : Int32) = (0 : Int32) from by decide]
  show oSt p e below T_1 m 11 #[zr ch, zi 1, zn, zr nd] [(.int (0 : Int32)), (.ref fn)] target
  refine XS.aloadN X_1.here hx rfl (B d28_11) rfl rfl ?_
  refine st_2 _ ?_
  refine st_3 _ ?_
  refine XS.goto XG_3.here hx rfl (pc0 := 16) (pc' := 27) rfl (B d28_16) (by decide) (by decide) ?_
  refine XS.aloadN XG_3.here hx rfl (B d28_27) rfl rfl ?_
  refine st_7 _ ?_
  refine XS.iloadN X_7.here hx rfl (B d28_31) rfl ?_
  refine XS.iconst X_7.here hx rfl (B d28_32) ?_
  refine XS.isub X_7.here hx rfl (B d28_33) rfl ?_
  show oSt p e below T_7 m 34 #[zr ch, zi 1, zn, zr nd] [(.int ((1 : Int32) - (1 : Int32))), (.ref ln)] target
  rw [show (1 : Int32) - (1 : Int32) = (0 : Int32) from by decide]
  show oSt p e below T_7 m 34 #[zr ch, zi 1, zn, zr nd] [(.int (0 : Int32)), (.ref ln)] target
  refine X_7.aaload hx (j := (0 : Int32)) (v := (.ref nd)) (by rw [e_7]; exact Ar_9.1) (State.isArrayOf_alike hZ.alike Ar_9.2.1) rfl Ar_9.2.2 hin_9 hat_9 (g := (mkF m 34 #[zr ch, zi 1, zn, zr nd] [(.int (0 : Int32)), (.ref ln)])) rfl rfl (B d28_34) _ ?_
  refine XS.aloadN X_7.here hx rfl (B d28_35) rfl rfl ?_
  refine Jvm.RoadKit.acmp (g := (mkF m 36 #[zr ch, zi 1, zn, zr nd] [(.ref nd), (.ref nd)])) X_7 hx rfl rfl rfl (pc0 := 36) (pc' := 39) (same := true) rfl (B d28_36) rfl (decide_eq_true rfl) (by decide) (by decide) ?_
  refine XS.aloadN X_7.here hx rfl (B d28_39) rfl rfl ?_
  refine st_10 _ ?_
  refine XS.iloadN X_10.here hx rfl (B d28_43) rfl ?_
  refine XS.iconst X_10.here hx rfl (B d28_44) ?_
  refine XS.isub X_10.here hx rfl (B d28_45) rfl ?_
  show oSt p e below T_10 m 46 #[zr ch, zi 1, zn, zr nd] [(.int ((1 : Int32) - (1 : Int32))), (.ref ln)] target
  rw [show (1 : Int32) - (1 : Int32) = (0 : Int32) from by decide]
  show oSt p e below T_10 m 46 #[zr ch, zi 1, zn, zr nd] [(.int (0 : Int32)), (.ref ln)] target
  refine XS.aloadN X_10.here hx rfl (B d28_46) rfl rfl ?_
  refine st_11 _ ?_
  refine XS.aloadN XG_11.here hx rfl (B d28_48) rfl rfl ?_
  refine XS.aconstNull XG_11.here hx rfl (B d28_49) ?_
  refine st_16 _ ?_
  refine XS.aloadN XG_16.here hx rfl (B d28_53) rfl rfl ?_
  refine XS.aconstNull XG_16.here hx rfl (B d28_54) ?_
  refine st_21 _ ?_
  refine XS.aloadN XG_21.here hx rfl (B d28_58) rfl rfl ?_
  refine XS.aconstNull XG_21.here hx rfl (B d28_59) ?_
  refine st_26 _ ?_
  refine XS.aloadN XG_26.here hx rfl (B d28_63) rfl rfl ?_
  refine st_30 _ ?_
  refine XS.sipush X_30.here hx rfl (B d28_67) ?_
  refine XS.icmpNo X_30.here hx rfl (B d28_70) rfl (tlt hsp).2.1 ?_
  refine XS.aloadN X_30.here hx rfl (B d28_73) rfl rfl ?_
  refine XS.aloadN X_30.here hx rfl (B d28_74) rfl rfl ?_
  show oSt p e below T_30 m 75 #[zr ch, zi 1, zn, zr nd] [(.ref ch), (.ref nd)] target
  refine st_32 _ ?_
  refine st_34 _ ?_
  refine XS.aloadN XG_34.here hx rfl (B d28_81) rfl rfl ?_
  refine XS.aloadN XG_34.here hx rfl (B d28_82) rfl rfl ?_
  refine st_39 _ ?_
  refine XS.aloadN XG_39.here hx rfl (B d28_86) rfl rfl ?_
  refine XS.dup XG_39.here hx rfl (B d28_87) rfl rfl ?_
  refine st_43 _ ?_
  refine XS.iconst X_43.here hx rfl (B d28_91) ?_
  refine XS.iadd X_43.here hx rfl (B d28_92) rfl ?_
  refine st_45 _ ?_
  exact kt
 obtain ⟨fs, hr, hrun, hended, hW, hsame⟩ := XG_45.leave (v := none) (fun _ => rfl)
 refine ⟨_, _, XG_45.returnOut hx Bd.returns (B d28_96) hr, hrun, hended, _, _, rfl, ?_, ⟨_, rfl⟩, hW, hsame.mono (by decide) (by decide)⟩
 show Q_uln1 Z ch nd fn ln bl fg kkf kkl spc ldr hv tv spv fev u1 g1 ev db h0 n0 _ T_45.heap _
 rw [e_45]
 have f_48 := (f_44.wr W_45)
 have f_49 := ((((((((P1_.other W_3 (Or.inl n_ch_fn)).other W_11 (Or.inl n_ch_ln)).other W_16 (Or.inl n_ch_nd)).other W_21 (Or.inl n_ch_nd)).other W_26 (Or.inl n_ch_nd)).other W_34 (Or.inl n_ch_nd)).other W_39 (Or.inr (sn_97 hw))).other W_45 (Or.inr (sn_98 hw)))
 have f_50 := ((((((((P2_.other W_3 (Or.inl n_ch_fn)).other W_11 (Or.inl n_ch_ln)).other W_16 (Or.inl n_ch_nd)).other W_21 (Or.inl n_ch_nd)).other W_26 (Or.inl n_ch_nd)).other W_34 (Or.inl n_ch_nd)).other W_39 (Or.inr (sn_99 hw))).other W_45 (Or.inr (sn_100 hw)))
 have f_51 := ((((((((P3_.other W_3 (Or.inl n_ch_fn)).other W_11 (Or.inl n_ch_ln)).other W_16 (Or.inl n_ch_nd)).other W_21 (Or.inl n_ch_nd)).other W_26 (Or.inl n_ch_nd)).other W_34 (Or.inl n_ch_nd)).other W_39 (Or.inr (sn_101 hw))).other W_45 (Or.inr (sn_102 hw)))
 have f_52 := (((((((f_6.other W_11 (Or.inl n_ch_ln)).other W_16 (Or.inl n_ch_nd)).other W_21 (Or.inl n_ch_nd)).other W_26 (Or.inl n_ch_nd)).other W_34 (Or.inl n_ch_nd)).other W_39 (Or.inr (sn_103 hw))).other W_45 (Or.inr (sn_104 hw)))
 have f_53 := ((((((((P5_.other W_3 (Or.inl n_ch_fn)).other W_11 (Or.inl n_ch_ln)).other W_16 (Or.inl n_ch_nd)).other W_21 (Or.inl n_ch_nd)).other W_26 (Or.inl n_ch_nd)).other W_34 (Or.inl n_ch_nd)).other W_39 (Or.inr (sn_105 hw))).other W_45 (Or.inr (sn_106 hw)))
 have f_54 := (F_39.other W_45 (Or.inr (sn_107 hw)))
 have f_55 := ((((((((P8_.other W_3 (Or.inl n_ch_fn)).other W_11 (Or.inl n_ch_ln)).other W_16 (Or.inl n_ch_nd)).other W_21 (Or.inl n_ch_nd)).other W_26 (Or.inl n_ch_nd)).other W_34 (Or.inl n_ch_nd)).other W_39 (Or.inr (sn_108 hw))).other W_45 (Or.inr (sn_109 hw)))
 have f_56 := ((((((((P9_.other W_3 (Or.inl n_ch_fn)).other W_11 (Or.inl n_ch_ln)).other W_16 (Or.inl n_ch_nd)).other W_21 (Or.inl n_ch_nd)).other W_26 (Or.inl n_ch_nd)).other W_34 (Or.inl n_ch_nd)).other W_39 (Or.inr (sn_110 hw))).other W_45 (Or.inr (sn_111 hw)))
 have f_57 := ((((((((P10_.other W_3 (Or.inl n_ch_fn)).other W_11 (Or.inl n_ch_ln)).other W_16 (Or.inl n_ch_nd)).other W_21 (Or.inl n_ch_nd)).other W_26 (Or.inl n_ch_nd)).other W_34 (Or.inl n_ch_nd)).other W_39 (Or.inr (sn_112 hw))).other W_45 (Or.inr (sn_113 hw)))
 have f_58 := (((((((V_3.other W_11 n_fn_ln).other W_16 n_fn_nd).other W_21 n_fn_nd).other W_26 n_fn_nd).other W_34 n_fn_nd).other W_39 (Ne.symm n_ch_fn)).other W_45 (Ne.symm n_ch_fn))
 have f_59 := ((((((V_11.other W_16 n_ln_nd).other W_21 n_ln_nd).other W_26 n_ln_nd).other W_34 n_ln_nd).other W_39 (Ne.symm n_ch_ln)).other W_45 (Ne.symm n_ch_ln))
 have f_60 := (((f_33.wr W_34).wr W_39).wr W_45)
 have f_61 := (((((F_16.other W_21 (Or.inr (sn_33 hw))).other W_26 (Or.inr (sn_34 hw))).other W_34 (Or.inr (sn_34 hw))).other W_39 (Or.inl (Ne.symm n_ch_nd))).other W_45 (Or.inl (Ne.symm n_ch_nd)))
 have f_62 := ((F_34.other W_39 (Or.inl (Ne.symm n_ch_nd))).other W_45 (Or.inl (Ne.symm n_ch_nd)))
 have f_63 := ((((F_21.other W_26 (Or.inr (sn_35 hw))).other W_34 (Or.inr (sn_35 hw))).other W_39 (Or.inl (Ne.symm n_ch_nd))).other W_45 (Or.inl (Ne.symm n_ch_nd)))
 exact ⟨rfl, N_45, K_47, f_48, f_49, f_50, f_51, f_52, f_53, f_54, F_45, f_55, f_56, f_57, f_58, f_59, f_60, f_61, f_62, f_63⟩
-- com/example/carillon/carillon/Chain.unlinkNode:(ILcom/example/carillon/carillon/Chain$Node;Lcom/example/carillon/carillon/Chain$Node;)V
theorem ef_uln2 (m : MethodId) (ch nd fn ln bl fg : Addr) (kkf kkl : ClassId) (spc : Int32) (ldr : Int64) (hv tv spv fev u0 g0 ev db : Value) : entryFrame m #[(.ref ch), (.int (2 : Int32)), .null, (.ref nd)] 4 = mkF m 0 #[.val (.ref ch), .val (.int (2 : Int32)), .val .null, .val (.ref nd)] [] := by first | (simp [entryFrame, mkF, argsToLocals, Value.category]; done) | rfl
def Q_uln2 (Z : State) (ch nd fn ln bl fg : Addr) (kkf kkl : ClassId) (spc : Int32) (ldr : Int64) (hv tv spv fev u0 g0 ev db : Value) (h0 : Heap) (n0 : Nat) (v : Option Value) (h : Heap) (L : List Loc) : Prop := v = none ∧ Fr n0 L ∧ Keep h0 h [ch, fn, ln, nd] ∧ Exa Z h ch sg3 ∧ xF8 Z h ch hv ∧ xF9 Z h ch tv ∧ xF10 Z h ch (.ref fn) ∧ xF11 Z h ch (.ref ln) ∧ xF12 Z h ch (.ref bl) ∧ xF13 Z h ch (.ref nd) ∧ xF14 Z h ch (.int (spc + (1 : Int32))) ∧ xF15 Z h ch (.long ldr) ∧ xF16 Z h ch fev ∧ xF17 Z h ch (.ref fg) ∧ aN Z h fn kkf u0 .null ∧ aN Z h ln kkl g0 .null ∧ Exa Z h nd sg5 ∧ xF18 Z h nd .null ∧ xF19 Z h nd spv ∧ xF20 Z h nd .null
set_option maxRecDepth 65536 in
set_option maxHeartbeats 40000000 in
theorem rm_uln2 (l : Launch) (Z : State) (a0 : Array Value) (hw : hwT Z a0) (ws : List Jvm.Cond) (ch nd fn ln bl fg : Addr) (kkf kkl : ClassId) (spc : Int32) (ldr : Int64) (hv tv spv fev u0 g0 ev db : Value) (h0 : Heap) (n0 : Nat) (Z0 : n0 ≤ h0.size) (P0_ : Exa Z h0 ch sg3) (P1_ : xF8 Z h0 ch hv) (P2_ : xF9 Z h0 ch tv) (P3_ : xF10 Z h0 ch (.ref fn)) (P4_ : xF11 Z h0 ch (.ref ln)) (P5_ : xF12 Z h0 ch (.ref bl)) (P6_ : xF13 Z h0 ch spv) (P7_ : xF14 Z h0 ch (.int spc)) (P8_ : xF15 Z h0 ch (.long ldr)) (P9_ : xF16 Z h0 ch fev) (P10_ : xF17 Z h0 ch (.ref fg)) (P11_ : aN Z h0 fn kkf u0 (.ref nd)) (P12_ : aN Z h0 ln kkl g0 (.ref nd)) (P13_ : Exa Z h0 nd sg5) (P14_ : xF18 Z h0 nd ev) (P15_ : xF19 Z h0 nd .null) (P16_ : xF20 Z h0 nd db) (Okkf : Ovr Z kkf sg5) (Okkl : Ovr Z kkl sg5) (g_ch : n0 ≤ ch) (g_fn : n0 ≤ fn) (g_ln : n0 ≤ ln) (g_nd : n0 ≤ nd) (n_ch_fn : ch ≠ fn) (n_ch_ln : ch ≠ ln) (n_ch_nd : ch ≠ nd) (n_fn_ln : fn ≠ ln) (n_fn_nd : fn ≠ nd) (n_ln_nd : ln ≠ nd) (hsp : (spc < (256 : Int32))) (hsv : (Value.isRef spv = true)) :
  oMF l Z mn28 (Jvm.Cond.code mn28 prog_2_method_23_code 4 none) ws (rO 0 0 0 0) #[(.ref ch), (.int (2 : Int32)), .null, (.ref nd)] h0 (Q_uln2 Z ch nd fn ln bl fg kkf kkl spc ldr hv tv spv fev u0 g0 ev db h0 n0) := by
 refine MetFree.of_bodySF (plainFor_of_name pn_ordc) hisR ?_
 intro p e s m args below meth c s₁ Bd hml0 hP hK
 obtain ⟨rfl, hZ, hh⟩ := hP
 have hx := Bd.exec
 have hby := Bd.bytes
 have B : ∀ {pc r}, decode cd28 pc = r → decode c.code pc = r := fun h => hb hby h
 have hml : c.maxLocals = 4 := hml0
 have hown : s.vm.findClass sg3 = some m.cls := findClass_of_methodNamed Bd.named
 have hnm := (name_of_methodNamed Bd.named Bd.method).1
 have X0 : Stand p l e (rO 0 0 0 0) s m #[(.ref ch), (.int (2 : Int32)), .null, (.ref nd)] below meth c s₁ [] 0 0 := Stand.of_body Bd
 have e0 : s₁.heap = h0 := by rw [← hh, Bd.state]; rfl
 have N0 := Fr.nil n0
 refine own_in ?_
 refine own_go (S' := s₁.setTop (mkF m 0 #[zr ch, zi 2, zn, zr nd] [])) (fun tgt_ stp_ => castTop (ef_uln2 m ch nd fn ln bl fg kkf kkl spc ldr hv tv spv fev u0 g0 ev db) stp_) ?_
 have K0 : Keep h0 h0 [ch, fn, ln, nd] := Keep.refl h0 _
 obtain ⟨T_1, X_1, e_1, st_1⟩ := getF X0 hx hZ hown (oV hw 26 rfl) Via.refl e0 P3_ (g := (mkF m 5 #[zr ch, zi 2, zn, zr nd] [(.ref ch)])) rfl rfl (B d28_5)
 obtain ⟨T_2, X_2, e_2, st_2⟩ := getF X_1 hx hZ hown (oV hw 141 rfl) Via.refl e_1 P15_ (g := (mkF m 12 #[zr ch, zi 2, zn, zr nd] [(.ref nd), (.int (1 : Int32)), (.ref fn)])) rfl rfl (B d28_12)
 obtain ⟨c_3, Ar_3, q_3, S_3, M_3, Hs_3, G_3⟩ := id P11_
 have hin_3 : ¬ ((1 : Int32) < 0 ∨ c_3.slots.size ≤ ((1 : Int32)).toNatClampNeg) := inb_of S_3 ⟨by decide, by decide⟩
 obtain ⟨T_3, h_3, X_3, e_3, W_3, st_3⟩ := stR X_2 hx hZ e_2 Ar_3 (j := (1 : Int32)) hin_3 rfl (Or.inl rfl) (g := (mkF m 15 #[zr ch, zi 2, zn, zr nd] [.null, (.int (1 : Int32)), (.ref fn)])) rfl rfl (B d28_15)
 obtain ⟨Lg_3, XG_3, N_3⟩ := own_gen X_3 (Fr.snoc X_3 N0 g_fn)
 have V_3 : aN Z h_3 fn kkf u0 .null := Arv.set Ar_3 q_3 S_3 M_3 Hs_3 G_3 rfl W_3 1 rfl (Nat.le_of_ble_eq_true rfl)
 have Z_4 := Nat.le_trans Z0 (Keep.of_wr W_3).1
 have K_5 : Keep h0 h_3 [ch, fn, ln, nd] := K0.wr W_3 (oK 1 rfl)
 have f_6 := (P4_.other W_3 (Or.inl n_ch_fn))
 obtain ⟨T_7, X_7, e_7, st_7⟩ := getF XG_3 hx hZ hown (oV hw 28 rfl) Via.refl e_3 f_6 (g := (mkF m 28 #[zr ch, zi 2, zn, zr nd] [(.ref ch)])) rfl rfl (B d28_28)
 have f_8 := (P12_.other W_3 (Ne.symm n_fn_ln))
 obtain ⟨c_9, Ar_9, q_9, S_9, M_9, Hs_9, G_9⟩ := id f_8
 have hin_9 : ¬ ((1 : Int32) < 0 ∨ c_9.slots.size ≤ ((1 : Int32)).toNatClampNeg) := inb_of S_9 ⟨by decide, by decide⟩
 have hat_9 : c_9.slots[((1 : Int32)).toNatClampNeg]? = some (.ref nd) := Hs_9.at hin_9 rfl
 obtain ⟨T_10, X_10, e_10, st_10⟩ := getF X_7 hx hZ hown (oV hw 28 rfl) Via.refl e_7 f_6 (g := (mkF m 40 #[zr ch, zi 2, zn, zr nd] [(.ref ch)])) rfl rfl (B d28_40)
 obtain ⟨c_11, Ar_11, q_11, S_11, M_11, Hs_11, G_11⟩ := id f_8
 have hin_11 : ¬ ((1 : Int32) < 0 ∨ c_11.slots.size ≤ ((1 : Int32)).toNatClampNeg) := inb_of S_11 ⟨by decide, by decide⟩
 obtain ⟨T_11, h_11, X_11, e_11, W_11, st_11⟩ := stR X_10 hx hZ e_10 Ar_11 (j := (1 : Int32)) hin_11 rfl (Or.inl rfl) (g := (mkF m 47 #[zr ch, zi 2, zn, zr nd] [.null, (.int (1 : Int32)), (.ref ln)])) rfl rfl (B d28_47)
 obtain ⟨Lg_11, XG_11, N_11⟩ := own_gen X_11 (Fr.snoc X_11 N_3 g_ln)
 have V_11 : aN Z h_11 ln kkl g0 .null := Arv.set Ar_11 q_11 S_11 M_11 Hs_11 G_11 rfl W_11 1 rfl (Nat.le_of_ble_eq_true rfl)
 have Z_12 := Nat.le_trans Z_4 (Keep.of_wr W_11).1
 have K_13 : Keep h0 h_11 [ch, fn, ln, nd] := K_5.wr W_11 (oK 2 rfl)
 have f_14 := ((P13_.wr W_3).wr W_11)
 have f_15 := ((P14_.other W_3 (Or.inl (Ne.symm n_fn_nd))).other W_11 (Or.inl (Ne.symm n_ln_nd)))
 obtain ⟨T_16, h_16, X_16, e_16, W_16, st_16⟩ := putF XG_11 hx hZ hown (oV hw 137 rfl) Via.refl e_11 f_15 f_14 (Or.inl (oW hw 138 rfl)) (oW hw 131 rfl) (ty := (.object sg0)) (by decide) rfl rfl (g := (mkF m 50 #[zr ch, zi 2, zn, zr nd] [.null, (.ref nd)])) rfl rfl (B d28_50)
 obtain ⟨Lg_16, XG_16, N_16⟩ := own_gen X_16 (Fr.snoc X_16 N_11 g_nd)
 have F_16 := f_15.same W_16
 have Z_17 := Nat.le_trans Z_12 (Keep.of_wr W_16).1
 have K_18 : Keep h0 h_16 [ch, fn, ln, nd] := K_13.wr W_16 (oK 3 rfl)
 have f_19 := (f_14.wr W_16)
 have f_20 := (((P16_.other W_3 (Or.inl (Ne.symm n_fn_nd))).other W_11 (Or.inl (Ne.symm n_ln_nd))).other W_16 (Or.inr (sn_31 hw)))
 obtain ⟨T_21, h_21, X_21, e_21, W_21, st_21⟩ := putF XG_16 hx hZ hown (oV hw 139 rfl) Via.refl e_16 f_20 f_19 (Or.inl (oW hw 140 rfl)) (oW hw 131 rfl) (ty := (.object sg5)) (by decide) rfl rfl (g := (mkF m 55 #[zr ch, zi 2, zn, zr nd] [.null, (.ref nd)])) rfl rfl (B d28_55)
 obtain ⟨Lg_21, XG_21, N_21⟩ := own_gen X_21 (Fr.snoc X_21 N_16 g_nd)
 have F_21 := f_20.same W_21
 have Z_22 := Nat.le_trans Z_17 (Keep.of_wr W_21).1
 have K_23 : Keep h0 h_21 [ch, fn, ln, nd] := K_18.wr W_21 (oK 3 rfl)
 have f_24 := (f_19.wr W_21)
 have f_25 := ((((P15_.other W_3 (Or.inl (Ne.symm n_fn_nd))).other W_11 (Or.inl (Ne.symm n_ln_nd))).other W_16 (Or.inr (sn_30 hw))).other W_21 (Or.inr (sn_32 hw)))
 obtain ⟨T_26, h_26, X_26, e_26, W_26, st_26⟩ := putF XG_21 hx hZ hown (oV hw 141 rfl) Via.refl e_21 f_25 f_24 (Or.inl (oW hw 142 rfl)) (oW hw 131 rfl) (ty := (.object sg5)) (by decide) rfl rfl (g := (mkF m 60 #[zr ch, zi 2, zn, zr nd] [.null, (.ref nd)])) rfl rfl (B d28_60)
 obtain ⟨Lg_26, XG_26, N_26⟩ := own_gen X_26 (Fr.snoc X_26 N_21 g_nd)
 have F_26 := f_25.same W_26
 have Z_27 := Nat.le_trans Z_22 (Keep.of_wr W_26).1
 have K_28 : Keep h0 h_26 [ch, fn, ln, nd] := K_23.wr W_26 (oK 3 rfl)
 have f_29 := (((((P7_.other W_3 (Or.inl n_ch_fn)).other W_11 (Or.inl n_ch_ln)).other W_16 (Or.inl n_ch_nd)).other W_21 (Or.inl n_ch_nd)).other W_26 (Or.inl n_ch_nd))
 obtain ⟨T_30, X_30, e_30, st_30⟩ := getF XG_26 hx hZ hown (oV hw 203 rfl) Via.refl e_26 f_29 (g := (mkF m 64 #[zr ch, zi 2, zn, zr nd] [(.ref ch)])) rfl rfl (B d28_64)
 have f_31 := (((((P6_.other W_3 (Or.inl n_ch_fn)).other W_11 (Or.inl n_ch_ln)).other W_16 (Or.inl n_ch_nd)).other W_21 (Or.inl n_ch_nd)).other W_26 (Or.inl n_ch_nd))
 obtain ⟨T_32, X_32, e_32, st_32⟩ := getF X_30 hx hZ hown (oV hw 129 rfl) Via.refl e_30 f_31 (g := (mkF m 75 #[zr ch, zi 2, zn, zr nd] [(.ref ch), (.ref nd)])) rfl rfl (B d28_75)
 have f_33 := (f_24.wr W_26)
 obtain ⟨T_34, h_34, X_34, e_34, W_34, st_34⟩ := putF X_32 hx hZ hown (oV hw 141 rfl) Via.refl e_32 F_26 f_33 (Or.inl (oW hw 142 rfl)) (oW hw 131 rfl) (ty := (.object sg5)) (by decide) (own_nar hsv) (own_fit hsv) (g := (mkF m 78 #[zr ch, zi 2, zn, zr nd] [spv, (.ref nd)])) rfl rfl (B d28_78)
 obtain ⟨Lg_34, XG_34, N_34⟩ := own_gen X_34 (Fr.snoc X_34 N_26 g_nd)
 have F_34 := F_26.same W_34
 have Z_35 := Nat.le_trans Z_27 (Keep.of_wr W_34).1
 have K_36 : Keep h0 h_34 [ch, fn, ln, nd] := K_28.wr W_34 (oK 3 rfl)
 have f_37 := ((((((P0_.wr W_3).wr W_11).wr W_16).wr W_21).wr W_26).wr W_34)
 have f_38 := (f_31.other W_34 (Or.inl n_ch_nd))
 obtain ⟨T_39, h_39, X_39, e_39, W_39, st_39⟩ := putF XG_34 hx hZ hown (oV hw 129 rfl) Via.refl e_34 f_38 f_37 (Or.inl (oW hw 130 rfl)) (oW hw 18 rfl) (ty := (.object sg5)) (by decide) rfl rfl (g := (mkF m 83 #[zr ch, zi 2, zn, zr nd] [(.ref nd), (.ref ch)])) rfl rfl (B d28_83)
 obtain ⟨Lg_39, XG_39, N_39⟩ := own_gen X_39 (Fr.snoc X_39 N_34 g_ch)
 have F_39 := f_38.same W_39
 have Z_40 := Nat.le_trans Z_35 (Keep.of_wr W_39).1
 have K_41 : Keep h0 h_39 [ch, fn, ln, nd] := K_36.wr W_39 (oK 0 rfl)
 have f_42 := ((f_29.other W_34 (Or.inl n_ch_nd)).other W_39 (Or.inr (sn_96 hw)))
 obtain ⟨T_43, X_43, e_43, st_43⟩ := getF XG_39 hx hZ hown (oV hw 203 rfl) Via.refl e_39 f_42 (g := (mkF m 88 #[zr ch, zi 2, zn, zr nd] [(.ref ch), (.ref ch)])) rfl rfl (B d28_88)
 have f_44 := (f_37.wr W_39)
 obtain ⟨T_45, h_45, X_45, e_45, W_45, st_45⟩ := putF X_43 hx hZ hown (oV hw 203 rfl) Via.refl e_43 f_42 f_44 (Or.inl (oW hw 204 rfl)) (oW hw 18 rfl) (ty := .int) (by decide) rfl rfl (g := (mkF m 93 #[zr ch, zi 2, zn, zr nd] [(.int (spc + (1 : Int32))), (.ref ch)])) rfl rfl (B d28_93)
 obtain ⟨Lg_45, XG_45, N_45⟩ := own_gen X_45 (Fr.snoc X_45 N_39 g_ch)
 have F_45 := f_42.same W_45
 have Z_46 := Nat.le_trans Z_40 (Keep.of_wr W_45).1
 have K_47 : Keep h0 h_45 [ch, fn, ln, nd] := K_41.wr W_45 (oK 0 rfl)
 refine own_go (S' := T_45.setTop (mkF m 96 #[zr ch, zi 2, zn, zr nd] [])) (fun target kt => ?_) ?_
 ·
  show oSt p e below s₁ m 0 #[zr ch, zi 2, zn, zr nd] [] target
  refine XS.aloadN X0.here hx rfl (B d28_0) rfl rfl ?_
  refine XS.ifnonnullNo X0.here hx rfl (B d28_1) rfl ?_
  refine XS.aloadN X0.here hx rfl (B d28_4) rfl rfl ?_
  refine st_1 _ ?_
  refine XS.iloadN X_1.here hx rfl (B d28_8) rfl ?_
  refine XS.iconst X_1.here hx rfl (B d28_9) ?_
  refine XS.isub X_1.here hx rfl (B d28_10) rfl ?_
  show oSt p e below T_1 m 11 #[zr ch, zi 2, zn, zr nd] [(.int ((2 : Int32) - (1 : Int32))), (.ref fn)] target
  rw [show (2 : Int32) - (1 : Int32) = (1 : Int32) from by decide]
  show oSt p e below T_1 m 11 #[zr ch, zi 2, zn, zr nd] [(.int (1 : Int32)), (.ref fn)] target
  refine XS.aloadN X_1.here hx rfl (B d28_11) rfl rfl ?_
  refine st_2 _ ?_
  refine st_3 _ ?_
  refine XS.goto XG_3.here hx rfl (pc0 := 16) (pc' := 27) rfl (B d28_16) (by decide) (by decide) ?_
  refine XS.aloadN XG_3.here hx rfl (B d28_27) rfl rfl ?_
  refine st_7 _ ?_
  refine XS.iloadN X_7.here hx rfl (B d28_31) rfl ?_
  refine XS.iconst X_7.here hx rfl (B d28_32) ?_
  refine XS.isub X_7.here hx rfl (B d28_33) rfl ?_
  show oSt p e below T_7 m 34 #[zr ch, zi 2, zn, zr nd] [(.int ((2 : Int32) - (1 : Int32))), (.ref ln)] target
  rw [show (2 : Int32) - (1 : Int32) = (1 : Int32) from by decide]
  show oSt p e below T_7 m 34 #[zr ch, zi 2, zn, zr nd] [(.int (1 : Int32)), (.ref ln)] target
  refine X_7.aaload hx (j := (1 : Int32)) (v := (.ref nd)) (by rw [e_7]; exact Ar_9.1) (State.isArrayOf_alike hZ.alike Ar_9.2.1) rfl Ar_9.2.2 hin_9 hat_9 (g := (mkF m 34 #[zr ch, zi 2, zn, zr nd] [(.int (1 : Int32)), (.ref ln)])) rfl rfl (B d28_34) _ ?_
  refine XS.aloadN X_7.here hx rfl (B d28_35) rfl rfl ?_
  refine Jvm.RoadKit.acmp (g := (mkF m 36 #[zr ch, zi 2, zn, zr nd] [(.ref nd), (.ref nd)])) X_7 hx rfl rfl rfl (pc0 := 36) (pc' := 39) (same := true) rfl (B d28_36) rfl (decide_eq_true rfl) (by decide) (by decide) ?_
  refine XS.aloadN X_7.here hx rfl (B d28_39) rfl rfl ?_
  refine st_10 _ ?_
  refine XS.iloadN X_10.here hx rfl (B d28_43) rfl ?_
  refine XS.iconst X_10.here hx rfl (B d28_44) ?_
  refine XS.isub X_10.here hx rfl (B d28_45) rfl ?_
  show oSt p e below T_10 m 46 #[zr ch, zi 2, zn, zr nd] [(.int ((2 : Int32) - (1 : Int32))), (.ref ln)] target
  rw [show (2 : Int32) - (1 : Int32) = (1 : Int32) from by decide]
  show oSt p e below T_10 m 46 #[zr ch, zi 2, zn, zr nd] [(.int (1 : Int32)), (.ref ln)] target
  refine XS.aloadN X_10.here hx rfl (B d28_46) rfl rfl ?_
  refine st_11 _ ?_
  refine XS.aloadN XG_11.here hx rfl (B d28_48) rfl rfl ?_
  refine XS.aconstNull XG_11.here hx rfl (B d28_49) ?_
  refine st_16 _ ?_
  refine XS.aloadN XG_16.here hx rfl (B d28_53) rfl rfl ?_
  refine XS.aconstNull XG_16.here hx rfl (B d28_54) ?_
  refine st_21 _ ?_
  refine XS.aloadN XG_21.here hx rfl (B d28_58) rfl rfl ?_
  refine XS.aconstNull XG_21.here hx rfl (B d28_59) ?_
  refine st_26 _ ?_
  refine XS.aloadN XG_26.here hx rfl (B d28_63) rfl rfl ?_
  refine st_30 _ ?_
  refine XS.sipush X_30.here hx rfl (B d28_67) ?_
  refine XS.icmpNo X_30.here hx rfl (B d28_70) rfl (tlt hsp).2.1 ?_
  refine XS.aloadN X_30.here hx rfl (B d28_73) rfl rfl ?_
  refine XS.aloadN X_30.here hx rfl (B d28_74) rfl rfl ?_
  show oSt p e below T_30 m 75 #[zr ch, zi 2, zn, zr nd] [(.ref ch), (.ref nd)] target
  refine st_32 _ ?_
  refine st_34 _ ?_
  refine XS.aloadN XG_34.here hx rfl (B d28_81) rfl rfl ?_
  refine XS.aloadN XG_34.here hx rfl (B d28_82) rfl rfl ?_
  refine st_39 _ ?_
  refine XS.aloadN XG_39.here hx rfl (B d28_86) rfl rfl ?_
  refine XS.dup XG_39.here hx rfl (B d28_87) rfl rfl ?_
  refine st_43 _ ?_
  refine XS.iconst X_43.here hx rfl (B d28_91) ?_
  refine XS.iadd X_43.here hx rfl (B d28_92) rfl ?_
  refine st_45 _ ?_
  exact kt
 obtain ⟨fs, hr, hrun, hended, hW, hsame⟩ := XG_45.leave (v := none) (fun _ => rfl)
 refine ⟨_, _, XG_45.returnOut hx Bd.returns (B d28_96) hr, hrun, hended, _, _, rfl, ?_, ⟨_, rfl⟩, hW, hsame.mono (by decide) (by decide)⟩
 show Q_uln2 Z ch nd fn ln bl fg kkf kkl spc ldr hv tv spv fev u0 g0 ev db h0 n0 _ T_45.heap _
 rw [e_45]
 have f_48 := (f_44.wr W_45)
 have f_49 := ((((((((P1_.other W_3 (Or.inl n_ch_fn)).other W_11 (Or.inl n_ch_ln)).other W_16 (Or.inl n_ch_nd)).other W_21 (Or.inl n_ch_nd)).other W_26 (Or.inl n_ch_nd)).other W_34 (Or.inl n_ch_nd)).other W_39 (Or.inr (sn_97 hw))).other W_45 (Or.inr (sn_98 hw)))
 have f_50 := ((((((((P2_.other W_3 (Or.inl n_ch_fn)).other W_11 (Or.inl n_ch_ln)).other W_16 (Or.inl n_ch_nd)).other W_21 (Or.inl n_ch_nd)).other W_26 (Or.inl n_ch_nd)).other W_34 (Or.inl n_ch_nd)).other W_39 (Or.inr (sn_99 hw))).other W_45 (Or.inr (sn_100 hw)))
 have f_51 := ((((((((P3_.other W_3 (Or.inl n_ch_fn)).other W_11 (Or.inl n_ch_ln)).other W_16 (Or.inl n_ch_nd)).other W_21 (Or.inl n_ch_nd)).other W_26 (Or.inl n_ch_nd)).other W_34 (Or.inl n_ch_nd)).other W_39 (Or.inr (sn_101 hw))).other W_45 (Or.inr (sn_102 hw)))
 have f_52 := (((((((f_6.other W_11 (Or.inl n_ch_ln)).other W_16 (Or.inl n_ch_nd)).other W_21 (Or.inl n_ch_nd)).other W_26 (Or.inl n_ch_nd)).other W_34 (Or.inl n_ch_nd)).other W_39 (Or.inr (sn_103 hw))).other W_45 (Or.inr (sn_104 hw)))
 have f_53 := ((((((((P5_.other W_3 (Or.inl n_ch_fn)).other W_11 (Or.inl n_ch_ln)).other W_16 (Or.inl n_ch_nd)).other W_21 (Or.inl n_ch_nd)).other W_26 (Or.inl n_ch_nd)).other W_34 (Or.inl n_ch_nd)).other W_39 (Or.inr (sn_105 hw))).other W_45 (Or.inr (sn_106 hw)))
 have f_54 := (F_39.other W_45 (Or.inr (sn_107 hw)))
 have f_55 := ((((((((P8_.other W_3 (Or.inl n_ch_fn)).other W_11 (Or.inl n_ch_ln)).other W_16 (Or.inl n_ch_nd)).other W_21 (Or.inl n_ch_nd)).other W_26 (Or.inl n_ch_nd)).other W_34 (Or.inl n_ch_nd)).other W_39 (Or.inr (sn_108 hw))).other W_45 (Or.inr (sn_109 hw)))
 have f_56 := ((((((((P9_.other W_3 (Or.inl n_ch_fn)).other W_11 (Or.inl n_ch_ln)).other W_16 (Or.inl n_ch_nd)).other W_21 (Or.inl n_ch_nd)).other W_26 (Or.inl n_ch_nd)).other W_34 (Or.inl n_ch_nd)).other W_39 (Or.inr (sn_110 hw))).other W_45 (Or.inr (sn_111 hw)))
 have f_57 := ((((((((P10_.other W_3 (Or.inl n_ch_fn)).other W_11 (Or.inl n_ch_ln)).other W_16 (Or.inl n_ch_nd)).other W_21 (Or.inl n_ch_nd)).other W_26 (Or.inl n_ch_nd)).other W_34 (Or.inl n_ch_nd)).other W_39 (Or.inr (sn_112 hw))).other W_45 (Or.inr (sn_113 hw)))
 have f_58 := (((((((V_3.other W_11 n_fn_ln).other W_16 n_fn_nd).other W_21 n_fn_nd).other W_26 n_fn_nd).other W_34 n_fn_nd).other W_39 (Ne.symm n_ch_fn)).other W_45 (Ne.symm n_ch_fn))
 have f_59 := ((((((V_11.other W_16 n_ln_nd).other W_21 n_ln_nd).other W_26 n_ln_nd).other W_34 n_ln_nd).other W_39 (Ne.symm n_ch_ln)).other W_45 (Ne.symm n_ch_ln))
 have f_60 := (((f_33.wr W_34).wr W_39).wr W_45)
 have f_61 := (((((F_16.other W_21 (Or.inr (sn_33 hw))).other W_26 (Or.inr (sn_34 hw))).other W_34 (Or.inr (sn_34 hw))).other W_39 (Or.inl (Ne.symm n_ch_nd))).other W_45 (Or.inl (Ne.symm n_ch_nd)))
 have f_62 := ((F_34.other W_39 (Or.inl (Ne.symm n_ch_nd))).other W_45 (Or.inl (Ne.symm n_ch_nd)))
 have f_63 := ((((F_21.other W_26 (Or.inr (sn_35 hw))).other W_34 (Or.inr (sn_35 hw))).other W_39 (Or.inl (Ne.symm n_ch_nd))).other W_45 (Or.inl (Ne.symm n_ch_nd)))
 exact ⟨rfl, N_45, K_47, f_48, f_49, f_50, f_51, f_52, f_53, f_54, F_45, f_55, f_56, f_57, f_58, f_59, f_60, f_61, f_62, f_63⟩
-- com/example/carillon/carillon/Chain.unlinkNodesBySearch:(Lcom/example/carillon/carillon/Message;)V
theorem d29_0 : decode cd29 0 = .ok (.aload_n 1, 1) := by decide +kernel
theorem d29_1 : decode cd29 1 = .ok (.invokestatic 45, 3) := by decide +kernel
theorem d29_4 : decode cd29 4 = .ok (.lstore_n 2, 1) := by decide +kernel
theorem d29_5 : decode cd29 5 = .ok (.aconst_null, 1) := by decide +kernel
theorem d29_6 : decode cd29 6 = .ok (.astore 4, 2) := by decide +kernel
theorem d29_8 : decode cd29 8 = .ok (.bipush 11, 2) := by decide +kernel
theorem d29_10 : decode cd29 10 = .ok (.istore 5, 2) := by decide +kernel
theorem d29_12 : decode cd29 12 = .ok (.iload 5, 2) := by decide +kernel
theorem d29_14 : decode cd29 14 = .ok (.ifCond .le 125, 3) := by decide +kernel
theorem d29_17 : decode cd29 17 = .ok (.aload 4, 2) := by decide +kernel
theorem d29_19 : decode cd29 19 = .ok (.ifnonnull 15, 3) := by decide +kernel
theorem d29_22 : decode cd29 22 = .ok (.aload_n 0, 1) := by decide +kernel
theorem d29_23 : decode cd29 23 = .ok (.getfield 11, 3) := by decide +kernel
theorem d29_26 : decode cd29 26 = .ok (.iload 5, 2) := by decide +kernel
theorem d29_28 : decode cd29 28 = .ok (.iconst 1, 1) := by decide +kernel
theorem d29_29 : decode cd29 29 = .ok (.isub, 1) := by decide +kernel
theorem d29_30 : decode cd29 30 = .ok (.aaload, 1) := by decide +kernel
theorem d29_31 : decode cd29 31 = .ok (.goto 8, 3) := by decide +kernel
theorem d29_39 : decode cd29 39 = .ok (.astore 6, 2) := by decide +kernel
theorem d29_41 : decode cd29 41 = .ok (.aload 6, 2) := by decide +kernel
theorem d29_43 : decode cd29 43 = .ok (.ifnull 30, 3) := by decide +kernel
theorem d29_46 : decode cd29 46 = .ok (.aload 6, 2) := by decide +kernel
theorem d29_48 : decode cd29 48 = .ok (.getfield 129, 3) := by decide +kernel
theorem d29_51 : decode cd29 51 = .ok (.invokestatic 45, 3) := by decide +kernel
theorem d29_54 : decode cd29 54 = .ok (.lload_n 2, 1) := by decide +kernel
theorem d29_55 : decode cd29 55 = .ok (.lcmp, 1) := by decide +kernel
theorem d29_56 : decode cd29 56 = .ok (.ifCond .ge 17, 3) := by decide +kernel
theorem d29_73 : decode cd29 73 = .ok (.iload 5, 2) := by decide +kernel
theorem d29_75 : decode cd29 75 = .ok (.aload_n 1, 1) := by decide +kernel
theorem d29_76 : decode cd29 76 = .ok (.getfield 117, 3) := by decide +kernel
theorem d29_79 : decode cd29 79 = .ok (.if_icmp .ge 36, 3) := by decide +kernel
theorem d29_82 : decode cd29 82 = .ok (.aload 6, 2) := by decide +kernel
theorem d29_84 : decode cd29 84 = .ok (.getfield 129, 3) := by decide +kernel
theorem d29_87 : decode cd29 87 = .ok (.aload_n 1, 1) := by decide +kernel
theorem d29_88 : decode cd29 88 = .ok (.if_acmp .eq 17, 3) := by decide +kernel
theorem d29_105 : decode cd29 105 = .ok (.aload_n 0, 1) := by decide +kernel
theorem d29_106 : decode cd29 106 = .ok (.iload 5, 2) := by decide +kernel
theorem d29_108 : decode cd29 108 = .ok (.aload 4, 2) := by decide +kernel
theorem d29_110 : decode cd29 110 = .ok (.aload 6, 2) := by decide +kernel
theorem d29_112 : decode cd29 112 = .ok (.invokevirtual 152, 3) := by decide +kernel
theorem d29_115 : decode cd29 115 = .ok (.iload 5, 2) := by decide +kernel
theorem d29_117 : decode cd29 117 = .ok (.iconst 1, 1) := by decide +kernel
theorem d29_118 : decode cd29 118 = .ok (.if_icmp .le 15, 3) := by decide +kernel
theorem d29_121 : decode cd29 121 = .ok (.aload 4, 2) := by decide +kernel
theorem d29_123 : decode cd29 123 = .ok (.ifnull 10, 3) := by decide +kernel
theorem d29_133 : decode cd29 133 = .ok (.iinc 5 (-1), 3) := by decide +kernel
theorem d29_136 : decode cd29 136 = .ok (.goto (-124), 3) := by decide +kernel
theorem d29_139 : decode cd29 139 = .ok (.return_, 1) := by decide +kernel
theorem ef_ubs (m : MethodId) (ch me : Addr) : entryFrame m #[(.ref ch), (.ref me)] 7 = mkF m 0 #[.val (.ref ch), .val (.ref me), .unset, .unset, .unset, .unset, .unset] [] := by first | (simp [entryFrame, mkF, argsToLocals, Value.category]; done) | rfl
def Q_ubs (Z : State) (ch me fn ln bl fg na nb : Addr) (kkf kkl : ClassId) (fme : Int32) (ldr wme : Int64) (hv tv fev ra : Value) (h0 : Heap) (n0 : Nat) (v : Option Value) (h : Heap) (L : List Loc) : Prop := v = none ∧ Fr n0 L ∧ Keep h0 h [ch, fn, ln, na, nb] ∧ Exa Z h ch sg3 ∧ xF8 Z h ch hv ∧ xF9 Z h ch tv ∧ xF10 Z h ch (.ref fn) ∧ xF11 Z h ch (.ref ln) ∧ xF12 Z h ch (.ref bl) ∧ xF13 Z h ch (.ref na) ∧ xF14 Z h ch (.int (((0 : Int32) + (1 : Int32)) + (1 : Int32))) ∧ xF15 Z h ch (.long ldr) ∧ xF16 Z h ch fev ∧ xF17 Z h ch (.ref fg) ∧ aN Z h fn kkf .null .null ∧ aN Z h ln kkl .null .null ∧ Exa Z h na sg5 ∧ xF18 Z h na .null ∧ xF19 Z h na (.ref nb) ∧ xF20 Z h na .null ∧ Exa Z h nb sg5 ∧ xF18 Z h nb .null ∧ xF19 Z h nb .null ∧ xF20 Z h nb .null
set_option maxRecDepth 65536 in
set_option maxHeartbeats 40000000 in
theorem rm_ubs (l : Launch) (Z : State) (a0 : Array Value) (hw : hwT Z a0) (ws : List Jvm.Cond) (ch me fn ln bl fg na nb : Addr) (kkf kkl : ClassId) (fme : Int32) (ldr wme : Int64) (hv tv fev ra : Value) (h0 : Heap) (n0 : Nat) (Z0 : n0 ≤ h0.size) (P0_ : Exa Z h0 ch sg3) (P1_ : xF8 Z h0 ch hv) (P2_ : xF9 Z h0 ch tv) (P3_ : xF10 Z h0 ch (.ref fn)) (P4_ : xF11 Z h0 ch (.ref ln)) (P5_ : xF12 Z h0 ch (.ref bl)) (P6_ : xF13 Z h0 ch .null) (P7_ : xF14 Z h0 ch (.int (0 : Int32))) (P8_ : xF15 Z h0 ch (.long ldr)) (P9_ : xF16 Z h0 ch fev) (P10_ : xF17 Z h0 ch (.ref fg)) (P11_ : aN Z h0 fn kkf (.ref na) (.ref nb)) (P12_ : aN Z h0 ln kkl (.ref na) (.ref nb)) (P13_ : Exa Z h0 na sg5) (P14_ : xF18 Z h0 na (.ref me)) (P15_ : xF19 Z h0 na .null) (P16_ : xF20 Z h0 na .null) (P17_ : Exa Z h0 nb sg5) (P18_ : xF18 Z h0 nb (.ref me)) (P19_ : xF19 Z h0 nb .null) (P20_ : xF20 Z h0 nb (.ref na)) (P21_ : Exa Z h0 me sg0) (P22_ : xF0 Z h0 me ra) (P23_ : xF1 Z h0 me (.long wme)) (P24_ : xF2 Z h0 me (.int fme)) (P25_ : xF3 Z h0 me (.int (3 : Int32))) (Okkf : Ovr Z kkf sg5) (Okkl : Ovr Z kkl sg5) (g_ch : n0 ≤ ch) (g_fn : n0 ≤ fn) (g_ln : n0 ≤ ln) (g_na : n0 ≤ na) (g_nb : n0 ≤ nb) (n_ch_fn : ch ≠ fn) (n_ch_ln : ch ≠ ln) (n_ch_na : ch ≠ na) (n_ch_nb : ch ≠ nb) (n_ch_me : ch ≠ me) (n_fn_ln : fn ≠ ln) (n_fn_na : fn ≠ na) (n_fn_nb : fn ≠ nb) (n_fn_me : fn ≠ me) (n_ln_na : ln ≠ na) (n_ln_nb : ln ≠ nb) (n_ln_me : ln ≠ me) (n_na_nb : na ≠ nb) (n_na_me : na ≠ me) (n_nb_me : nb ≠ me) :
  oMF l Z mn29 (Jvm.Cond.code mn29 prog_2_method_18_code 7 none) ws (rO 1 0 0 15) #[(.ref ch), (.ref me)] h0 (Q_ubs Z ch me fn ln bl fg na nb kkf kkl fme ldr wme hv tv fev ra h0 n0) := by
 refine MetFree.of_bodySF (plainFor_of_name pn_ordc) hisR ?_
 intro p e s m args below meth c s₁ Bd hml0 hP hK
 obtain ⟨rfl, hZ, hh⟩ := hP
 have hx := Bd.exec
 have hby := Bd.bytes
 have B : ∀ {pc r}, decode cd29 pc = r → decode c.code pc = r := fun h => hb hby h
 have hml : c.maxLocals = 7 := hml0
 have hown : s.vm.findClass sg3 = some m.cls := findClass_of_methodNamed Bd.named
 have hnm := (name_of_methodNamed Bd.named Bd.method).1
 have X0 : Stand p l e (rO 1 0 0 15) s m #[(.ref ch), (.ref me)] below meth c s₁ [] 0 0 := Stand.of_body Bd
 have e0 : s₁.heap = h0 := by rw [← hh, Bd.state]; rfl
 have N0 := Fr.nil n0
 refine own_in ?_
 refine own_go (S' := s₁.setTop (mkF m 0 #[zr ch, zr me, zu, zu, zu, zu, zu] [])) (fun tgt_ stp_ => castTop (ef_ubs m ch me) stp_) ?_
 have K0 : Keep h0 h0 [ch, fn, ln, na, nb] := Keep.refl h0 _
 obtain ⟨_, _, ⟨T_1, L_1, k_1, n_1⟩, -, X_1, ⟨Lc_1, hQ_1, l_1, y_1, z_1⟩, st_1⟩ := Jvm.LawKit.callS X0 hx (y := mn2) hown (oT hZ hw 156 rfl) (oT hZ hw 157 rfl) (oT hZ hw 19 rfl) (oT hZ hw 158 rfl) (by decide) (backOf (W := 0) (rm_ordc l Z a0 hw [] me fme wme h0 n0 Z0 P24_ P23_) hZ (oW hw 158 rfl) (oW hw 19 rfl) (by decide) (by decide)) (g := (mkF m 1 #[zr ch, zr me, zu, zu, zu, zu, zu] [(.ref me)])) rfl (by rw [hml]; rfl) (argsL := [(.ref me)]) (rest := []) (lenOf pd0 rfl) rfl (oQ rfl) (B d29_1) (fun _ _ => ⟨rfl, e0, (by decide : 0 + 0 ≤ _), (by decide : 0 + 0 ≤ _)⟩)
 dsimp only [Pt.U, Pt.locs, Pt.cells, Pt.slots] at X_1 l_1 y_1 z_1 st_1 hQ_1
 subst y_1 z_1
 obtain ⟨rfl, N_1q, p_1_0⟩ := hQ_1
 have N_1 : Fr n0 L_1 := by rw [l_1]; exact Fr.app N0 N_1q
 clear l_1
 obtain ⟨T_2, X_2, e_2, st_2⟩ := getF X_1 hx hZ hown (oV hw 26 rfl) Via.refl p_1_0 P3_ (g := (mkF m 23 #[zr ch, zr me, .val (.long (own_ord fme wme)), zs, zn, zi 11, zu] [(.ref ch)])) rfl rfl (B d29_23)
 obtain ⟨c_3, Ar_3, q_3, S_3, M_3, Hs_3, G_3⟩ := id P11_
 have hin_3 : ¬ ((10 : Int32) < 0 ∨ c_3.slots.size ≤ ((10 : Int32)).toNatClampNeg) := inb_of S_3 ⟨by decide, by decide⟩
 have hat_3 : c_3.slots[((10 : Int32)).toNatClampNeg]? = some .null := Hs_3.at hin_3 rfl
 obtain ⟨T_4, X_4, e_4, st_4⟩ := getF X_2 hx hZ hown (oV hw 115 rfl) Via.refl e_2 P25_ (g := (mkF m 76 #[zr ch, zr me, .val (.long (own_ord fme wme)), zs, zn, zi 11, zn] [(.ref me), (.int (11 : Int32))])) rfl rfl (B d29_76)
 obtain ⟨T_5, X_5, e_5, st_5⟩ := getF X_4 hx hZ hown (oV hw 26 rfl) Via.refl e_4 P3_ (g := (mkF m 23 #[zr ch, zr me, .val (.long (own_ord fme wme)), zs, zn, zi 10, zn] [(.ref ch)])) rfl rfl (B d29_23)
 obtain ⟨c_6, Ar_6, q_6, S_6, M_6, Hs_6, G_6⟩ := id P11_
 have hin_6 : ¬ ((9 : Int32) < 0 ∨ c_6.slots.size ≤ ((9 : Int32)).toNatClampNeg) := inb_of S_6 ⟨by decide, by decide⟩
 have hat_6 : c_6.slots[((9 : Int32)).toNatClampNeg]? = some .null := Hs_6.at hin_6 rfl
 obtain ⟨T_7, X_7, e_7, st_7⟩ := getF X_5 hx hZ hown (oV hw 115 rfl) Via.refl e_5 P25_ (g := (mkF m 76 #[zr ch, zr me, .val (.long (own_ord fme wme)), zs, zn, zi 10, zn] [(.ref me), (.int (10 : Int32))])) rfl rfl (B d29_76)
 obtain ⟨T_8, X_8, e_8, st_8⟩ := getF X_7 hx hZ hown (oV hw 26 rfl) Via.refl e_7 P3_ (g := (mkF m 23 #[zr ch, zr me, .val (.long (own_ord fme wme)), zs, zn, zi 9, zn] [(.ref ch)])) rfl rfl (B d29_23)
 obtain ⟨c_9, Ar_9, q_9, S_9, M_9, Hs_9, G_9⟩ := id P11_
 have hin_9 : ¬ ((8 : Int32) < 0 ∨ c_9.slots.size ≤ ((8 : Int32)).toNatClampNeg) := inb_of S_9 ⟨by decide, by decide⟩
 have hat_9 : c_9.slots[((8 : Int32)).toNatClampNeg]? = some .null := Hs_9.at hin_9 rfl
 obtain ⟨T_10, X_10, e_10, st_10⟩ := getF X_8 hx hZ hown (oV hw 115 rfl) Via.refl e_8 P25_ (g := (mkF m 76 #[zr ch, zr me, .val (.long (own_ord fme wme)), zs, zn, zi 9, zn] [(.ref me), (.int (9 : Int32))])) rfl rfl (B d29_76)
 obtain ⟨T_11, X_11, e_11, st_11⟩ := getF X_10 hx hZ hown (oV hw 26 rfl) Via.refl e_10 P3_ (g := (mkF m 23 #[zr ch, zr me, .val (.long (own_ord fme wme)), zs, zn, zi 8, zn] [(.ref ch)])) rfl rfl (B d29_23)
 obtain ⟨c_12, Ar_12, q_12, S_12, M_12, Hs_12, G_12⟩ := id P11_
 have hin_12 : ¬ ((7 : Int32) < 0 ∨ c_12.slots.size ≤ ((7 : Int32)).toNatClampNeg) := inb_of S_12 ⟨by decide, by decide⟩
 have hat_12 : c_12.slots[((7 : Int32)).toNatClampNeg]? = some .null := Hs_12.at hin_12 rfl
 obtain ⟨T_13, X_13, e_13, st_13⟩ := getF X_11 hx hZ hown (oV hw 115 rfl) Via.refl e_11 P25_ (g := (mkF m 76 #[zr ch, zr me, .val (.long (own_ord fme wme)), zs, zn, zi 8, zn] [(.ref me), (.int (8 : Int32))])) rfl rfl (B d29_76)
 obtain ⟨T_14, X_14, e_14, st_14⟩ := getF X_13 hx hZ hown (oV hw 26 rfl) Via.refl e_13 P3_ (g := (mkF m 23 #[zr ch, zr me, .val (.long (own_ord fme wme)), zs, zn, zi 7, zn] [(.ref ch)])) rfl rfl (B d29_23)
 obtain ⟨c_15, Ar_15, q_15, S_15, M_15, Hs_15, G_15⟩ := id P11_
 have hin_15 : ¬ ((6 : Int32) < 0 ∨ c_15.slots.size ≤ ((6 : Int32)).toNatClampNeg) := inb_of S_15 ⟨by decide, by decide⟩
 have hat_15 : c_15.slots[((6 : Int32)).toNatClampNeg]? = some .null := Hs_15.at hin_15 rfl
 obtain ⟨T_16, X_16, e_16, st_16⟩ := getF X_14 hx hZ hown (oV hw 115 rfl) Via.refl e_14 P25_ (g := (mkF m 76 #[zr ch, zr me, .val (.long (own_ord fme wme)), zs, zn, zi 7, zn] [(.ref me), (.int (7 : Int32))])) rfl rfl (B d29_76)
 obtain ⟨T_17, X_17, e_17, st_17⟩ := getF X_16 hx hZ hown (oV hw 26 rfl) Via.refl e_16 P3_ (g := (mkF m 23 #[zr ch, zr me, .val (.long (own_ord fme wme)), zs, zn, zi 6, zn] [(.ref ch)])) rfl rfl (B d29_23)
 obtain ⟨c_18, Ar_18, q_18, S_18, M_18, Hs_18, G_18⟩ := id P11_
 have hin_18 : ¬ ((5 : Int32) < 0 ∨ c_18.slots.size ≤ ((5 : Int32)).toNatClampNeg) := inb_of S_18 ⟨by decide, by decide⟩
 have hat_18 : c_18.slots[((5 : Int32)).toNatClampNeg]? = some .null := Hs_18.at hin_18 rfl
 obtain ⟨T_19, X_19, e_19, st_19⟩ := getF X_17 hx hZ hown (oV hw 115 rfl) Via.refl e_17 P25_ (g := (mkF m 76 #[zr ch, zr me, .val (.long (own_ord fme wme)), zs, zn, zi 6, zn] [(.ref me), (.int (6 : Int32))])) rfl rfl (B d29_76)
 obtain ⟨T_20, X_20, e_20, st_20⟩ := getF X_19 hx hZ hown (oV hw 26 rfl) Via.refl e_19 P3_ (g := (mkF m 23 #[zr ch, zr me, .val (.long (own_ord fme wme)), zs, zn, zi 5, zn] [(.ref ch)])) rfl rfl (B d29_23)
 obtain ⟨c_21, Ar_21, q_21, S_21, M_21, Hs_21, G_21⟩ := id P11_
 have hin_21 : ¬ ((4 : Int32) < 0 ∨ c_21.slots.size ≤ ((4 : Int32)).toNatClampNeg) := inb_of S_21 ⟨by decide, by decide⟩
 have hat_21 : c_21.slots[((4 : Int32)).toNatClampNeg]? = some .null := Hs_21.at hin_21 rfl
 obtain ⟨T_22, X_22, e_22, st_22⟩ := getF X_20 hx hZ hown (oV hw 115 rfl) Via.refl e_20 P25_ (g := (mkF m 76 #[zr ch, zr me, .val (.long (own_ord fme wme)), zs, zn, zi 5, zn] [(.ref me), (.int (5 : Int32))])) rfl rfl (B d29_76)
 obtain ⟨T_23, X_23, e_23, st_23⟩ := getF X_22 hx hZ hown (oV hw 26 rfl) Via.refl e_22 P3_ (g := (mkF m 23 #[zr ch, zr me, .val (.long (own_ord fme wme)), zs, zn, zi 4, zn] [(.ref ch)])) rfl rfl (B d29_23)
 obtain ⟨c_24, Ar_24, q_24, S_24, M_24, Hs_24, G_24⟩ := id P11_
 have hin_24 : ¬ ((3 : Int32) < 0 ∨ c_24.slots.size ≤ ((3 : Int32)).toNatClampNeg) := inb_of S_24 ⟨by decide, by decide⟩
 have hat_24 : c_24.slots[((3 : Int32)).toNatClampNeg]? = some .null := Hs_24.at hin_24 rfl
 obtain ⟨T_25, X_25, e_25, st_25⟩ := getF X_23 hx hZ hown (oV hw 115 rfl) Via.refl e_23 P25_ (g := (mkF m 76 #[zr ch, zr me, .val (.long (own_ord fme wme)), zs, zn, zi 4, zn] [(.ref me), (.int (4 : Int32))])) rfl rfl (B d29_76)
 obtain ⟨T_26, X_26, e_26, st_26⟩ := getF X_25 hx hZ hown (oV hw 26 rfl) Via.refl e_25 P3_ (g := (mkF m 23 #[zr ch, zr me, .val (.long (own_ord fme wme)), zs, zn, zi 3, zn] [(.ref ch)])) rfl rfl (B d29_23)
 obtain ⟨c_27, Ar_27, q_27, S_27, M_27, Hs_27, G_27⟩ := id P11_
 have hin_27 : ¬ ((2 : Int32) < 0 ∨ c_27.slots.size ≤ ((2 : Int32)).toNatClampNeg) := inb_of S_27 ⟨by decide, by decide⟩
 have hat_27 : c_27.slots[((2 : Int32)).toNatClampNeg]? = some .null := Hs_27.at hin_27 rfl
 obtain ⟨T_28, X_28, e_28, st_28⟩ := getF X_26 hx hZ hown (oV hw 115 rfl) Via.refl e_26 P25_ (g := (mkF m 76 #[zr ch, zr me, .val (.long (own_ord fme wme)), zs, zn, zi 3, zn] [(.ref me), (.int (3 : Int32))])) rfl rfl (B d29_76)
 obtain ⟨T_29, X_29, e_29, st_29⟩ := getF X_28 hx hZ hown (oV hw 26 rfl) Via.refl e_28 P3_ (g := (mkF m 23 #[zr ch, zr me, .val (.long (own_ord fme wme)), zs, zn, zi 2, zn] [(.ref ch)])) rfl rfl (B d29_23)
 obtain ⟨c_30, Ar_30, q_30, S_30, M_30, Hs_30, G_30⟩ := id P11_
 have hin_30 : ¬ ((1 : Int32) < 0 ∨ c_30.slots.size ≤ ((1 : Int32)).toNatClampNeg) := inb_of S_30 ⟨by decide, by decide⟩
 have hat_30 : c_30.slots[((1 : Int32)).toNatClampNeg]? = some (.ref nb) := Hs_30.at hin_30 rfl
 obtain ⟨T_31, X_31, e_31, st_31⟩ := getF X_29 hx hZ hown (oV hw 137 rfl) Via.refl e_29 P18_ (g := (mkF m 48 #[zr ch, zr me, .val (.long (own_ord fme wme)), zs, zn, zi 2, zr nb] [(.ref nb)])) rfl rfl (B d29_48)
 obtain ⟨_, _, ⟨T_32, L_32, k_32, n_32⟩, -, X_32, ⟨Lc_32, hQ_32, l_32, y_32, z_32⟩, st_32⟩ := Jvm.LawKit.callS X_31 hx (y := mn2) hown (oT hZ hw 156 rfl) (oT hZ hw 157 rfl) (oT hZ hw 19 rfl) (oT hZ hw 158 rfl) (by decide) (backOf (W := 0) (rm_ordc l Z a0 hw [] me fme wme h0 n0 Z0 P24_ P23_) hZ (oW hw 158 rfl) (oW hw 19 rfl) (by decide) (by decide)) (g := (mkF m 51 #[zr ch, zr me, .val (.long (own_ord fme wme)), zs, zn, zi 2, zr nb] [(.ref me)])) rfl (by rw [hml]; rfl) (argsL := [(.ref me)]) (rest := []) (lenOf pd0 rfl) rfl (oQ rfl) (B d29_51) (fun _ _ => ⟨rfl, e_31, (by decide : 0 + 0 ≤ _), (by decide : 0 + 0 ≤ _)⟩)
 dsimp only [Pt.U, Pt.locs, Pt.cells, Pt.slots] at X_32 l_32 y_32 z_32 st_32 hQ_32
 subst y_32 z_32
 obtain ⟨rfl, N_32q, p_32_0⟩ := hQ_32
 have N_32 : Fr n0 L_32 := by rw [l_32]; exact Fr.app N_1 N_32q
 clear l_32
 obtain ⟨T_33, X_33, e_33, st_33⟩ := getF X_32 hx hZ hown (oV hw 115 rfl) Via.refl p_32_0 P25_ (g := (mkF m 76 #[zr ch, zr me, .val (.long (own_ord fme wme)), zs, zn, zi 2, zr nb] [(.ref me), (.int (2 : Int32))])) rfl rfl (B d29_76)
 obtain ⟨T_34, X_34, e_34, st_34⟩ := getF X_33 hx hZ hown (oV hw 137 rfl) Via.refl e_33 P18_ (g := (mkF m 84 #[zr ch, zr me, .val (.long (own_ord fme wme)), zs, zn, zi 2, zr nb] [(.ref nb)])) rfl rfl (B d29_84)
 obtain ⟨cq_35, q_35, q_35'⟩ := P0_.cell
 obtain ⟨_, _, ⟨T_35, L_35, k_35, n_35⟩, -, X_35, ⟨Lc_35, hQ_35, l_35, y_35, z_35⟩, st_35⟩ := X_34.privateBack hx (y := mn28) hown (oT hZ hw 199 rfl) (oT hZ hw 200 rfl) (psl_9 hZ hw) (oP hZ hw 201 rfl) (oT hZ hw 202 rfl) (by decide) (backOf (W := 0) (rm_uln2 l Z a0 hw [] ch nb fn ln bl fg kkf kkl (0 : Int32) ldr hv tv .null fev (.ref na) (.ref na) (.ref me) (.ref na) h0 n0 Z0 P0_ P1_ P2_ P3_ P4_ P5_ P6_ P7_ P8_ P9_ P10_ P11_ P12_ P17_ P18_ P19_ P20_ Okkf Okkl g_ch g_fn g_ln g_nb n_ch_fn n_ch_ln n_ch_nb n_fn_ln n_fn_nb n_ln_nb (by decide) rfl) hZ (oW hw 202 rfl) (oW hw 19 rfl) (by decide) (by decide)) (g := (mkF m 112 #[zr ch, zr me, .val (.long (own_ord fme wme)), zs, zn, zi 2, zr nb] [(.ref nb), .null, (.int (2 : Int32)), (.ref ch)])) rfl (by rw [hml]; rfl) (Steps.refl _) (a := ch) (by rw [e_34]; exact q_35) q_35' (argsL := [(.int (2 : Int32)), .null, (.ref nb)]) (rest := []) (lenOf pd8 rfl) rfl (oQ rfl) (B d29_112) (fun _ _ => ⟨rfl, e_34, (by decide : 0 + 0 ≤ _), (by decide : 0 + 0 ≤ _)⟩)
 dsimp only [Pt.U, Pt.locs, Pt.cells, Pt.slots] at X_35 l_35 y_35 z_35 st_35 hQ_35
 subst y_35 z_35
 obtain ⟨rfl, N_35q, p_35_0, p_35_1, p_35_2, p_35_3, p_35_4, p_35_5, p_35_6, p_35_7, p_35_8, p_35_9, p_35_10, p_35_11, p_35_12, p_35_13, p_35_14, p_35_15, p_35_16, p_35_17⟩ := hQ_35
 have N_35 : Fr n0 L_35 := by rw [l_35]; exact Fr.app N_32 N_35q
 clear l_35
 have Z_36 := Nat.le_trans Z0 p_35_0.1
 have K_37 : Keep h0 T_35.heap [ch, fn, ln, na, nb] := K0.trans p_35_0 fun x q => Or.inl (oM q 0 rfl fun q => oM q 1 rfl fun q => oM q 2 rfl fun q => oM1 q 4 rfl)
 obtain ⟨T_38, X_38, e_38, st_38⟩ := getF X_35 hx hZ hown (oV hw 26 rfl) Via.refl rfl p_35_4 (g := (mkF m 23 #[zr ch, zr me, .val (.long (own_ord fme wme)), zs, zn, zi 1, zr nb] [(.ref ch)])) rfl rfl (B d29_23)
 obtain ⟨c_39, Ar_39, q_39, S_39, M_39, Hs_39, G_39⟩ := id p_35_12
 have hin_39 : ¬ ((0 : Int32) < 0 ∨ c_39.slots.size ≤ ((0 : Int32)).toNatClampNeg) := inb_of S_39 ⟨by decide, by decide⟩
 have hat_39 : c_39.slots[((0 : Int32)).toNatClampNeg]? = some (.ref na) := Hs_39.at hin_39 rfl
 have f_40 := (P14_.keep p_35_0 (oN1 (Ne.symm n_ch_na) (oN1 (Ne.symm n_fn_na) (oN1 (Ne.symm n_ln_na) (oN1 n_na_nb oN)))))
 obtain ⟨T_41, X_41, e_41, st_41⟩ := getF X_38 hx hZ hown (oV hw 137 rfl) Via.refl e_38 f_40 (g := (mkF m 48 #[zr ch, zr me, .val (.long (own_ord fme wme)), zs, zn, zi 1, zr na] [(.ref na)])) rfl rfl (B d29_48)
 have f_43 := (P24_.keep p_35_0 (oN1 (Ne.symm n_ch_me) (oN1 (Ne.symm n_fn_me) (oN1 (Ne.symm n_ln_me) (oN1 (Ne.symm n_nb_me) oN)))))
 have f_44 := (P23_.keep p_35_0 (oN1 (Ne.symm n_ch_me) (oN1 (Ne.symm n_fn_me) (oN1 (Ne.symm n_ln_me) (oN1 (Ne.symm n_nb_me) oN)))))
 obtain ⟨_, _, ⟨T_42, L_42, k_42, n_42⟩, -, X_42, ⟨Lc_42, hQ_42, l_42, y_42, z_42⟩, st_42⟩ := Jvm.LawKit.callS X_41 hx (y := mn2) hown (oT hZ hw 156 rfl) (oT hZ hw 157 rfl) (oT hZ hw 19 rfl) (oT hZ hw 158 rfl) (by decide) (backOf (W := 0) (rm_ordc l Z a0 hw [] me fme wme T_35.heap n0 Z_36 f_43 f_44) hZ (oW hw 158 rfl) (oW hw 19 rfl) (by decide) (by decide)) (g := (mkF m 51 #[zr ch, zr me, .val (.long (own_ord fme wme)), zs, zn, zi 1, zr na] [(.ref me)])) rfl (by rw [hml]; rfl) (argsL := [(.ref me)]) (rest := []) (lenOf pd0 rfl) rfl (oQ rfl) (B d29_51) (fun _ _ => ⟨rfl, e_41, (by decide : 0 + 0 ≤ _), (by decide : 0 + 0 ≤ _)⟩)
 dsimp only [Pt.U, Pt.locs, Pt.cells, Pt.slots] at X_42 l_42 y_42 z_42 st_42 hQ_42
 subst y_42 z_42
 obtain ⟨rfl, N_42q, p_42_0⟩ := hQ_42
 have N_42 : Fr n0 L_42 := by rw [l_42]; exact Fr.app N_35 N_42q
 clear l_42
 have f_45 := (P25_.keep p_35_0 (oN1 (Ne.symm n_ch_me) (oN1 (Ne.symm n_fn_me) (oN1 (Ne.symm n_ln_me) (oN1 (Ne.symm n_nb_me) oN)))))
 obtain ⟨T_46, X_46, e_46, st_46⟩ := getF X_42 hx hZ hown (oV hw 115 rfl) Via.refl p_42_0 f_45 (g := (mkF m 76 #[zr ch, zr me, .val (.long (own_ord fme wme)), zs, zn, zi 1, zr na] [(.ref me), (.int (1 : Int32))])) rfl rfl (B d29_76)
 obtain ⟨T_47, X_47, e_47, st_47⟩ := getF X_46 hx hZ hown (oV hw 137 rfl) Via.refl e_46 f_40 (g := (mkF m 84 #[zr ch, zr me, .val (.long (own_ord fme wme)), zs, zn, zi 1, zr na] [(.ref na)])) rfl rfl (B d29_84)
 have f_49 := (P13_.keep p_35_0)
 have f_50 := (P15_.keep p_35_0 (oN1 (Ne.symm n_ch_na) (oN1 (Ne.symm n_fn_na) (oN1 (Ne.symm n_ln_na) (oN1 n_na_nb oN)))))
 have f_51 := (P16_.keep p_35_0 (oN1 (Ne.symm n_ch_na) (oN1 (Ne.symm n_fn_na) (oN1 (Ne.symm n_ln_na) (oN1 n_na_nb oN)))))
 obtain ⟨cq_48, q_48, q_48'⟩ := p_35_1.cell
 obtain ⟨_, _, ⟨T_48, L_48, k_48, n_48⟩, -, X_48, ⟨Lc_48, hQ_48, l_48, y_48, z_48⟩, st_48⟩ := X_47.privateBack hx (y := mn28) hown (oT hZ hw 199 rfl) (oT hZ hw 200 rfl) (psl_9 hZ hw) (oP hZ hw 201 rfl) (oT hZ hw 202 rfl) (by decide) (backOf (W := 0) (rm_uln1 l Z a0 hw [] ch na fn ln bl fg kkf kkl ((0 : Int32) + (1 : Int32)) ldr hv tv (.ref nb) fev .null .null (.ref me) .null T_35.heap n0 Z_36 p_35_1 p_35_2 p_35_3 p_35_4 p_35_5 p_35_6 p_35_7 p_35_8 p_35_9 p_35_10 p_35_11 p_35_12 p_35_13 f_49 f_40 f_50 f_51 Okkf Okkl g_ch g_fn g_ln g_na n_ch_fn n_ch_ln n_ch_na n_fn_ln n_fn_na n_ln_na (by decide) rfl) hZ (oW hw 202 rfl) (oW hw 19 rfl) (by decide) (by decide)) (g := (mkF m 112 #[zr ch, zr me, .val (.long (own_ord fme wme)), zs, zn, zi 1, zr na] [(.ref na), .null, (.int (1 : Int32)), (.ref ch)])) rfl (by rw [hml]; rfl) (Steps.refl _) (a := ch) (by rw [e_47]; exact q_48) q_48' (argsL := [(.int (1 : Int32)), .null, (.ref na)]) (rest := []) (lenOf pd8 rfl) rfl (oQ rfl) (B d29_112) (fun _ _ => ⟨rfl, e_47, (by decide : 0 + 0 ≤ _), (by decide : 0 + 0 ≤ _)⟩)
 dsimp only [Pt.U, Pt.locs, Pt.cells, Pt.slots] at X_48 l_48 y_48 z_48 st_48 hQ_48
 subst y_48 z_48
 obtain ⟨rfl, N_48q, p_48_0, p_48_1, p_48_2, p_48_3, p_48_4, p_48_5, p_48_6, p_48_7, p_48_8, p_48_9, p_48_10, p_48_11, p_48_12, p_48_13, p_48_14, p_48_15, p_48_16, p_48_17⟩ := hQ_48
 have N_48 : Fr n0 L_48 := by rw [l_48]; exact Fr.app N_42 N_48q
 clear l_48
 have Z_52 := Nat.le_trans Z_36 p_48_0.1
 have K_53 : Keep h0 T_48.heap [ch, fn, ln, na, nb] := K_37.trans p_48_0 fun x q => Or.inl (oM q 0 rfl fun q => oM q 1 rfl fun q => oM q 2 rfl fun q => oM1 q 3 rfl)
 refine own_go (S' := T_48.setTop (mkF m 139 #[zr ch, zr me, .val (.long (own_ord fme wme)), zs, zn, zi 0, zr na] [])) (fun target kt => ?_) ?_
 ·
  show oSt p e below s₁ m 0 #[zr ch, zr me, zu, zu, zu, zu, zu] [] target
  refine XS.aloadN X0.here hx rfl (B d29_0) rfl rfl ?_
  refine st_1 _ ?_
  refine XS.lstoreN X_1.here hx rfl (B d29_4) rfl (l' := #[zr ch, zr me, .val (.long (own_ord fme wme)), zs, zu, zu, zu]) rfl ?_
  refine XS.aconstNull X_1.here hx rfl (B d29_5) ?_
  refine XS.astore X_1.here hx rfl (B d29_6) rfl rfl (l' := #[zr ch, zr me, .val (.long (own_ord fme wme)), zs, zn, zu, zu]) rfl ?_
  refine XS.bipush X_1.here hx rfl (B d29_8) ?_
  refine XS.istore X_1.here hx rfl (B d29_10) rfl (l' := #[zr ch, zr me, .val (.long (own_ord fme wme)), zs, zn, zi 11, zu]) rfl ?_
  refine XS.iload X_1.here hx rfl (B d29_12) rfl ?_
  refine XS.ifNo X_1.here hx rfl (B d29_14) rfl ((if0 _ _).trans (tlt (by decide : (0 : Int32) < (11 : Int32))).2.2.2) ?_
  refine XS.aload X_1.here hx rfl (B d29_17) rfl rfl ?_
  refine XS.ifnonnullNo X_1.here hx rfl (B d29_19) rfl ?_
  refine XS.aloadN X_1.here hx rfl (B d29_22) rfl rfl ?_
  refine st_2 _ ?_
  refine XS.iload X_2.here hx rfl (B d29_26) rfl ?_
  refine XS.iconst X_2.here hx rfl (B d29_28) ?_
  refine XS.isub X_2.here hx rfl (B d29_29) rfl ?_
  show oSt p e below T_2 m 30 #[zr ch, zr me, .val (.long (own_ord fme wme)), zs, zn, zi 11, zu] [(.int ((11 : Int32) - (1 : Int32))), (.ref fn)] target
  rw [show (11 : Int32) - (1 : Int32) = (10 : Int32) from by decide]
  show oSt p e below T_2 m 30 #[zr ch, zr me, .val (.long (own_ord fme wme)), zs, zn, zi 11, zu] [(.int (10 : Int32)), (.ref fn)] target
  refine X_2.aaload hx (j := (10 : Int32)) (v := .null) (by rw [e_2]; exact Ar_3.1) (State.isArrayOf_alike hZ.alike Ar_3.2.1) rfl Ar_3.2.2 hin_3 hat_3 (g := (mkF m 30 #[zr ch, zr me, .val (.long (own_ord fme wme)), zs, zn, zi 11, zu] [(.int (10 : Int32)), (.ref fn)])) rfl rfl (B d29_30) _ ?_
  refine XS.goto X_2.here hx rfl (pc0 := 31) (pc' := 39) rfl (B d29_31) (by decide) (by decide) ?_
  refine XS.astore X_2.here hx rfl (B d29_39) rfl rfl (l' := #[zr ch, zr me, .val (.long (own_ord fme wme)), zs, zn, zi 11, zn]) rfl ?_
  refine XS.aload X_2.here hx rfl (B d29_41) rfl rfl ?_
  refine XS.ifnullYes X_2.here hx rfl (pc0 := 43) (pc' := 73) rfl (B d29_43) rfl (by decide) (by decide) ?_
  refine XS.iload X_2.here hx rfl (B d29_73) rfl ?_
  refine XS.aloadN X_2.here hx rfl (B d29_75) rfl rfl ?_
  refine st_4 _ ?_
  refine XS.icmpYes X_4.here hx rfl (pc0 := 79) (pc' := 115) rfl (B d29_79) rfl (flt (by decide : ¬ ((11 : Int32) < (3 : Int32)))).2.1 (by decide) (by decide) ?_
  refine XS.iload X_4.here hx rfl (B d29_115) rfl ?_
  refine XS.iconst X_4.here hx rfl (B d29_117) ?_
  refine XS.icmpNo X_4.here hx rfl (B d29_118) rfl (tlt (by decide : (1 : Int32) < (11 : Int32))).2.2.2 ?_
  refine XS.aload X_4.here hx rfl (B d29_121) rfl rfl ?_
  refine XS.ifnullYes X_4.here hx rfl (pc0 := 123) (pc' := 133) rfl (B d29_123) rfl (by decide) (by decide) ?_
  refine XS.iinc X_4.here hx rfl (B d29_133) rfl (l' := #[zr ch, zr me, .val (.long (own_ord fme wme)), zs, zn, .val (.int ((11 : Int32) + (-1 : Int32))), zn]) rfl ?_
  show oSt p e below T_4 m 136 #[zr ch, zr me, .val (.long (own_ord fme wme)), zs, zn, .val (.int ((11 : Int32) + (-1 : Int32))), zn] [] target
  rw [show (11 : Int32) + (-1 : Int32) = (10 : Int32) from by decide]
  show oSt p e below T_4 m 136 #[zr ch, zr me, .val (.long (own_ord fme wme)), zs, zn, zi 10, zn] [] target
  refine XS.goto X_4.here hx rfl (pc0 := 136) (pc' := 12) rfl (B d29_136) (by decide) (by decide) ?_
  refine XS.iload X_4.here hx rfl (B d29_12) rfl ?_
  refine XS.ifNo X_4.here hx rfl (B d29_14) rfl ((if0 _ _).trans (tlt (by decide : (0 : Int32) < (10 : Int32))).2.2.2) ?_
  refine XS.aload X_4.here hx rfl (B d29_17) rfl rfl ?_
  refine XS.ifnonnullNo X_4.here hx rfl (B d29_19) rfl ?_
  refine XS.aloadN X_4.here hx rfl (B d29_22) rfl rfl ?_
  refine st_5 _ ?_
  refine XS.iload X_5.here hx rfl (B d29_26) rfl ?_
  refine XS.iconst X_5.here hx rfl (B d29_28) ?_
  refine XS.isub X_5.here hx rfl (B d29_29) rfl ?_
  show oSt p e below T_5 m 30 #[zr ch, zr me, .val (.long (own_ord fme wme)), zs, zn, zi 10, zn] [(.int ((10 : Int32) - (1 : Int32))), (.ref fn)] target
  rw [show (10 : Int32) - (1 : Int32) = (9 : Int32) from by decide]
  show oSt p e below T_5 m 30 #[zr ch, zr me, .val (.long (own_ord fme wme)), zs, zn, zi 10, zn] [(.int (9 : Int32)), (.ref fn)] target
  refine X_5.aaload hx (j := (9 : Int32)) (v := .null) (by rw [e_5]; exact Ar_6.1) (State.isArrayOf_alike hZ.alike Ar_6.2.1) rfl Ar_6.2.2 hin_6 hat_6 (g := (mkF m 30 #[zr ch, zr me, .val (.long (own_ord fme wme)), zs, zn, zi 10, zn] [(.int (9 : Int32)), (.ref fn)])) rfl rfl (B d29_30) _ ?_
  refine XS.goto X_5.here hx rfl (pc0 := 31) (pc' := 39) rfl (B d29_31) (by decide) (by decide) ?_
  refine XS.astore X_5.here hx rfl (B d29_39) rfl rfl (l' := #[zr ch, zr me, .val (.long (own_ord fme wme)), zs, zn, zi 10, zn]) rfl ?_
  refine XS.aload X_5.here hx rfl (B d29_41) rfl rfl ?_
  refine XS.ifnullYes X_5.here hx rfl (pc0 := 43) (pc' := 73) rfl (B d29_43) rfl (by decide) (by decide) ?_
  refine XS.iload X_5.here hx rfl (B d29_73) rfl ?_
  refine XS.aloadN X_5.here hx rfl (B d29_75) rfl rfl ?_
  refine st_7 _ ?_
  refine XS.icmpYes X_7.here hx rfl (pc0 := 79) (pc' := 115) rfl (B d29_79) rfl (flt (by decide : ¬ ((10 : Int32) < (3 : Int32)))).2.1 (by decide) (by decide) ?_
  refine XS.iload X_7.here hx rfl (B d29_115) rfl ?_
  refine XS.iconst X_7.here hx rfl (B d29_117) ?_
  refine XS.icmpNo X_7.here hx rfl (B d29_118) rfl (tlt (by decide : (1 : Int32) < (10 : Int32))).2.2.2 ?_
  refine XS.aload X_7.here hx rfl (B d29_121) rfl rfl ?_
  refine XS.ifnullYes X_7.here hx rfl (pc0 := 123) (pc' := 133) rfl (B d29_123) rfl (by decide) (by decide) ?_
  refine XS.iinc X_7.here hx rfl (B d29_133) rfl (l' := #[zr ch, zr me, .val (.long (own_ord fme wme)), zs, zn, .val (.int ((10 : Int32) + (-1 : Int32))), zn]) rfl ?_
  show oSt p e below T_7 m 136 #[zr ch, zr me, .val (.long (own_ord fme wme)), zs, zn, .val (.int ((10 : Int32) + (-1 : Int32))), zn] [] target
  rw [show (10 : Int32) + (-1 : Int32) = (9 : Int32) from by decide]
  show oSt p e below T_7 m 136 #[zr ch, zr me, .val (.long (own_ord fme wme)), zs, zn, zi 9, zn] [] target
  refine XS.goto X_7.here hx rfl (pc0 := 136) (pc' := 12) rfl (B d29_136) (by decide) (by decide) ?_
  refine XS.iload X_7.here hx rfl (B d29_12) rfl ?_
  refine XS.ifNo X_7.here hx rfl (B d29_14) rfl ((if0 _ _).trans (tlt (by decide : (0 : Int32) < (9 : Int32))).2.2.2) ?_
  refine XS.aload X_7.here hx rfl (B d29_17) rfl rfl ?_
  refine XS.ifnonnullNo X_7.here hx rfl (B d29_19) rfl ?_
  refine XS.aloadN X_7.here hx rfl (B d29_22) rfl rfl ?_
  refine st_8 _ ?_
  refine XS.iload X_8.here hx rfl (B d29_26) rfl ?_
  refine XS.iconst X_8.here hx rfl (B d29_28) ?_
  refine XS.isub X_8.here hx rfl (B d29_29) rfl ?_
  show oSt p e below T_8 m 30 #[zr ch, zr me, .val (.long (own_ord fme wme)), zs, zn, zi 9, zn] [(.int ((9 : Int32) - (1 : Int32))), (.ref fn)] target
  rw [show (9 : Int32) - (1 : Int32) = (8 : Int32) from by decide]
  show oSt p e below T_8 m 30 #[zr ch, zr me, .val (.long (own_ord fme wme)), zs, zn, zi 9, zn] [(.int (8 : Int32)), (.ref fn)] target
  refine X_8.aaload hx (j := (8 : Int32)) (v := .null) (by rw [e_8]; exact Ar_9.1) (State.isArrayOf_alike hZ.alike Ar_9.2.1) rfl Ar_9.2.2 hin_9 hat_9 (g := (mkF m 30 #[zr ch, zr me, .val (.long (own_ord fme wme)), zs, zn, zi 9, zn] [(.int (8 : Int32)), (.ref fn)])) rfl rfl (B d29_30) _ ?_
  refine XS.goto X_8.here hx rfl (pc0 := 31) (pc' := 39) rfl (B d29_31) (by decide) (by decide) ?_
  refine XS.astore X_8.here hx rfl (B d29_39) rfl rfl (l' := #[zr ch, zr me, .val (.long (own_ord fme wme)), zs, zn, zi 9, zn]) rfl ?_
  refine XS.aload X_8.here hx rfl (B d29_41) rfl rfl ?_
  refine XS.ifnullYes X_8.here hx rfl (pc0 := 43) (pc' := 73) rfl (B d29_43) rfl (by decide) (by decide) ?_
  refine XS.iload X_8.here hx rfl (B d29_73) rfl ?_
  refine XS.aloadN X_8.here hx rfl (B d29_75) rfl rfl ?_
  refine st_10 _ ?_
  refine XS.icmpYes X_10.here hx rfl (pc0 := 79) (pc' := 115) rfl (B d29_79) rfl (flt (by decide : ¬ ((9 : Int32) < (3 : Int32)))).2.1 (by decide) (by decide) ?_
  refine XS.iload X_10.here hx rfl (B d29_115) rfl ?_
  refine XS.iconst X_10.here hx rfl (B d29_117) ?_
  refine XS.icmpNo X_10.here hx rfl (B d29_118) rfl (tlt (by decide : (1 : Int32) < (9 : Int32))).2.2.2 ?_
  refine XS.aload X_10.here hx rfl (B d29_121) rfl rfl ?_
  refine XS.ifnullYes X_10.here hx rfl (pc0 := 123) (pc' := 133) rfl (B d29_123) rfl (by decide) (by decide) ?_
  refine XS.iinc X_10.here hx rfl (B d29_133) rfl (l' := #[zr ch, zr me, .val (.long (own_ord fme wme)), zs, zn, .val (.int ((9 : Int32) + (-1 : Int32))), zn]) rfl ?_
  show oSt p e below T_10 m 136 #[zr ch, zr me, .val (.long (own_ord fme wme)), zs, zn, .val (.int ((9 : Int32) + (-1 : Int32))), zn] [] target
  rw [show (9 : Int32) + (-1 : Int32) = (8 : Int32) from by decide]
  show oSt p e below T_10 m 136 #[zr ch, zr me, .val (.long (own_ord fme wme)), zs, zn, zi 8, zn] [] target
  refine XS.goto X_10.here hx rfl (pc0 := 136) (pc' := 12) rfl (B d29_136) (by decide) (by decide) ?_
  refine XS.iload X_10.here hx rfl (B d29_12) rfl ?_
  refine XS.ifNo X_10.here hx rfl (B d29_14) rfl ((if0 _ _).trans (tlt (by decide : (0 : Int32) < (8 : Int32))).2.2.2) ?_
  refine XS.aload X_10.here hx rfl (B d29_17) rfl rfl ?_
  refine XS.ifnonnullNo X_10.here hx rfl (B d29_19) rfl ?_
  refine XS.aloadN X_10.here hx rfl (B d29_22) rfl rfl ?_
  refine st_11 _ ?_
  refine XS.iload X_11.here hx rfl (B d29_26) rfl ?_
  refine XS.iconst X_11.here hx rfl (B d29_28) ?_
  refine XS.isub X_11.here hx rfl (B d29_29) rfl ?_
  show oSt p e below T_11 m 30 #[zr ch, zr me, .val (.long (own_ord fme wme)), zs, zn, zi 8, zn] [(.int ((8 : Int32) - (1 : Int32))), (.ref fn)] target
  rw [show (8 : Int32) - (1 : Int32) = (7 : Int32) from by decide]
  show oSt p e below T_11 m 30 #[zr ch, zr me, .val (.long (own_ord fme wme)), zs, zn, zi 8, zn] [(.int (7 : Int32)), (.ref fn)] target
  refine X_11.aaload hx (j := (7 : Int32)) (v := .null) (by rw [e_11]; exact Ar_12.1) (State.isArrayOf_alike hZ.alike Ar_12.2.1) rfl Ar_12.2.2 hin_12 hat_12 (g := (mkF m 30 #[zr ch, zr me, .val (.long (own_ord fme wme)), zs, zn, zi 8, zn] [(.int (7 : Int32)), (.ref fn)])) rfl rfl (B d29_30) _ ?_
  refine XS.goto X_11.here hx rfl (pc0 := 31) (pc' := 39) rfl (B d29_31) (by decide) (by decide) ?_
  refine XS.astore X_11.here hx rfl (B d29_39) rfl rfl (l' := #[zr ch, zr me, .val (.long (own_ord fme wme)), zs, zn, zi 8, zn]) rfl ?_
  refine XS.aload X_11.here hx rfl (B d29_41) rfl rfl ?_
  refine XS.ifnullYes X_11.here hx rfl (pc0 := 43) (pc' := 73) rfl (B d29_43) rfl (by decide) (by decide) ?_
  refine XS.iload X_11.here hx rfl (B d29_73) rfl ?_
  refine XS.aloadN X_11.here hx rfl (B d29_75) rfl rfl ?_
  refine st_13 _ ?_
  refine XS.icmpYes X_13.here hx rfl (pc0 := 79) (pc' := 115) rfl (B d29_79) rfl (flt (by decide : ¬ ((8 : Int32) < (3 : Int32)))).2.1 (by decide) (by decide) ?_
  refine XS.iload X_13.here hx rfl (B d29_115) rfl ?_
  refine XS.iconst X_13.here hx rfl (B d29_117) ?_
  refine XS.icmpNo X_13.here hx rfl (B d29_118) rfl (tlt (by decide : (1 : Int32) < (8 : Int32))).2.2.2 ?_
  refine XS.aload X_13.here hx rfl (B d29_121) rfl rfl ?_
  refine XS.ifnullYes X_13.here hx rfl (pc0 := 123) (pc' := 133) rfl (B d29_123) rfl (by decide) (by decide) ?_
  refine XS.iinc X_13.here hx rfl (B d29_133) rfl (l' := #[zr ch, zr me, .val (.long (own_ord fme wme)), zs, zn, .val (.int ((8 : Int32) + (-1 : Int32))), zn]) rfl ?_
  show oSt p e below T_13 m 136 #[zr ch, zr me, .val (.long (own_ord fme wme)), zs, zn, .val (.int ((8 : Int32) + (-1 : Int32))), zn] [] target
  rw [show (8 : Int32) + (-1 : Int32) = (7 : Int32) from by decide]
  show oSt p e below T_13 m 136 #[zr ch, zr me, .val (.long (own_ord fme wme)), zs, zn, zi 7, zn] [] target
  refine XS.goto X_13.here hx rfl (pc0 := 136) (pc' := 12) rfl (B d29_136) (by decide) (by decide) ?_
  refine XS.iload X_13.here hx rfl (B d29_12) rfl ?_
  refine XS.ifNo X_13.here hx rfl (B d29_14) rfl ((if0 _ _).trans (tlt (by decide : (0 : Int32) < (7 : Int32))).2.2.2) ?_
  refine XS.aload X_13.here hx rfl (B d29_17) rfl rfl ?_
  refine XS.ifnonnullNo X_13.here hx rfl (B d29_19) rfl ?_
  refine XS.aloadN X_13.here hx rfl (B d29_22) rfl rfl ?_
  refine st_14 _ ?_
  refine XS.iload X_14.here hx rfl (B d29_26) rfl ?_
  refine XS.iconst X_14.here hx rfl (B d29_28) ?_
  refine XS.isub X_14.here hx rfl (B d29_29) rfl ?_
  show oSt p e below T_14 m 30 #[zr ch, zr me, .val (.long (own_ord fme wme)), zs, zn, zi 7, zn] [(.int ((7 : Int32) - (1 : Int32))), (.ref fn)] target
  rw [show (7 : Int32) - (1 : Int32) = (6 : Int32) from by decide]
  show oSt p e below T_14 m 30 #[zr ch, zr me, .val (.long (own_ord fme wme)), zs, zn, zi 7, zn] [(.int (6 : Int32)), (.ref fn)] target
  refine X_14.aaload hx (j := (6 : Int32)) (v := .null) (by rw [e_14]; exact Ar_15.1) (State.isArrayOf_alike hZ.alike Ar_15.2.1) rfl Ar_15.2.2 hin_15 hat_15 (g := (mkF m 30 #[zr ch, zr me, .val (.long (own_ord fme wme)), zs, zn, zi 7, zn] [(.int (6 : Int32)), (.ref fn)])) rfl rfl (B d29_30) _ ?_
  refine XS.goto X_14.here hx rfl (pc0 := 31) (pc' := 39) rfl (B d29_31) (by decide) (by decide) ?_
  refine XS.astore X_14.here hx rfl (B d29_39) rfl rfl (l' := #[zr ch, zr me, .val (.long (own_ord fme wme)), zs, zn, zi 7, zn]) rfl ?_
  refine XS.aload X_14.here hx rfl (B d29_41) rfl rfl ?_
  refine XS.ifnullYes X_14.here hx rfl (pc0 := 43) (pc' := 73) rfl (B d29_43) rfl (by decide) (by decide) ?_
  refine XS.iload X_14.here hx rfl (B d29_73) rfl ?_
  refine XS.aloadN X_14.here hx rfl (B d29_75) rfl rfl ?_
  refine st_16 _ ?_
  refine XS.icmpYes X_16.here hx rfl (pc0 := 79) (pc' := 115) rfl (B d29_79) rfl (flt (by decide : ¬ ((7 : Int32) < (3 : Int32)))).2.1 (by decide) (by decide) ?_
  refine XS.iload X_16.here hx rfl (B d29_115) rfl ?_
  refine XS.iconst X_16.here hx rfl (B d29_117) ?_
  refine XS.icmpNo X_16.here hx rfl (B d29_118) rfl (tlt (by decide : (1 : Int32) < (7 : Int32))).2.2.2 ?_
  refine XS.aload X_16.here hx rfl (B d29_121) rfl rfl ?_
  refine XS.ifnullYes X_16.here hx rfl (pc0 := 123) (pc' := 133) rfl (B d29_123) rfl (by decide) (by decide) ?_
  refine XS.iinc X_16.here hx rfl (B d29_133) rfl (l' := #[zr ch, zr me, .val (.long (own_ord fme wme)), zs, zn, .val (.int ((7 : Int32) + (-1 : Int32))), zn]) rfl ?_
  show oSt p e below T_16 m 136 #[zr ch, zr me, .val (.long (own_ord fme wme)), zs, zn, .val (.int ((7 : Int32) + (-1 : Int32))), zn] [] target
  rw [show (7 : Int32) + (-1 : Int32) = (6 : Int32) from by decide]
  show oSt p e below T_16 m 136 #[zr ch, zr me, .val (.long (own_ord fme wme)), zs, zn, zi 6, zn] [] target
  refine XS.goto X_16.here hx rfl (pc0 := 136) (pc' := 12) rfl (B d29_136) (by decide) (by decide) ?_
  refine XS.iload X_16.here hx rfl (B d29_12) rfl ?_
  refine XS.ifNo X_16.here hx rfl (B d29_14) rfl ((if0 _ _).trans (tlt (by decide : (0 : Int32) < (6 : Int32))).2.2.2) ?_
  refine XS.aload X_16.here hx rfl (B d29_17) rfl rfl ?_
  refine XS.ifnonnullNo X_16.here hx rfl (B d29_19) rfl ?_
  refine XS.aloadN X_16.here hx rfl (B d29_22) rfl rfl ?_
  refine st_17 _ ?_
  refine XS.iload X_17.here hx rfl (B d29_26) rfl ?_
  refine XS.iconst X_17.here hx rfl (B d29_28) ?_
  refine XS.isub X_17.here hx rfl (B d29_29) rfl ?_
  show oSt p e below T_17 m 30 #[zr ch, zr me, .val (.long (own_ord fme wme)), zs, zn, zi 6, zn] [(.int ((6 : Int32) - (1 : Int32))), (.ref fn)] target
  rw [show (6 : Int32) - (1 : Int32) = (5 : Int32) from by decide]
  show oSt p e below T_17 m 30 #[zr ch, zr me, .val (.long (own_ord fme wme)), zs, zn, zi 6, zn] [(.int (5 : Int32)), (.ref fn)] target
  refine X_17.aaload hx (j := (5 : Int32)) (v := .null) (by rw [e_17]; exact Ar_18.1) (State.isArrayOf_alike hZ.alike Ar_18.2.1) rfl Ar_18.2.2 hin_18 hat_18 (g := (mkF m 30 #[zr ch, zr me, .val (.long (own_ord fme wme)), zs, zn, zi 6, zn] [(.int (5 : Int32)), (.ref fn)])) rfl rfl (B d29_30) _ ?_
  refine XS.goto X_17.here hx rfl (pc0 := 31) (pc' := 39) rfl (B d29_31) (by decide) (by decide) ?_
  refine XS.astore X_17.here hx rfl (B d29_39) rfl rfl (l' := #[zr ch, zr me, .val (.long (own_ord fme wme)), zs, zn, zi 6, zn]) rfl ?_
  refine XS.aload X_17.here hx rfl (B d29_41) rfl rfl ?_
  refine XS.ifnullYes X_17.here hx rfl (pc0 := 43) (pc' := 73) rfl (B d29_43) rfl (by decide) (by decide) ?_
  refine XS.iload X_17.here hx rfl (B d29_73) rfl ?_
  refine XS.aloadN X_17.here hx rfl (B d29_75) rfl rfl ?_
  refine st_19 _ ?_
  refine XS.icmpYes X_19.here hx rfl (pc0 := 79) (pc' := 115) rfl (B d29_79) rfl (flt (by decide : ¬ ((6 : Int32) < (3 : Int32)))).2.1 (by decide) (by decide) ?_
  refine XS.iload X_19.here hx rfl (B d29_115) rfl ?_
  refine XS.iconst X_19.here hx rfl (B d29_117) ?_
  refine XS.icmpNo X_19.here hx rfl (B d29_118) rfl (tlt (by decide : (1 : Int32) < (6 : Int32))).2.2.2 ?_
  refine XS.aload X_19.here hx rfl (B d29_121) rfl rfl ?_
  refine XS.ifnullYes X_19.here hx rfl (pc0 := 123) (pc' := 133) rfl (B d29_123) rfl (by decide) (by decide) ?_
  refine XS.iinc X_19.here hx rfl (B d29_133) rfl (l' := #[zr ch, zr me, .val (.long (own_ord fme wme)), zs, zn, .val (.int ((6 : Int32) + (-1 : Int32))), zn]) rfl ?_
  show oSt p e below T_19 m 136 #[zr ch, zr me, .val (.long (own_ord fme wme)), zs, zn, .val (.int ((6 : Int32) + (-1 : Int32))), zn] [] target
  rw [show (6 : Int32) + (-1 : Int32) = (5 : Int32) from by decide]
  show oSt p e below T_19 m 136 #[zr ch, zr me, .val (.long (own_ord fme wme)), zs, zn, zi 5, zn] [] target
  refine XS.goto X_19.here hx rfl (pc0 := 136) (pc' := 12) rfl (B d29_136) (by decide) (by decide) ?_
  refine XS.iload X_19.here hx rfl (B d29_12) rfl ?_
  refine XS.ifNo X_19.here hx rfl (B d29_14) rfl ((if0 _ _).trans (tlt (by decide : (0 : Int32) < (5 : Int32))).2.2.2) ?_
  refine XS.aload X_19.here hx rfl (B d29_17) rfl rfl ?_
  refine XS.ifnonnullNo X_19.here hx rfl (B d29_19) rfl ?_
  refine XS.aloadN X_19.here hx rfl (B d29_22) rfl rfl ?_
  refine st_20 _ ?_
  refine XS.iload X_20.here hx rfl (B d29_26) rfl ?_
  refine XS.iconst X_20.here hx rfl (B d29_28) ?_
  refine XS.isub X_20.here hx rfl (B d29_29) rfl ?_
  show oSt p e below T_20 m 30 #[zr ch, zr me, .val (.long (own_ord fme wme)), zs, zn, zi 5, zn] [(.int ((5 : Int32) - (1 : Int32))), (.ref fn)] target
  rw [show (5 : Int32) - (1 : Int32) = (4 : Int32) from by decide]
  show oSt p e below T_20 m 30 #[zr ch, zr me, .val (.long (own_ord fme wme)), zs, zn, zi 5, zn] [(.int (4 : Int32)), (.ref fn)] target
  refine X_20.aaload hx (j := (4 : Int32)) (v := .null) (by rw [e_20]; exact Ar_21.1) (State.isArrayOf_alike hZ.alike Ar_21.2.1) rfl Ar_21.2.2 hin_21 hat_21 (g := (mkF m 30 #[zr ch, zr me, .val (.long (own_ord fme wme)), zs, zn, zi 5, zn] [(.int (4 : Int32)), (.ref fn)])) rfl rfl (B d29_30) _ ?_
  refine XS.goto X_20.here hx rfl (pc0 := 31) (pc' := 39) rfl (B d29_31) (by decide) (by decide) ?_
  refine XS.astore X_20.here hx rfl (B d29_39) rfl rfl (l' := #[zr ch, zr me, .val (.long (own_ord fme wme)), zs, zn, zi 5, zn]) rfl ?_
  refine XS.aload X_20.here hx rfl (B d29_41) rfl rfl ?_
  refine XS.ifnullYes X_20.here hx rfl (pc0 := 43) (pc' := 73) rfl (B d29_43) rfl (by decide) (by decide) ?_
  refine XS.iload X_20.here hx rfl (B d29_73) rfl ?_
  refine XS.aloadN X_20.here hx rfl (B d29_75) rfl rfl ?_
  refine st_22 _ ?_
  refine XS.icmpYes X_22.here hx rfl (pc0 := 79) (pc' := 115) rfl (B d29_79) rfl (flt (by decide : ¬ ((5 : Int32) < (3 : Int32)))).2.1 (by decide) (by decide) ?_
  refine XS.iload X_22.here hx rfl (B d29_115) rfl ?_
  refine XS.iconst X_22.here hx rfl (B d29_117) ?_
  refine XS.icmpNo X_22.here hx rfl (B d29_118) rfl (tlt (by decide : (1 : Int32) < (5 : Int32))).2.2.2 ?_
  refine XS.aload X_22.here hx rfl (B d29_121) rfl rfl ?_
  refine XS.ifnullYes X_22.here hx rfl (pc0 := 123) (pc' := 133) rfl (B d29_123) rfl (by decide) (by decide) ?_
  refine XS.iinc X_22.here hx rfl (B d29_133) rfl (l' := #[zr ch, zr me, .val (.long (own_ord fme wme)), zs, zn, .val (.int ((5 : Int32) + (-1 : Int32))), zn]) rfl ?_
  show oSt p e below T_22 m 136 #[zr ch, zr me, .val (.long (own_ord fme wme)), zs, zn, .val (.int ((5 : Int32) + (-1 : Int32))), zn] [] target
  rw [show (5 : Int32) + (-1 : Int32) = (4 : Int32) from by decide]
  show oSt p e below T_22 m 136 #[zr ch, zr me, .val (.long (own_ord fme wme)), zs, zn, zi 4, zn] [] target
  refine XS.goto X_22.here hx rfl (pc0 := 136) (pc' := 12) rfl (B d29_136) (by decide) (by decide) ?_
  refine XS.iload X_22.here hx rfl (B d29_12) rfl ?_
  refine XS.ifNo X_22.here hx rfl (B d29_14) rfl ((if0 _ _).trans (tlt (by decide : (0 : Int32) < (4 : Int32))).2.2.2) ?_
  refine XS.aload X_22.here hx rfl (B d29_17) rfl rfl ?_
  refine XS.ifnonnullNo X_22.here hx rfl (B d29_19) rfl ?_
  refine XS.aloadN X_22.here hx rfl (B d29_22) rfl rfl ?_
  refine st_23 _ ?_
  refine XS.iload X_23.here hx rfl (B d29_26) rfl ?_
  refine XS.iconst X_23.here hx rfl (B d29_28) ?_
  refine XS.isub X_23.here hx rfl (B d29_29) rfl ?_
  show oSt p e below T_23 m 30 #[zr ch, zr me, .val (.long (own_ord fme wme)), zs, zn, zi 4, zn] [(.int ((4 : Int32) - (1 : Int32))), (.ref fn)] target
  rw [show (4 : Int32) - (1 : Int32) = (3 : Int32) from by decide]
  show oSt p e below T_23 m 30 #[zr ch, zr me, .val (.long (own_ord fme wme)), zs, zn, zi 4, zn] [(.int (3 : Int32)), (.ref fn)] target
  refine X_23.aaload hx (j := (3 : Int32)) (v := .null) (by rw [e_23]; exact Ar_24.1) (State.isArrayOf_alike hZ.alike Ar_24.2.1) rfl Ar_24.2.2 hin_24 hat_24 (g := (mkF m 30 #[zr ch, zr me, .val (.long (own_ord fme wme)), zs, zn, zi 4, zn] [(.int (3 : Int32)), (.ref fn)])) rfl rfl (B d29_30) _ ?_
  refine XS.goto X_23.here hx rfl (pc0 := 31) (pc' := 39) rfl (B d29_31) (by decide) (by decide) ?_
  refine XS.astore X_23.here hx rfl (B d29_39) rfl rfl (l' := #[zr ch, zr me, .val (.long (own_ord fme wme)), zs, zn, zi 4, zn]) rfl ?_
  refine XS.aload X_23.here hx rfl (B d29_41) rfl rfl ?_
  refine XS.ifnullYes X_23.here hx rfl (pc0 := 43) (pc' := 73) rfl (B d29_43) rfl (by decide) (by decide) ?_
  refine XS.iload X_23.here hx rfl (B d29_73) rfl ?_
  refine XS.aloadN X_23.here hx rfl (B d29_75) rfl rfl ?_
  refine st_25 _ ?_
  refine XS.icmpYes X_25.here hx rfl (pc0 := 79) (pc' := 115) rfl (B d29_79) rfl (flt (by decide : ¬ ((4 : Int32) < (3 : Int32)))).2.1 (by decide) (by decide) ?_
  refine XS.iload X_25.here hx rfl (B d29_115) rfl ?_
  refine XS.iconst X_25.here hx rfl (B d29_117) ?_
  refine XS.icmpNo X_25.here hx rfl (B d29_118) rfl (tlt (by decide : (1 : Int32) < (4 : Int32))).2.2.2 ?_
  refine XS.aload X_25.here hx rfl (B d29_121) rfl rfl ?_
  refine XS.ifnullYes X_25.here hx rfl (pc0 := 123) (pc' := 133) rfl (B d29_123) rfl (by decide) (by decide) ?_
  refine XS.iinc X_25.here hx rfl (B d29_133) rfl (l' := #[zr ch, zr me, .val (.long (own_ord fme wme)), zs, zn, .val (.int ((4 : Int32) + (-1 : Int32))), zn]) rfl ?_
  show oSt p e below T_25 m 136 #[zr ch, zr me, .val (.long (own_ord fme wme)), zs, zn, .val (.int ((4 : Int32) + (-1 : Int32))), zn] [] target
  rw [show (4 : Int32) + (-1 : Int32) = (3 : Int32) from by decide]
  show oSt p e below T_25 m 136 #[zr ch, zr me, .val (.long (own_ord fme wme)), zs, zn, zi 3, zn] [] target
  refine XS.goto X_25.here hx rfl (pc0 := 136) (pc' := 12) rfl (B d29_136) (by decide) (by decide) ?_
  refine XS.iload X_25.here hx rfl (B d29_12) rfl ?_
  refine XS.ifNo X_25.here hx rfl (B d29_14) rfl ((if0 _ _).trans (tlt (by decide : (0 : Int32) < (3 : Int32))).2.2.2) ?_
  refine XS.aload X_25.here hx rfl (B d29_17) rfl rfl ?_
  refine XS.ifnonnullNo X_25.here hx rfl (B d29_19) rfl ?_
  refine XS.aloadN X_25.here hx rfl (B d29_22) rfl rfl ?_
  refine st_26 _ ?_
  refine XS.iload X_26.here hx rfl (B d29_26) rfl ?_
  refine XS.iconst X_26.here hx rfl (B d29_28) ?_
  refine XS.isub X_26.here hx rfl (B d29_29) rfl ?_
  show oSt p e below T_26 m 30 #[zr ch, zr me, .val (.long (own_ord fme wme)), zs, zn, zi 3, zn] [(.int ((3 : Int32) - (1 : Int32))), (.ref fn)] target
  rw [show (3 : Int32) - (1 : Int32) = (2 : Int32) from by decide]
  show oSt p e below T_26 m 30 #[zr ch, zr me, .val (.long (own_ord fme wme)), zs, zn, zi 3, zn] [(.int (2 : Int32)), (.ref fn)] target
  refine X_26.aaload hx (j := (2 : Int32)) (v := .null) (by rw [e_26]; exact Ar_27.1) (State.isArrayOf_alike hZ.alike Ar_27.2.1) rfl Ar_27.2.2 hin_27 hat_27 (g := (mkF m 30 #[zr ch, zr me, .val (.long (own_ord fme wme)), zs, zn, zi 3, zn] [(.int (2 : Int32)), (.ref fn)])) rfl rfl (B d29_30) _ ?_
  refine XS.goto X_26.here hx rfl (pc0 := 31) (pc' := 39) rfl (B d29_31) (by decide) (by decide) ?_
  refine XS.astore X_26.here hx rfl (B d29_39) rfl rfl (l' := #[zr ch, zr me, .val (.long (own_ord fme wme)), zs, zn, zi 3, zn]) rfl ?_
  refine XS.aload X_26.here hx rfl (B d29_41) rfl rfl ?_
  refine XS.ifnullYes X_26.here hx rfl (pc0 := 43) (pc' := 73) rfl (B d29_43) rfl (by decide) (by decide) ?_
  refine XS.iload X_26.here hx rfl (B d29_73) rfl ?_
  refine XS.aloadN X_26.here hx rfl (B d29_75) rfl rfl ?_
  refine st_28 _ ?_
  refine XS.icmpYes X_28.here hx rfl (pc0 := 79) (pc' := 115) rfl (B d29_79) rfl (flt (by decide : ¬ ((3 : Int32) < (3 : Int32)))).2.1 (by decide) (by decide) ?_
  refine XS.iload X_28.here hx rfl (B d29_115) rfl ?_
  refine XS.iconst X_28.here hx rfl (B d29_117) ?_
  refine XS.icmpNo X_28.here hx rfl (B d29_118) rfl (tlt (by decide : (1 : Int32) < (3 : Int32))).2.2.2 ?_
  refine XS.aload X_28.here hx rfl (B d29_121) rfl rfl ?_
  refine XS.ifnullYes X_28.here hx rfl (pc0 := 123) (pc' := 133) rfl (B d29_123) rfl (by decide) (by decide) ?_
  refine XS.iinc X_28.here hx rfl (B d29_133) rfl (l' := #[zr ch, zr me, .val (.long (own_ord fme wme)), zs, zn, .val (.int ((3 : Int32) + (-1 : Int32))), zn]) rfl ?_
  show oSt p e below T_28 m 136 #[zr ch, zr me, .val (.long (own_ord fme wme)), zs, zn, .val (.int ((3 : Int32) + (-1 : Int32))), zn] [] target
  rw [show (3 : Int32) + (-1 : Int32) = (2 : Int32) from by decide]
  show oSt p e below T_28 m 136 #[zr ch, zr me, .val (.long (own_ord fme wme)), zs, zn, zi 2, zn] [] target
  refine XS.goto X_28.here hx rfl (pc0 := 136) (pc' := 12) rfl (B d29_136) (by decide) (by decide) ?_
  refine XS.iload X_28.here hx rfl (B d29_12) rfl ?_
  refine XS.ifNo X_28.here hx rfl (B d29_14) rfl ((if0 _ _).trans (tlt (by decide : (0 : Int32) < (2 : Int32))).2.2.2) ?_
  refine XS.aload X_28.here hx rfl (B d29_17) rfl rfl ?_
  refine XS.ifnonnullNo X_28.here hx rfl (B d29_19) rfl ?_
  refine XS.aloadN X_28.here hx rfl (B d29_22) rfl rfl ?_
  refine st_29 _ ?_
  refine XS.iload X_29.here hx rfl (B d29_26) rfl ?_
  refine XS.iconst X_29.here hx rfl (B d29_28) ?_
  refine XS.isub X_29.here hx rfl (B d29_29) rfl ?_
  show oSt p e below T_29 m 30 #[zr ch, zr me, .val (.long (own_ord fme wme)), zs, zn, zi 2, zn] [(.int ((2 : Int32) - (1 : Int32))), (.ref fn)] target
  rw [show (2 : Int32) - (1 : Int32) = (1 : Int32) from by decide]
  show oSt p e below T_29 m 30 #[zr ch, zr me, .val (.long (own_ord fme wme)), zs, zn, zi 2, zn] [(.int (1 : Int32)), (.ref fn)] target
  refine X_29.aaload hx (j := (1 : Int32)) (v := (.ref nb)) (by rw [e_29]; exact Ar_30.1) (State.isArrayOf_alike hZ.alike Ar_30.2.1) rfl Ar_30.2.2 hin_30 hat_30 (g := (mkF m 30 #[zr ch, zr me, .val (.long (own_ord fme wme)), zs, zn, zi 2, zn] [(.int (1 : Int32)), (.ref fn)])) rfl rfl (B d29_30) _ ?_
  refine XS.goto X_29.here hx rfl (pc0 := 31) (pc' := 39) rfl (B d29_31) (by decide) (by decide) ?_
  refine XS.astore X_29.here hx rfl (B d29_39) rfl rfl (l' := #[zr ch, zr me, .val (.long (own_ord fme wme)), zs, zn, zi 2, zr nb]) rfl ?_
  refine XS.aload X_29.here hx rfl (B d29_41) rfl rfl ?_
  refine XS.ifnullNo X_29.here hx rfl (B d29_43) rfl ?_
  refine XS.aload X_29.here hx rfl (B d29_46) rfl rfl ?_
  refine st_31 _ ?_
  refine st_32 _ ?_
  refine XS.lloadN X_32.here hx rfl (B d29_54) rfl ?_
  refine XS.lcmp X_32.here hx rfl (B d29_55) rfl ?_
  refine XS.ifYes X_32.here hx rfl (pc0 := 56) (pc' := 73) rfl (B d29_56) rfl ((if0 _ _).trans (flt (own_l4 (fun q => Int64.lt_irrefl q : ¬ ((own_ord fme wme) < (own_ord fme wme))))).2.1) (by decide) (by decide) ?_
  refine XS.iload X_32.here hx rfl (B d29_73) rfl ?_
  refine XS.aloadN X_32.here hx rfl (B d29_75) rfl rfl ?_
  refine st_33 _ ?_
  refine XS.icmpNo X_33.here hx rfl (B d29_79) rfl (tlt (by decide : (2 : Int32) < (3 : Int32))).2.1 ?_
  refine XS.aload X_33.here hx rfl (B d29_82) rfl rfl ?_
  refine st_34 _ ?_
  show oSt p e below T_34 m 87 #[zr ch, zr me, .val (.long (own_ord fme wme)), zs, zn, zi 2, zr nb] [(.ref me)] target
  refine XS.aloadN X_34.here hx rfl (B d29_87) rfl rfl ?_
  refine Jvm.RoadKit.acmp (g := (mkF m 88 #[zr ch, zr me, .val (.long (own_ord fme wme)), zs, zn, zi 2, zr nb] [(.ref me), (.ref me)])) X_34 hx rfl rfl rfl (pc0 := 88) (pc' := 105) (same := true) rfl (B d29_88) rfl (decide_eq_true rfl) (by decide) (by decide) ?_
  refine XS.aloadN X_34.here hx rfl (B d29_105) rfl rfl ?_
  refine XS.iload X_34.here hx rfl (B d29_106) rfl ?_
  refine XS.aload X_34.here hx rfl (B d29_108) rfl rfl ?_
  refine XS.aload X_34.here hx rfl (B d29_110) rfl rfl ?_
  refine st_35.trans ?_
  refine XS.iload X_35.here hx rfl (B d29_115) rfl ?_
  refine XS.iconst X_35.here hx rfl (B d29_117) ?_
  refine XS.icmpNo X_35.here hx rfl (B d29_118) rfl (tlt (by decide : (1 : Int32) < (2 : Int32))).2.2.2 ?_
  refine XS.aload X_35.here hx rfl (B d29_121) rfl rfl ?_
  refine XS.ifnullYes X_35.here hx rfl (pc0 := 123) (pc' := 133) rfl (B d29_123) rfl (by decide) (by decide) ?_
  refine XS.iinc X_35.here hx rfl (B d29_133) rfl (l' := #[zr ch, zr me, .val (.long (own_ord fme wme)), zs, zn, .val (.int ((2 : Int32) + (-1 : Int32))), zr nb]) rfl ?_
  show oSt p e below T_35 m 136 #[zr ch, zr me, .val (.long (own_ord fme wme)), zs, zn, .val (.int ((2 : Int32) + (-1 : Int32))), zr nb] [] target
  rw [show (2 : Int32) + (-1 : Int32) = (1 : Int32) from by decide]
  show oSt p e below T_35 m 136 #[zr ch, zr me, .val (.long (own_ord fme wme)), zs, zn, zi 1, zr nb] [] target
  refine XS.goto X_35.here hx rfl (pc0 := 136) (pc' := 12) rfl (B d29_136) (by decide) (by decide) ?_
  refine XS.iload X_35.here hx rfl (B d29_12) rfl ?_
  refine XS.ifNo X_35.here hx rfl (B d29_14) rfl ((if0 _ _).trans (tlt (by decide : (0 : Int32) < (1 : Int32))).2.2.2) ?_
  refine XS.aload X_35.here hx rfl (B d29_17) rfl rfl ?_
  refine XS.ifnonnullNo X_35.here hx rfl (B d29_19) rfl ?_
  refine XS.aloadN X_35.here hx rfl (B d29_22) rfl rfl ?_
  refine st_38 _ ?_
  refine XS.iload X_38.here hx rfl (B d29_26) rfl ?_
  refine XS.iconst X_38.here hx rfl (B d29_28) ?_
  refine XS.isub X_38.here hx rfl (B d29_29) rfl ?_
  show oSt p e below T_38 m 30 #[zr ch, zr me, .val (.long (own_ord fme wme)), zs, zn, zi 1, zr nb] [(.int ((1 : Int32) - (1 : Int32))), (.ref fn)] target
  rw [show (1 : Int32) - (1 : Int32) = (0 : Int32) from by decide]
  show oSt p e below T_38 m 30 #[zr ch, zr me, .val (.long (own_ord fme wme)), zs, zn, zi 1, zr nb] [(.int (0 : Int32)), (.ref fn)] target
  refine X_38.aaload hx (j := (0 : Int32)) (v := (.ref na)) (by rw [e_38]; exact Ar_39.1) (State.isArrayOf_alike hZ.alike Ar_39.2.1) rfl Ar_39.2.2 hin_39 hat_39 (g := (mkF m 30 #[zr ch, zr me, .val (.long (own_ord fme wme)), zs, zn, zi 1, zr nb] [(.int (0 : Int32)), (.ref fn)])) rfl rfl (B d29_30) _ ?_
  refine XS.goto X_38.here hx rfl (pc0 := 31) (pc' := 39) rfl (B d29_31) (by decide) (by decide) ?_
  refine XS.astore X_38.here hx rfl (B d29_39) rfl rfl (l' := #[zr ch, zr me, .val (.long (own_ord fme wme)), zs, zn, zi 1, zr na]) rfl ?_
  refine XS.aload X_38.here hx rfl (B d29_41) rfl rfl ?_
  refine XS.ifnullNo X_38.here hx rfl (B d29_43) rfl ?_
  refine XS.aload X_38.here hx rfl (B d29_46) rfl rfl ?_
  refine st_41 _ ?_
  refine st_42 _ ?_
  refine XS.lloadN X_42.here hx rfl (B d29_54) rfl ?_
  refine XS.lcmp X_42.here hx rfl (B d29_55) rfl ?_
  refine XS.ifYes X_42.here hx rfl (pc0 := 56) (pc' := 73) rfl (B d29_56) rfl ((if0 _ _).trans (flt (own_l4 (fun q => Int64.lt_irrefl q : ¬ ((own_ord fme wme) < (own_ord fme wme))))).2.1) (by decide) (by decide) ?_
  refine XS.iload X_42.here hx rfl (B d29_73) rfl ?_
  refine XS.aloadN X_42.here hx rfl (B d29_75) rfl rfl ?_
  refine st_46 _ ?_
  refine XS.icmpNo X_46.here hx rfl (B d29_79) rfl (tlt (by decide : (1 : Int32) < (3 : Int32))).2.1 ?_
  refine XS.aload X_46.here hx rfl (B d29_82) rfl rfl ?_
  refine st_47 _ ?_
  show oSt p e below T_47 m 87 #[zr ch, zr me, .val (.long (own_ord fme wme)), zs, zn, zi 1, zr na] [(.ref me)] target
  refine XS.aloadN X_47.here hx rfl (B d29_87) rfl rfl ?_
  refine Jvm.RoadKit.acmp (g := (mkF m 88 #[zr ch, zr me, .val (.long (own_ord fme wme)), zs, zn, zi 1, zr na] [(.ref me), (.ref me)])) X_47 hx rfl rfl rfl (pc0 := 88) (pc' := 105) (same := true) rfl (B d29_88) rfl (decide_eq_true rfl) (by decide) (by decide) ?_
  refine XS.aloadN X_47.here hx rfl (B d29_105) rfl rfl ?_
  refine XS.iload X_47.here hx rfl (B d29_106) rfl ?_
  refine XS.aload X_47.here hx rfl (B d29_108) rfl rfl ?_
  refine XS.aload X_47.here hx rfl (B d29_110) rfl rfl ?_
  refine st_48.trans ?_
  refine XS.iload X_48.here hx rfl (B d29_115) rfl ?_
  refine XS.iconst X_48.here hx rfl (B d29_117) ?_
  refine XS.icmpYes X_48.here hx rfl (pc0 := 118) (pc' := 133) rfl (B d29_118) rfl (flt (by decide : ¬ ((1 : Int32) < (1 : Int32)))).2.2.2 (by decide) (by decide) ?_
  refine XS.iinc X_48.here hx rfl (B d29_133) rfl (l' := #[zr ch, zr me, .val (.long (own_ord fme wme)), zs, zn, .val (.int ((1 : Int32) + (-1 : Int32))), zr na]) rfl ?_
  show oSt p e below T_48 m 136 #[zr ch, zr me, .val (.long (own_ord fme wme)), zs, zn, .val (.int ((1 : Int32) + (-1 : Int32))), zr na] [] target
  rw [show (1 : Int32) + (-1 : Int32) = (0 : Int32) from by decide]
  show oSt p e below T_48 m 136 #[zr ch, zr me, .val (.long (own_ord fme wme)), zs, zn, zi 0, zr na] [] target
  refine XS.goto X_48.here hx rfl (pc0 := 136) (pc' := 12) rfl (B d29_136) (by decide) (by decide) ?_
  refine XS.iload X_48.here hx rfl (B d29_12) rfl ?_
  refine XS.ifYes X_48.here hx rfl (pc0 := 14) (pc' := 139) rfl (B d29_14) rfl ((if0 _ _).trans (flt (by decide : ¬ ((0 : Int32) < (0 : Int32)))).2.2.2) (by decide) (by decide) ?_
  exact kt
 obtain ⟨fs, hr, hrun, hended, hW, hsame⟩ := X_48.leave (v := none) (fun _ => rfl)
 refine ⟨_, _, X_48.returnOut hx Bd.returns (B d29_139) hr, hrun, hended, _, _, rfl, ?_, ⟨_, rfl⟩, hW, hsame.mono (by decide) (by decide)⟩
 show Q_ubs Z ch me fn ln bl fg na nb kkf kkl fme ldr wme hv tv fev ra h0 n0 _ T_48.heap _
 have f_54 := (p_35_14.keep p_48_0)
 have f_55 := (p_35_15.keep p_48_0 (oN1 (Ne.symm n_ch_nb) (oN1 (Ne.symm n_fn_nb) (oN1 (Ne.symm n_ln_nb) (oN1 (Ne.symm n_na_nb) oN)))))
 have f_56 := (p_35_16.keep p_48_0 (oN1 (Ne.symm n_ch_nb) (oN1 (Ne.symm n_fn_nb) (oN1 (Ne.symm n_ln_nb) (oN1 (Ne.symm n_na_nb) oN)))))
 have f_57 := (p_35_17.keep p_48_0 (oN1 (Ne.symm n_ch_nb) (oN1 (Ne.symm n_fn_nb) (oN1 (Ne.symm n_ln_nb) (oN1 (Ne.symm n_na_nb) oN)))))
 exact ⟨rfl, N_48, K_53, p_48_1, p_48_2, p_48_3, p_48_4, p_48_5, p_48_6, p_48_7, p_48_8, p_48_9, p_48_10, p_48_11, p_48_12, p_48_13, p_48_14, p_48_15, p_48_16, p_48_17, f_54, f_55, f_56, f_57⟩
-- com/example/carillon/carillon/Chain.unlinkFromLaneZero:(Lcom/example/carillon/carillon/Message;Lcom/example/carillon/carillon/Message;)V
theorem d30_0 : decode cd30 0 = .ok (.aload_n 1, 1) := by decide +kernel
theorem d30_1 : decode cd30 1 = .ok (.ifnonnull 14, 3) := by decide +kernel
theorem d30_4 : decode cd30 4 = .ok (.aload_n 0, 1) := by decide +kernel
theorem d30_5 : decode cd30 5 = .ok (.aload_n 2, 1) := by decide +kernel
theorem d30_6 : decode cd30 6 = .ok (.getfield 68, 3) := by decide +kernel
theorem d30_9 : decode cd30 9 = .ok (.putfield 34, 3) := by decide +kernel
theorem d30_12 : decode cd30 12 = .ok (.goto 11, 3) := by decide +kernel
theorem d30_23 : decode cd30 23 = .ok (.aload_n 0, 1) := by decide +kernel
theorem d30_24 : decode cd30 24 = .ok (.getfield 38, 3) := by decide +kernel
theorem d30_27 : decode cd30 27 = .ok (.aload_n 2, 1) := by decide +kernel
theorem d30_28 : decode cd30 28 = .ok (.if_acmp .ne 8, 3) := by decide +kernel
theorem d30_36 : decode cd30 36 = .ok (.aload_n 2, 1) := by decide +kernel
theorem d30_37 : decode cd30 37 = .ok (.aconst_null, 1) := by decide +kernel
theorem d30_38 : decode cd30 38 = .ok (.putfield 68, 3) := by decide +kernel
theorem d30_41 : decode cd30 41 = .ok (.return_, 1) := by decide +kernel
theorem ef_ulz0 (m : MethodId) (ch me : Addr) : entryFrame m #[(.ref ch), .null, (.ref me)] 3 = mkF m 0 #[.val (.ref ch), .val .null, .val (.ref me)] [] := by first | (simp [entryFrame, mkF, argsToLocals, Value.category]; done) | rfl
def Q_ulz0 (Z : State) (ch me my fn ln bl fg mx : Addr) (spc fme lme : Int32) (ldr wme : Int64) (spv fev : Value) (h0 : Heap) (n0 : Nat) (v : Option Value) (h : Heap) (L : List Loc) : Prop := v = none ∧ Fr n0 L ∧ Keep h0 h [ch, me] ∧ Exa Z h ch sg3 ∧ xF8 Z h ch (.ref mx) ∧ xF9 Z h ch (.ref my) ∧ xF10 Z h ch (.ref fn) ∧ xF11 Z h ch (.ref ln) ∧ xF12 Z h ch (.ref bl) ∧ xF13 Z h ch spv ∧ xF14 Z h ch (.int spc) ∧ xF15 Z h ch (.long ldr) ∧ xF16 Z h ch fev ∧ xF17 Z h ch (.ref fg) ∧ Exa Z h me sg0 ∧ xF0 Z h me .null ∧ xF1 Z h me (.long wme) ∧ xF2 Z h me (.int fme) ∧ xF3 Z h me (.int lme)
set_option maxRecDepth 65536 in
set_option maxHeartbeats 40000000 in
theorem rm_ulz0 (l : Launch) (Z : State) (a0 : Array Value) (hw : hwT Z a0) (ws : List Jvm.Cond) (ch me my fn ln bl fg mx : Addr) (spc fme lme : Int32) (ldr wme : Int64) (spv fev : Value) (h0 : Heap) (n0 : Nat) (Z0 : n0 ≤ h0.size) (P0_ : Exa Z h0 ch sg3) (P1_ : xF8 Z h0 ch (.ref me)) (P2_ : xF9 Z h0 ch (.ref my)) (P3_ : xF10 Z h0 ch (.ref fn)) (P4_ : xF11 Z h0 ch (.ref ln)) (P5_ : xF12 Z h0 ch (.ref bl)) (P6_ : xF13 Z h0 ch spv) (P7_ : xF14 Z h0 ch (.int spc)) (P8_ : xF15 Z h0 ch (.long ldr)) (P9_ : xF16 Z h0 ch fev) (P10_ : xF17 Z h0 ch (.ref fg)) (P11_ : Exa Z h0 me sg0) (P12_ : xF0 Z h0 me (.ref mx)) (P13_ : xF1 Z h0 me (.long wme)) (P14_ : xF2 Z h0 me (.int fme)) (P15_ : xF3 Z h0 me (.int lme)) (P16_ : Exa Z h0 my sg0) (g_ch : n0 ≤ ch) (g_me : n0 ≤ me) (n_ch_me : ch ≠ me) (n_ch_my : ch ≠ my) (n_me_my : me ≠ my) :
  oMF l Z mn30 (Jvm.Cond.code mn30 prog_2_method_19_code 3 none) ws (rO 0 0 0 0) #[(.ref ch), .null, (.ref me)] h0 (Q_ulz0 Z ch me my fn ln bl fg mx spc fme lme ldr wme spv fev h0 n0) := by
 refine MetFree.of_bodySF (plainFor_of_name pn_ordc) hisR ?_
 intro p e s m args below meth c s₁ Bd hml0 hP hK
 obtain ⟨rfl, hZ, hh⟩ := hP
 have hx := Bd.exec
 have hby := Bd.bytes
 have B : ∀ {pc r}, decode cd30 pc = r → decode c.code pc = r := fun h => hb hby h
 have hml : c.maxLocals = 3 := hml0
 have hown : s.vm.findClass sg3 = some m.cls := findClass_of_methodNamed Bd.named
 have hnm := (name_of_methodNamed Bd.named Bd.method).1
 have X0 : Stand p l e (rO 0 0 0 0) s m #[(.ref ch), .null, (.ref me)] below meth c s₁ [] 0 0 := Stand.of_body Bd
 have e0 : s₁.heap = h0 := by rw [← hh, Bd.state]; rfl
 have N0 := Fr.nil n0
 refine own_in ?_
 refine own_go (S' := s₁.setTop (mkF m 0 #[zr ch, zn, zr me] [])) (fun tgt_ stp_ => castTop (ef_ulz0 m ch me) stp_) ?_
 have K0 : Keep h0 h0 [ch, me] := Keep.refl h0 _
 obtain ⟨T_1, X_1, e_1, st_1⟩ := getF X0 hx hZ hown (oV hw 117 rfl) Via.refl e0 P12_ (g := (mkF m 6 #[zr ch, zn, zr me] [(.ref me), (.ref ch)])) rfl rfl (B d30_6)
 obtain ⟨T_2, h_2, X_2, e_2, W_2, st_2⟩ := putF X_1 hx hZ hown (oV hw 119 rfl) Via.refl e_1 P1_ P0_ (Or.inl (oW hw 120 rfl)) (oW hw 18 rfl) (ty := (.object sg0)) (by decide) rfl rfl (g := (mkF m 9 #[zr ch, zn, zr me] [(.ref mx), (.ref ch)])) rfl rfl (B d30_9)
 obtain ⟨Lg_2, XG_2, N_2⟩ := own_gen X_2 (Fr.snoc X_2 N0 g_ch)
 have F_2 := P1_.same W_2
 have Z_3 := Nat.le_trans Z0 (Keep.of_wr W_2).1
 have K_4 : Keep h0 h_2 [ch, me] := K0.wr W_2 (oK 0 rfl)
 have f_5 := (P2_.other W_2 (Or.inr (sn_37 hw)))
 obtain ⟨T_6, X_6, e_6, st_6⟩ := getF XG_2 hx hZ hown (oV hw 94 rfl) Via.refl e_2 f_5 (g := (mkF m 24 #[zr ch, zn, zr me] [(.ref ch)])) rfl rfl (B d30_24)
 have f_7 := (P11_.wr W_2)
 have f_8 := (P12_.other W_2 (Or.inl (Ne.symm n_ch_me)))
 obtain ⟨T_9, h_9, X_9, e_9, W_9, st_9⟩ := putF X_6 hx hZ hown (oV hw 117 rfl) Via.refl e_6 f_8 f_7 (Or.inl (oW hw 118 rfl)) (oW hw 1 rfl) (ty := (.object sg0)) (by decide) rfl rfl (g := (mkF m 38 #[zr ch, zn, zr me] [.null, (.ref me)])) rfl rfl (B d30_38)
 obtain ⟨Lg_9, XG_9, N_9⟩ := own_gen X_9 (Fr.snoc X_9 N_2 g_me)
 have F_9 := f_8.same W_9
 have Z_10 := Nat.le_trans Z_3 (Keep.of_wr W_9).1
 have K_11 : Keep h0 h_9 [ch, me] := K_4.wr W_9 (oK 1 rfl)
 refine own_go (S' := T_9.setTop (mkF m 41 #[zr ch, zn, zr me] [])) (fun target kt => ?_) ?_
 ·
  show oSt p e below s₁ m 0 #[zr ch, zn, zr me] [] target
  refine XS.aloadN X0.here hx rfl (B d30_0) rfl rfl ?_
  refine XS.ifnonnullNo X0.here hx rfl (B d30_1) rfl ?_
  refine XS.aloadN X0.here hx rfl (B d30_4) rfl rfl ?_
  refine XS.aloadN X0.here hx rfl (B d30_5) rfl rfl ?_
  refine st_1 _ ?_
  refine st_2 _ ?_
  refine XS.goto XG_2.here hx rfl (pc0 := 12) (pc' := 23) rfl (B d30_12) (by decide) (by decide) ?_
  refine XS.aloadN XG_2.here hx rfl (B d30_23) rfl rfl ?_
  refine st_6 _ ?_
  refine XS.aloadN X_6.here hx rfl (B d30_27) rfl rfl ?_
  refine Jvm.RoadKit.acmp (g := (mkF m 28 #[zr ch, zn, zr me] [(.ref me), (.ref my)])) X_6 hx rfl rfl rfl (pc0 := 28) (pc' := 36) (same := false) rfl (B d30_28) rfl (decide_eq_false fun q => (Ne.symm n_me_my) (Value.ref.inj q)) (by decide) (by decide) ?_
  refine XS.aloadN X_6.here hx rfl (B d30_36) rfl rfl ?_
  refine XS.aconstNull X_6.here hx rfl (B d30_37) ?_
  refine st_9 _ ?_
  exact kt
 obtain ⟨fs, hr, hrun, hended, hW, hsame⟩ := XG_9.leave (v := none) (fun _ => rfl)
 refine ⟨_, _, XG_9.returnOut hx Bd.returns (B d30_41) hr, hrun, hended, _, _, rfl, ?_, ⟨_, rfl⟩, hW, hsame.mono (by decide) (by decide)⟩
 show Q_ulz0 Z ch me my fn ln bl fg mx spc fme lme ldr wme spv fev h0 n0 _ T_9.heap _
 rw [e_9]
 have f_12 := ((P0_.wr W_2).wr W_9)
 have f_13 := (F_2.other W_9 (Or.inl n_ch_me))
 have f_14 := (f_5.other W_9 (Or.inl n_ch_me))
 have f_15 := ((P3_.other W_2 (Or.inr (sn_42 hw))).other W_9 (Or.inl n_ch_me))
 have f_16 := ((P4_.other W_2 (Or.inr (sn_38 hw))).other W_9 (Or.inl n_ch_me))
 have f_17 := ((P5_.other W_2 (Or.inr (sn_45 hw))).other W_9 (Or.inl n_ch_me))
 have f_18 := ((P6_.other W_2 (Or.inr (sn_40 hw))).other W_9 (Or.inl n_ch_me))
 have f_19 := ((P7_.other W_2 (Or.inr (sn_47 hw))).other W_9 (Or.inl n_ch_me))
 have f_20 := ((P8_.other W_2 (Or.inr (sn_49 hw))).other W_9 (Or.inl n_ch_me))
 have f_21 := ((P9_.other W_2 (Or.inr (sn_51 hw))).other W_9 (Or.inl n_ch_me))
 have f_22 := ((P10_.other W_2 (Or.inr (sn_53 hw))).other W_9 (Or.inl n_ch_me))
 have f_23 := (f_7.wr W_9)
 have f_24 := ((P13_.other W_2 (Or.inl (Ne.symm n_ch_me))).other W_9 (Or.inr (sn_56 hw)))
 have f_25 := ((P14_.other W_2 (Or.inl (Ne.symm n_ch_me))).other W_9 (Or.inr (sn_58 hw)))
 have f_26 := ((P15_.other W_2 (Or.inl (Ne.symm n_ch_me))).other W_9 (Or.inr (sn_59 hw)))
 exact ⟨rfl, N_9, K_11, f_12, f_13, f_14, f_15, f_16, f_17, f_18, f_19, f_20, f_21, f_22, f_23, F_9, f_24, f_25, f_26⟩
-- com/example/carillon/carillon/Chain.unlinkFromLaneZero:(Lcom/example/carillon/carillon/Message;Lcom/example/carillon/carillon/Message;)V
theorem d30_15 : decode cd30 15 = .ok (.aload_n 1, 1) := by decide +kernel
theorem d30_16 : decode cd30 16 = .ok (.aload_n 2, 1) := by decide +kernel
theorem d30_17 : decode cd30 17 = .ok (.getfield 68, 3) := by decide +kernel
theorem d30_20 : decode cd30 20 = .ok (.putfield 68, 3) := by decide +kernel
theorem ef_ulz1 (m : MethodId) (ch mx me : Addr) : entryFrame m #[(.ref ch), (.ref mx), (.ref me)] 3 = mkF m 0 #[.val (.ref ch), .val (.ref mx), .val (.ref me)] [] := by first | (simp [entryFrame, mkF, argsToLocals, Value.category]; done) | rfl
def Q_ulz1 (Z : State) (ch mx me my fn ln bl fg : Addr) (spc fme lme fmx lmx : Int32) (ldr wme wmx : Int64) (hv spv fev : Value) (h0 : Heap) (n0 : Nat) (v : Option Value) (h : Heap) (L : List Loc) : Prop := v = none ∧ Fr n0 L ∧ Keep h0 h [me, mx] ∧ Exa Z h me sg0 ∧ xF0 Z h me .null ∧ xF1 Z h me (.long wme) ∧ xF2 Z h me (.int fme) ∧ xF3 Z h me (.int lme) ∧ Exa Z h mx sg0 ∧ xF0 Z h mx (.ref my) ∧ xF1 Z h mx (.long wmx) ∧ xF2 Z h mx (.int fmx) ∧ xF3 Z h mx (.int lmx)
set_option maxRecDepth 65536 in
set_option maxHeartbeats 40000000 in
theorem rm_ulz1 (l : Launch) (Z : State) (a0 : Array Value) (hw : hwT Z a0) (ws : List Jvm.Cond) (ch mx me my fn ln bl fg : Addr) (spc fme lme fmx lmx : Int32) (ldr wme wmx : Int64) (hv spv fev : Value) (h0 : Heap) (n0 : Nat) (Z0 : n0 ≤ h0.size) (P0_ : Exa Z h0 ch sg3) (P1_ : xF8 Z h0 ch hv) (P2_ : xF9 Z h0 ch (.ref my)) (P3_ : xF10 Z h0 ch (.ref fn)) (P4_ : xF11 Z h0 ch (.ref ln)) (P5_ : xF12 Z h0 ch (.ref bl)) (P6_ : xF13 Z h0 ch spv) (P7_ : xF14 Z h0 ch (.int spc)) (P8_ : xF15 Z h0 ch (.long ldr)) (P9_ : xF16 Z h0 ch fev) (P10_ : xF17 Z h0 ch (.ref fg)) (P11_ : Exa Z h0 me sg0) (P12_ : xF0 Z h0 me (.ref my)) (P13_ : xF1 Z h0 me (.long wme)) (P14_ : xF2 Z h0 me (.int fme)) (P15_ : xF3 Z h0 me (.int lme)) (P16_ : Exa Z h0 mx sg0) (P17_ : xF0 Z h0 mx (.ref me)) (P18_ : xF1 Z h0 mx (.long wmx)) (P19_ : xF2 Z h0 mx (.int fmx)) (P20_ : xF3 Z h0 mx (.int lmx)) (P21_ : Exa Z h0 my sg0) (g_me : n0 ≤ me) (g_mx : n0 ≤ mx) (n_ch_me : ch ≠ me) (n_ch_mx : ch ≠ mx) (n_me_mx : me ≠ mx) (n_me_my : me ≠ my) (n_mx_my : mx ≠ my) :
  oMF l Z mn30 (Jvm.Cond.code mn30 prog_2_method_19_code 3 none) ws (rO 0 0 0 0) #[(.ref ch), (.ref mx), (.ref me)] h0 (Q_ulz1 Z ch mx me my fn ln bl fg spc fme lme fmx lmx ldr wme wmx hv spv fev h0 n0) := by
 refine MetFree.of_bodySF (plainFor_of_name pn_ordc) hisR ?_
 intro p e s m args below meth c s₁ Bd hml0 hP hK
 obtain ⟨rfl, hZ, hh⟩ := hP
 have hx := Bd.exec
 have hby := Bd.bytes
 have B : ∀ {pc r}, decode cd30 pc = r → decode c.code pc = r := fun h => hb hby h
 have hml : c.maxLocals = 3 := hml0
 have hown : s.vm.findClass sg3 = some m.cls := findClass_of_methodNamed Bd.named
 have hnm := (name_of_methodNamed Bd.named Bd.method).1
 have X0 : Stand p l e (rO 0 0 0 0) s m #[(.ref ch), (.ref mx), (.ref me)] below meth c s₁ [] 0 0 := Stand.of_body Bd
 have e0 : s₁.heap = h0 := by rw [← hh, Bd.state]; rfl
 have N0 := Fr.nil n0
 refine own_in ?_
 refine own_go (S' := s₁.setTop (mkF m 0 #[zr ch, zr mx, zr me] [])) (fun tgt_ stp_ => castTop (ef_ulz1 m ch mx me) stp_) ?_
 have K0 : Keep h0 h0 [me, mx] := Keep.refl h0 _
 obtain ⟨T_1, X_1, e_1, st_1⟩ := getF X0 hx hZ hown (oV hw 117 rfl) Via.refl e0 P12_ (g := (mkF m 17 #[zr ch, zr mx, zr me] [(.ref me), (.ref mx)])) rfl rfl (B d30_17)
 obtain ⟨T_2, h_2, X_2, e_2, W_2, st_2⟩ := putF X_1 hx hZ hown (oV hw 117 rfl) Via.refl e_1 P17_ P16_ (Or.inl (oW hw 118 rfl)) (oW hw 1 rfl) (ty := (.object sg0)) (by decide) rfl rfl (g := (mkF m 20 #[zr ch, zr mx, zr me] [(.ref my), (.ref mx)])) rfl rfl (B d30_20)
 obtain ⟨Lg_2, XG_2, N_2⟩ := own_gen X_2 (Fr.snoc X_2 N0 g_mx)
 have F_2 := P17_.same W_2
 have Z_3 := Nat.le_trans Z0 (Keep.of_wr W_2).1
 have K_4 : Keep h0 h_2 [me, mx] := K0.wr W_2 (oK 1 rfl)
 have f_5 := (P2_.other W_2 (Or.inl n_ch_mx))
 obtain ⟨T_6, X_6, e_6, st_6⟩ := getF XG_2 hx hZ hown (oV hw 94 rfl) Via.refl e_2 f_5 (g := (mkF m 24 #[zr ch, zr mx, zr me] [(.ref ch)])) rfl rfl (B d30_24)
 have f_7 := (P11_.wr W_2)
 have f_8 := (P12_.other W_2 (Or.inl n_me_mx))
 obtain ⟨T_9, h_9, X_9, e_9, W_9, st_9⟩ := putF X_6 hx hZ hown (oV hw 117 rfl) Via.refl e_6 f_8 f_7 (Or.inl (oW hw 118 rfl)) (oW hw 1 rfl) (ty := (.object sg0)) (by decide) rfl rfl (g := (mkF m 38 #[zr ch, zr mx, zr me] [.null, (.ref me)])) rfl rfl (B d30_38)
 obtain ⟨Lg_9, XG_9, N_9⟩ := own_gen X_9 (Fr.snoc X_9 N_2 g_me)
 have F_9 := f_8.same W_9
 have Z_10 := Nat.le_trans Z_3 (Keep.of_wr W_9).1
 have K_11 : Keep h0 h_9 [me, mx] := K_4.wr W_9 (oK 0 rfl)
 refine own_go (S' := T_9.setTop (mkF m 41 #[zr ch, zr mx, zr me] [])) (fun target kt => ?_) ?_
 ·
  show oSt p e below s₁ m 0 #[zr ch, zr mx, zr me] [] target
  refine XS.aloadN X0.here hx rfl (B d30_0) rfl rfl ?_
  refine XS.ifnonnullYes X0.here hx rfl (pc0 := 1) (pc' := 15) rfl (B d30_1) rfl (by decide) (by decide) ?_
  refine XS.aloadN X0.here hx rfl (B d30_15) rfl rfl ?_
  refine XS.aloadN X0.here hx rfl (B d30_16) rfl rfl ?_
  refine st_1 _ ?_
  refine st_2 _ ?_
  refine XS.aloadN XG_2.here hx rfl (B d30_23) rfl rfl ?_
  refine st_6 _ ?_
  refine XS.aloadN X_6.here hx rfl (B d30_27) rfl rfl ?_
  refine Jvm.RoadKit.acmp (g := (mkF m 28 #[zr ch, zr mx, zr me] [(.ref me), (.ref my)])) X_6 hx rfl rfl rfl (pc0 := 28) (pc' := 36) (same := false) rfl (B d30_28) rfl (decide_eq_false fun q => (Ne.symm n_me_my) (Value.ref.inj q)) (by decide) (by decide) ?_
  refine XS.aloadN X_6.here hx rfl (B d30_36) rfl rfl ?_
  refine XS.aconstNull X_6.here hx rfl (B d30_37) ?_
  refine st_9 _ ?_
  exact kt
 obtain ⟨fs, hr, hrun, hended, hW, hsame⟩ := XG_9.leave (v := none) (fun _ => rfl)
 refine ⟨_, _, XG_9.returnOut hx Bd.returns (B d30_41) hr, hrun, hended, _, _, rfl, ?_, ⟨_, rfl⟩, hW, hsame.mono (by decide) (by decide)⟩
 show Q_ulz1 Z ch mx me my fn ln bl fg spc fme lme fmx lmx ldr wme wmx hv spv fev h0 n0 _ T_9.heap _
 rw [e_9]
 have f_12 := (f_7.wr W_9)
 have f_13 := ((P13_.other W_2 (Or.inl n_me_mx)).other W_9 (Or.inr (sn_56 hw)))
 have f_14 := ((P14_.other W_2 (Or.inl n_me_mx)).other W_9 (Or.inr (sn_58 hw)))
 have f_15 := ((P15_.other W_2 (Or.inl n_me_mx)).other W_9 (Or.inr (sn_59 hw)))
 have f_16 := ((P16_.wr W_2).wr W_9)
 have f_17 := (F_2.other W_9 (Or.inl (Ne.symm n_me_mx)))
 have f_18 := ((P18_.other W_2 (Or.inr (sn_56 hw))).other W_9 (Or.inl (Ne.symm n_me_mx)))
 have f_19 := ((P19_.other W_2 (Or.inr (sn_58 hw))).other W_9 (Or.inl (Ne.symm n_me_mx)))
 have f_20 := ((P20_.other W_2 (Or.inr (sn_59 hw))).other W_9 (Or.inl (Ne.symm n_me_mx)))
 exact ⟨rfl, N_9, K_11, f_12, F_9, f_13, f_14, f_15, f_16, f_17, f_18, f_19, f_20⟩
-- com/example/carillon/carillon/Chain.unlinkFromLaneZero:(Lcom/example/carillon/carillon/Message;Lcom/example/carillon/carillon/Message;)V
theorem d30_31 : decode cd30 31 = .ok (.aload_n 0, 1) := by decide +kernel
theorem d30_32 : decode cd30 32 = .ok (.aload_n 1, 1) := by decide +kernel
theorem d30_33 : decode cd30 33 = .ok (.putfield 38, 3) := by decide +kernel
theorem ef_ulz2 (m : MethodId) (ch my me : Addr) : entryFrame m #[(.ref ch), (.ref my), (.ref me)] 3 = mkF m 0 #[.val (.ref ch), .val (.ref my), .val (.ref me)] [] := by first | (simp [entryFrame, mkF, argsToLocals, Value.category]; done) | rfl
def Q_ulz2 (Z : State) (ch my me fn ln bl fg : Addr) (spc fme lme fmy lmy : Int32) (ldr wme wmy : Int64) (hv spv fev : Value) (h0 : Heap) (n0 : Nat) (v : Option Value) (h : Heap) (L : List Loc) : Prop := v = none ∧ Fr n0 L ∧ Keep h0 h [ch, me, my] ∧ Exa Z h ch sg3 ∧ xF8 Z h ch hv ∧ xF9 Z h ch (.ref my) ∧ xF10 Z h ch (.ref fn) ∧ xF11 Z h ch (.ref ln) ∧ xF12 Z h ch (.ref bl) ∧ xF13 Z h ch spv ∧ xF14 Z h ch (.int spc) ∧ xF15 Z h ch (.long ldr) ∧ xF16 Z h ch fev ∧ xF17 Z h ch (.ref fg) ∧ Exa Z h me sg0 ∧ xF0 Z h me .null ∧ xF1 Z h me (.long wme) ∧ xF2 Z h me (.int fme) ∧ xF3 Z h me (.int lme) ∧ Exa Z h my sg0 ∧ xF0 Z h my .null ∧ xF1 Z h my (.long wmy) ∧ xF2 Z h my (.int fmy) ∧ xF3 Z h my (.int lmy)
set_option maxRecDepth 65536 in
set_option maxHeartbeats 40000000 in
theorem rm_ulz2 (l : Launch) (Z : State) (a0 : Array Value) (hw : hwT Z a0) (ws : List Jvm.Cond) (ch my me fn ln bl fg : Addr) (spc fme lme fmy lmy : Int32) (ldr wme wmy : Int64) (hv spv fev : Value) (h0 : Heap) (n0 : Nat) (Z0 : n0 ≤ h0.size) (P0_ : Exa Z h0 ch sg3) (P1_ : xF8 Z h0 ch hv) (P2_ : xF9 Z h0 ch (.ref me)) (P3_ : xF10 Z h0 ch (.ref fn)) (P4_ : xF11 Z h0 ch (.ref ln)) (P5_ : xF12 Z h0 ch (.ref bl)) (P6_ : xF13 Z h0 ch spv) (P7_ : xF14 Z h0 ch (.int spc)) (P8_ : xF15 Z h0 ch (.long ldr)) (P9_ : xF16 Z h0 ch fev) (P10_ : xF17 Z h0 ch (.ref fg)) (P11_ : Exa Z h0 me sg0) (P12_ : xF0 Z h0 me .null) (P13_ : xF1 Z h0 me (.long wme)) (P14_ : xF2 Z h0 me (.int fme)) (P15_ : xF3 Z h0 me (.int lme)) (P16_ : Exa Z h0 my sg0) (P17_ : xF0 Z h0 my (.ref me)) (P18_ : xF1 Z h0 my (.long wmy)) (P19_ : xF2 Z h0 my (.int fmy)) (P20_ : xF3 Z h0 my (.int lmy)) (g_ch : n0 ≤ ch) (g_me : n0 ≤ me) (g_my : n0 ≤ my) (n_ch_me : ch ≠ me) (n_ch_my : ch ≠ my) (n_me_my : me ≠ my) :
  oMF l Z mn30 (Jvm.Cond.code mn30 prog_2_method_19_code 3 none) ws (rO 0 0 0 0) #[(.ref ch), (.ref my), (.ref me)] h0 (Q_ulz2 Z ch my me fn ln bl fg spc fme lme fmy lmy ldr wme wmy hv spv fev h0 n0) := by
 refine MetFree.of_bodySF (plainFor_of_name pn_ordc) hisR ?_
 intro p e s m args below meth c s₁ Bd hml0 hP hK
 obtain ⟨rfl, hZ, hh⟩ := hP
 have hx := Bd.exec
 have hby := Bd.bytes
 have B : ∀ {pc r}, decode cd30 pc = r → decode c.code pc = r := fun h => hb hby h
 have hml : c.maxLocals = 3 := hml0
 have hown : s.vm.findClass sg3 = some m.cls := findClass_of_methodNamed Bd.named
 have hnm := (name_of_methodNamed Bd.named Bd.method).1
 have X0 : Stand p l e (rO 0 0 0 0) s m #[(.ref ch), (.ref my), (.ref me)] below meth c s₁ [] 0 0 := Stand.of_body Bd
 have e0 : s₁.heap = h0 := by rw [← hh, Bd.state]; rfl
 have N0 := Fr.nil n0
 refine own_in ?_
 refine own_go (S' := s₁.setTop (mkF m 0 #[zr ch, zr my, zr me] [])) (fun tgt_ stp_ => castTop (ef_ulz2 m ch my me) stp_) ?_
 have K0 : Keep h0 h0 [ch, me, my] := Keep.refl h0 _
 obtain ⟨T_1, X_1, e_1, st_1⟩ := getF X0 hx hZ hown (oV hw 117 rfl) Via.refl e0 P12_ (g := (mkF m 17 #[zr ch, zr my, zr me] [(.ref me), (.ref my)])) rfl rfl (B d30_17)
 obtain ⟨T_2, h_2, X_2, e_2, W_2, st_2⟩ := putF X_1 hx hZ hown (oV hw 117 rfl) Via.refl e_1 P17_ P16_ (Or.inl (oW hw 118 rfl)) (oW hw 1 rfl) (ty := (.object sg0)) (by decide) rfl rfl (g := (mkF m 20 #[zr ch, zr my, zr me] [.null, (.ref my)])) rfl rfl (B d30_20)
 obtain ⟨Lg_2, XG_2, N_2⟩ := own_gen X_2 (Fr.snoc X_2 N0 g_my)
 have F_2 := P17_.same W_2
 have Z_3 := Nat.le_trans Z0 (Keep.of_wr W_2).1
 have K_4 : Keep h0 h_2 [ch, me, my] := K0.wr W_2 (oK 2 rfl)
 have f_5 := (P2_.other W_2 (Or.inl n_ch_my))
 obtain ⟨T_6, X_6, e_6, st_6⟩ := getF XG_2 hx hZ hown (oV hw 94 rfl) Via.refl e_2 f_5 (g := (mkF m 24 #[zr ch, zr my, zr me] [(.ref ch)])) rfl rfl (B d30_24)
 have f_7 := (P0_.wr W_2)
 obtain ⟨T_8, h_8, X_8, e_8, W_8, st_8⟩ := putF X_6 hx hZ hown (oV hw 94 rfl) Via.refl e_6 f_5 f_7 (Or.inl (oW hw 95 rfl)) (oW hw 18 rfl) (ty := (.object sg0)) (by decide) rfl rfl (g := (mkF m 33 #[zr ch, zr my, zr me] [(.ref my), (.ref ch)])) rfl rfl (B d30_33)
 obtain ⟨Lg_8, XG_8, N_8⟩ := own_gen X_8 (Fr.snoc X_8 N_2 g_ch)
 have F_8 := f_5.same W_8
 have Z_9 := Nat.le_trans Z_3 (Keep.of_wr W_8).1
 have K_10 : Keep h0 h_8 [ch, me, my] := K_4.wr W_8 (oK 0 rfl)
 have f_11 := ((P11_.wr W_2).wr W_8)
 have f_12 := ((P12_.other W_2 (Or.inl n_me_my)).other W_8 (Or.inl (Ne.symm n_ch_me)))
 obtain ⟨T_13, h_13, X_13, e_13, W_13, st_13⟩ := putF XG_8 hx hZ hown (oV hw 117 rfl) Via.refl e_8 f_12 f_11 (Or.inl (oW hw 118 rfl)) (oW hw 1 rfl) (ty := (.object sg0)) (by decide) rfl rfl (g := (mkF m 38 #[zr ch, zr my, zr me] [.null, (.ref me)])) rfl rfl (B d30_38)
 obtain ⟨Lg_13, XG_13, N_13⟩ := own_gen X_13 (Fr.snoc X_13 N_8 g_me)
 have F_13 := f_12.same W_13
 have Z_14 := Nat.le_trans Z_9 (Keep.of_wr W_13).1
 have K_15 : Keep h0 h_13 [ch, me, my] := K_10.wr W_13 (oK 1 rfl)
 refine own_go (S' := T_13.setTop (mkF m 41 #[zr ch, zr my, zr me] [])) (fun target kt => ?_) ?_
 ·
  show oSt p e below s₁ m 0 #[zr ch, zr my, zr me] [] target
  refine XS.aloadN X0.here hx rfl (B d30_0) rfl rfl ?_
  refine XS.ifnonnullYes X0.here hx rfl (pc0 := 1) (pc' := 15) rfl (B d30_1) rfl (by decide) (by decide) ?_
  refine XS.aloadN X0.here hx rfl (B d30_15) rfl rfl ?_
  refine XS.aloadN X0.here hx rfl (B d30_16) rfl rfl ?_
  refine st_1 _ ?_
  refine st_2 _ ?_
  refine XS.aloadN XG_2.here hx rfl (B d30_23) rfl rfl ?_
  refine st_6 _ ?_
  refine XS.aloadN X_6.here hx rfl (B d30_27) rfl rfl ?_
  refine Jvm.RoadKit.acmp (g := (mkF m 28 #[zr ch, zr my, zr me] [(.ref me), (.ref me)])) X_6 hx rfl rfl rfl (pc0 := 28) (pc' := 31) (same := true) rfl (B d30_28) rfl (decide_eq_true rfl) (by decide) (by decide) ?_
  refine XS.aloadN X_6.here hx rfl (B d30_31) rfl rfl ?_
  refine XS.aloadN X_6.here hx rfl (B d30_32) rfl rfl ?_
  refine st_8 _ ?_
  refine XS.aloadN XG_8.here hx rfl (B d30_36) rfl rfl ?_
  refine XS.aconstNull XG_8.here hx rfl (B d30_37) ?_
  refine st_13 _ ?_
  exact kt
 obtain ⟨fs, hr, hrun, hended, hW, hsame⟩ := XG_13.leave (v := none) (fun _ => rfl)
 refine ⟨_, _, XG_13.returnOut hx Bd.returns (B d30_41) hr, hrun, hended, _, _, rfl, ?_, ⟨_, rfl⟩, hW, hsame.mono (by decide) (by decide)⟩
 show Q_ulz2 Z ch my me fn ln bl fg spc fme lme fmy lmy ldr wme wmy hv spv fev h0 n0 _ T_13.heap _
 rw [e_13]
 have f_16 := ((f_7.wr W_8).wr W_13)
 have f_17 := (((P1_.other W_2 (Or.inl n_ch_my)).other W_8 (Or.inr (sn_44 hw))).other W_13 (Or.inl n_ch_me))
 have f_18 := (F_8.other W_13 (Or.inl n_ch_me))
 have f_19 := (((P3_.other W_2 (Or.inl n_ch_my)).other W_8 (Or.inr (sn_43 hw))).other W_13 (Or.inl n_ch_me))
 have f_20 := (((P4_.other W_2 (Or.inl n_ch_my)).other W_8 (Or.inr (sn_39 hw))).other W_13 (Or.inl n_ch_me))
 have f_21 := (((P5_.other W_2 (Or.inl n_ch_my)).other W_8 (Or.inr (sn_46 hw))).other W_13 (Or.inl n_ch_me))
 have f_22 := (((P6_.other W_2 (Or.inl n_ch_my)).other W_8 (Or.inr (sn_41 hw))).other W_13 (Or.inl n_ch_me))
 have f_23 := (((P7_.other W_2 (Or.inl n_ch_my)).other W_8 (Or.inr (sn_48 hw))).other W_13 (Or.inl n_ch_me))
 have f_24 := (((P8_.other W_2 (Or.inl n_ch_my)).other W_8 (Or.inr (sn_50 hw))).other W_13 (Or.inl n_ch_me))
 have f_25 := (((P9_.other W_2 (Or.inl n_ch_my)).other W_8 (Or.inr (sn_52 hw))).other W_13 (Or.inl n_ch_me))
 have f_26 := (((P10_.other W_2 (Or.inl n_ch_my)).other W_8 (Or.inr (sn_54 hw))).other W_13 (Or.inl n_ch_me))
 have f_27 := (f_11.wr W_13)
 have f_28 := (((P13_.other W_2 (Or.inl n_me_my)).other W_8 (Or.inl (Ne.symm n_ch_me))).other W_13 (Or.inr (sn_56 hw)))
 have f_29 := (((P14_.other W_2 (Or.inl n_me_my)).other W_8 (Or.inl (Ne.symm n_ch_me))).other W_13 (Or.inr (sn_58 hw)))
 have f_30 := (((P15_.other W_2 (Or.inl n_me_my)).other W_8 (Or.inl (Ne.symm n_ch_me))).other W_13 (Or.inr (sn_59 hw)))
 have f_31 := (((P16_.wr W_2).wr W_8).wr W_13)
 have f_32 := ((F_2.other W_8 (Or.inl (Ne.symm n_ch_my))).other W_13 (Or.inl (Ne.symm n_me_my)))
 have f_33 := (((P18_.other W_2 (Or.inr (sn_56 hw))).other W_8 (Or.inl (Ne.symm n_ch_my))).other W_13 (Or.inl (Ne.symm n_me_my)))
 have f_34 := (((P19_.other W_2 (Or.inr (sn_58 hw))).other W_8 (Or.inl (Ne.symm n_ch_my))).other W_13 (Or.inl (Ne.symm n_me_my)))
 have f_35 := (((P20_.other W_2 (Or.inr (sn_59 hw))).other W_8 (Or.inl (Ne.symm n_ch_my))).other W_13 (Or.inl (Ne.symm n_me_my)))
 exact ⟨rfl, N_13, K_15, f_16, f_17, f_18, f_19, f_20, f_21, f_22, f_23, f_24, f_25, f_26, f_27, F_13, f_28, f_29, f_30, f_31, f_32, f_33, f_34, f_35⟩
-- com/example/carillon/carillon/Chain.take:(Lcom/example/carillon/carillon/Message;Lcom/example/carillon/carillon/Message;)Lcom/example/carillon/carillon/Message;
theorem d31_0 : decode cd31 0 = .ok (.aload_n 1, 1) := by decide +kernel
theorem d31_1 : decode cd31 1 = .ok (.ifnonnull 36, 3) := by decide +kernel
theorem d31_4 : decode cd31 4 = .ok (.iconst 1, 1) := by decide +kernel
theorem d31_5 : decode cd31 5 = .ok (.istore_n 3, 1) := by decide +kernel
theorem d31_6 : decode cd31 6 = .ok (.iload_n 3, 1) := by decide +kernel
theorem d31_7 : decode cd31 7 = .ok (.aload_n 2, 1) := by decide +kernel
theorem d31_8 : decode cd31 8 = .ok (.getfield 117, 3) := by decide +kernel
theorem d31_11 : decode cd31 11 = .ok (.if_icmp .ge 23, 3) := by decide +kernel
theorem d31_14 : decode cd31 14 = .ok (.aload_n 0, 1) := by decide +kernel
theorem d31_15 : decode cd31 15 = .ok (.iload_n 3, 1) := by decide +kernel
theorem d31_16 : decode cd31 16 = .ok (.aconst_null, 1) := by decide +kernel
theorem d31_17 : decode cd31 17 = .ok (.aload_n 0, 1) := by decide +kernel
theorem d31_18 : decode cd31 18 = .ok (.getfield 11, 3) := by decide +kernel
theorem d31_21 : decode cd31 21 = .ok (.iload_n 3, 1) := by decide +kernel
theorem d31_22 : decode cd31 22 = .ok (.iconst 1, 1) := by decide +kernel
theorem d31_23 : decode cd31 23 = .ok (.isub, 1) := by decide +kernel
theorem d31_24 : decode cd31 24 = .ok (.aaload, 1) := by decide +kernel
theorem d31_25 : decode cd31 25 = .ok (.invokevirtual 152, 3) := by decide +kernel
theorem d31_28 : decode cd31 28 = .ok (.iinc 3 1, 3) := by decide +kernel
theorem d31_31 : decode cd31 31 = .ok (.goto (-25), 3) := by decide +kernel
theorem d31_34 : decode cd31 34 = .ok (.goto 16, 3) := by decide +kernel
theorem d31_50 : decode cd31 50 = .ok (.aload_n 0, 1) := by decide +kernel
theorem d31_51 : decode cd31 51 = .ok (.aload_n 1, 1) := by decide +kernel
theorem d31_52 : decode cd31 52 = .ok (.aload_n 2, 1) := by decide +kernel
theorem d31_53 : decode cd31 53 = .ok (.invokevirtual 158, 3) := by decide +kernel
theorem d31_56 : decode cd31 56 = .ok (.aload_n 2, 1) := by decide +kernel
theorem d31_57 : decode cd31 57 = .ok (.areturn, 1) := by decide +kernel
theorem ef_take0 (m : MethodId) (ch me : Addr) : entryFrame m #[(.ref ch), .null, (.ref me)] 4 = mkF m 0 #[.val (.ref ch), .val .null, .val (.ref me), .unset] [] := by first | (simp [entryFrame, mkF, argsToLocals, Value.category]; done) | rfl
def Q_take0 (Z : State) (ch me my fn ln bl fg mx na nb mz : Addr) (kkf kkl : ClassId) (fme lme : Int32) (ldr wme : Int64) (fev : Value) (h0 : Heap) (n0 : Nat) (v : Option Value) (h : Heap) (L : List Loc) : Prop := ∃ (u0 : Value), ∃ (u1 : Value), ∃ (ev : Value), ∃ (ew : Value), ∃ (ra : Value), ∃ (rb : Value), ∃ (db : Value), ∃ (spv : Value), ∃ (spc : Int32), v = some (.ref me) ∧ Fr n0 L ∧ Keep h0 h [ch, fn, ln, na, nb, me] ∧ (own_TT lme mz u0 u1 ev ew ra rb db na nb) ∧ Exa Z h ch sg3 ∧ xF8 Z h ch (.ref mx) ∧ xF9 Z h ch (.ref my) ∧ xF10 Z h ch (.ref fn) ∧ xF11 Z h ch (.ref ln) ∧ xF12 Z h ch (.ref bl) ∧ xF13 Z h ch spv ∧ xF14 Z h ch (.int spc) ∧ xF15 Z h ch (.long ldr) ∧ xF16 Z h ch fev ∧ xF17 Z h ch (.ref fg) ∧ Exa Z h me sg0 ∧ xF0 Z h me .null ∧ xF1 Z h me (.long wme) ∧ xF2 Z h me (.int fme) ∧ xF3 Z h me (.int lme) ∧ aN Z h fn kkf u0 u1 ∧ Exa Z h na sg5 ∧ xF18 Z h na ev ∧ xF19 Z h na ra ∧ Exa Z h nb sg5 ∧ xF18 Z h nb ew ∧ xF19 Z h nb rb ∧ xF20 Z h nb db
set_option maxRecDepth 65536 in
set_option maxHeartbeats 40000000 in
theorem rm_take0 (l : Launch) (Z : State) (a0 : Array Value) (hw : hwT Z a0) (ws : List Jvm.Cond) (ch me my fn ln bl fg mx na nb mz : Addr) (kkf kkl : ClassId) (fme lme : Int32) (ldr wme : Int64) (fev : Value) (h0 : Heap) (n0 : Nat) (Z0 : n0 ≤ h0.size) (P0_ : Exa Z h0 ch sg3) (P1_ : xF8 Z h0 ch (.ref me)) (P2_ : xF9 Z h0 ch (.ref my)) (P3_ : xF10 Z h0 ch (.ref fn)) (P4_ : xF11 Z h0 ch (.ref ln)) (P5_ : xF12 Z h0 ch (.ref bl)) (P6_ : xF13 Z h0 ch .null) (P7_ : xF14 Z h0 ch (.int (0 : Int32))) (P8_ : xF15 Z h0 ch (.long ldr)) (P9_ : xF16 Z h0 ch fev) (P10_ : xF17 Z h0 ch (.ref fg)) (P11_ : Exa Z h0 me sg0) (P12_ : xF0 Z h0 me (.ref mx)) (P13_ : xF1 Z h0 me (.long wme)) (P14_ : xF2 Z h0 me (.int fme)) (P15_ : xF3 Z h0 me (.int lme)) (P16_ : Exa Z h0 my sg0) (P17_ : aN Z h0 fn kkf (.ref na) (.ref nb)) (P18_ : aN Z h0 ln kkl (.ref na) (.ref nb)) (P19_ : Exa Z h0 na sg5) (P20_ : xF18 Z h0 na (.ref mz)) (P21_ : xF19 Z h0 na .null) (P22_ : xF20 Z h0 na .null) (P23_ : Exa Z h0 nb sg5) (P24_ : xF18 Z h0 nb (.ref mz)) (P25_ : xF19 Z h0 nb .null) (P26_ : xF20 Z h0 nb (.ref na)) (Okkf : Ovr Z kkf sg5) (Okkl : Ovr Z kkl sg5) (g_ch : n0 ≤ ch) (g_fn : n0 ≤ fn) (g_ln : n0 ≤ ln) (g_na : n0 ≤ na) (g_nb : n0 ≤ nb) (g_me : n0 ≤ me) (n_ch_me : ch ≠ me) (n_ch_my : ch ≠ my) (n_ch_fn : ch ≠ fn) (n_ch_ln : ch ≠ ln) (n_ch_na : ch ≠ na) (n_ch_nb : ch ≠ nb) (n_me_my : me ≠ my) (n_me_fn : me ≠ fn) (n_me_ln : me ≠ ln) (n_me_na : me ≠ na) (n_me_nb : me ≠ nb) (n_my_fn : my ≠ fn) (n_my_ln : my ≠ ln) (n_my_na : my ≠ na) (n_my_nb : my ≠ nb) (n_fn_ln : fn ≠ ln) (n_fn_na : fn ≠ na) (n_fn_nb : fn ≠ nb) (n_ln_na : ln ≠ na) (n_ln_nb : ln ≠ nb) (n_na_nb : na ≠ nb) (hT : (own_T lme mz me)) :
  oMF l Z mn31 (Jvm.Cond.code mn31 prog_2_method_17_code 4 (some (.object sg0))) ws (rO 1 0 0 15) #[(.ref ch), .null, (.ref me)] h0 (Q_take0 Z ch me my fn ln bl fg mx na nb mz kkf kkl fme lme ldr wme fev h0 n0) := by
 refine MetFree.of_bodySF (plainFor_of_name pn_ordc) hisR ?_
 intro p e s m args below meth c s₁ Bd hml0 hP hK
 obtain ⟨rfl, hZ, hh⟩ := hP
 have hx := Bd.exec
 have hby := Bd.bytes
 have B : ∀ {pc r}, decode cd31 pc = r → decode c.code pc = r := fun h => hb hby h
 have hml : c.maxLocals = 4 := hml0
 have hown : s.vm.findClass sg3 = some m.cls := findClass_of_methodNamed Bd.named
 have hnm := (name_of_methodNamed Bd.named Bd.method).1
 have X0 : Stand p l e (rO 1 0 0 15) s m #[(.ref ch), .null, (.ref me)] below meth c s₁ [] 0 0 := Stand.of_body Bd
 have e0 : s₁.heap = h0 := by rw [← hh, Bd.state]; rfl
 have N0 := Fr.nil n0
 refine own_in ?_
 refine own_go (S' := s₁.setTop (mkF m 0 #[zr ch, zn, zr me, zu] [])) (fun tgt_ stp_ => castTop (ef_take0 m ch me) stp_) ?_
 have K0 : Keep h0 h0 [ch, fn, ln, na, nb, me] := Keep.refl h0 _
 rcases hT with rfl | ⟨rfl, rfl⟩
 ·
  skip
  obtain ⟨T_1, X_1, e_1, st_1⟩ := getF X0 hx hZ hown (oV hw 115 rfl) Via.refl e0 P15_ (g := (mkF m 8 #[zr ch, zn, zr me, zi 1] [(.ref me), (.int (1 : Int32))])) rfl rfl (B d31_8)
  obtain ⟨cq_2, q_2, q_2'⟩ := P0_.cell
  obtain ⟨_, _, ⟨T_2, L_2, k_2, n_2⟩, -, X_2, ⟨Lc_2, hQ_2, l_2, y_2, z_2⟩, st_2⟩ := X_1.privateBack hx (y := mn30) hown (oT hZ hw 173 rfl) (oT hZ hw 174 rfl) (psl_10 hZ hw) (oP hZ hw 175 rfl) (oT hZ hw 176 rfl) (by decide) (backOf (W := 0) (rm_ulz0 l Z a0 hw [] ch me my fn ln bl fg mx (0 : Int32) fme (1 : Int32) ldr wme .null fev h0 n0 Z0 P0_ P1_ P2_ P3_ P4_ P5_ P6_ P7_ P8_ P9_ P10_ P11_ P12_ P13_ P14_ P15_ P16_ g_ch g_me n_ch_me n_ch_my n_me_my) hZ (oW hw 176 rfl) (oW hw 19 rfl) (by decide) (by decide)) (g := (mkF m 53 #[zr ch, zn, zr me, zi 1] [(.ref me), .null, (.ref ch)])) rfl (by rw [hml]; rfl) (Steps.refl _) (a := ch) (by rw [e_1]; exact q_2) q_2' (argsL := [.null, (.ref me)]) (rest := []) (lenOf pd15 rfl) rfl (oQ rfl) (B d31_53) (fun _ _ => ⟨rfl, e_1, (by decide : 0 + 0 ≤ _), (by decide : 0 + 0 ≤ _)⟩)
  dsimp only [Pt.U, Pt.locs, Pt.cells, Pt.slots] at X_2 l_2 y_2 z_2 st_2 hQ_2
  subst y_2 z_2
  obtain ⟨rfl, N_2q, p_2_0, p_2_1, p_2_2, p_2_3, p_2_4, p_2_5, p_2_6, p_2_7, p_2_8, p_2_9, p_2_10, p_2_11, p_2_12, p_2_13, p_2_14, p_2_15, p_2_16⟩ := hQ_2
  have N_2 : Fr n0 L_2 := by rw [l_2]; exact Fr.app N0 N_2q
  clear l_2
  have Z_3 := Nat.le_trans Z0 p_2_0.1
  have K_4 : Keep h0 T_2.heap [ch, fn, ln, na, nb, me] := K0.trans p_2_0 fun x q => Or.inl (oM q 0 rfl fun q => oM1 q 5 rfl)
  refine own_go (S' := T_2.setTop (mkF m 57 #[zr ch, zn, zr me, zi 1] [(.ref me)])) (fun target kt => ?_) ?_
  ·
   show oSt p e below s₁ m 0 #[zr ch, zn, zr me, zu] [] target
   refine XS.aloadN X0.here hx rfl (B d31_0) rfl rfl ?_
   refine XS.ifnonnullNo X0.here hx rfl (B d31_1) rfl ?_
   refine XS.iconst X0.here hx rfl (B d31_4) ?_
   refine XS.istoreN X0.here hx rfl (B d31_5) rfl (l' := #[zr ch, zn, zr me, zi 1]) rfl ?_
   refine XS.iloadN X0.here hx rfl (B d31_6) rfl ?_
   refine XS.aloadN X0.here hx rfl (B d31_7) rfl rfl ?_
   refine st_1 _ ?_
   refine XS.icmpYes X_1.here hx rfl (pc0 := 11) (pc' := 34) rfl (B d31_11) rfl (flt (by decide : ¬ ((1 : Int32) < (1 : Int32)))).2.1 (by decide) (by decide) ?_
   refine XS.goto X_1.here hx rfl (pc0 := 34) (pc' := 50) rfl (B d31_34) (by decide) (by decide) ?_
   refine XS.aloadN X_1.here hx rfl (B d31_50) rfl rfl ?_
   refine XS.aloadN X_1.here hx rfl (B d31_51) rfl rfl ?_
   refine XS.aloadN X_1.here hx rfl (B d31_52) rfl rfl ?_
   refine st_2.trans ?_
   refine XS.aloadN X_2.here hx rfl (B d31_56) rfl rfl ?_
   exact kt
  obtain ⟨fs, hr, hrun, hended, hW, hsame⟩ := X_2.leave (v := some (.ref me)) (fun h => by rw [Bd.returns] at h; cases h)
  refine ⟨_, _, retOut X_2 hx Bd.returns rfl (Or.inr (Or.inr (Or.inr (Or.inr ⟨rfl, rfl, rfl⟩)))) (B d31_57) hr, hrun, hended, _, _, rfl, ?_, ⟨_, rfl⟩, hW, hsame.mono (by decide) (by decide)⟩
  show Q_take0 Z ch me my fn ln bl fg mx na nb mz kkf kkl fme (1 : Int32) ldr wme fev h0 n0 _ T_2.heap _
  have f_5 := (P17_.keep p_2_0 (oN1 (Ne.symm n_ch_fn) (oN1 (Ne.symm n_me_fn) oN)))
  have f_6 := (P19_.keep p_2_0)
  have f_7 := (P20_.keep p_2_0 (oN1 (Ne.symm n_ch_na) (oN1 (Ne.symm n_me_na) oN)))
  have f_8 := (P21_.keep p_2_0 (oN1 (Ne.symm n_ch_na) (oN1 (Ne.symm n_me_na) oN)))
  have f_9 := (P23_.keep p_2_0)
  have f_10 := (P24_.keep p_2_0 (oN1 (Ne.symm n_ch_nb) (oN1 (Ne.symm n_me_nb) oN)))
  have f_11 := (P25_.keep p_2_0 (oN1 (Ne.symm n_ch_nb) (oN1 (Ne.symm n_me_nb) oN)))
  have f_12 := (P26_.keep p_2_0 (oN1 (Ne.symm n_ch_nb) (oN1 (Ne.symm n_me_nb) oN)))
  exact ⟨(.ref na), (.ref nb), (.ref mz), (.ref mz), .null, .null, (.ref na), .null, (0 : Int32), rfl, N_2, K_4, (Or.inl ⟨rfl, rfl, rfl, rfl, rfl, rfl, rfl, rfl⟩), p_2_1, p_2_2, p_2_3, p_2_4, p_2_5, p_2_6, p_2_7, p_2_8, p_2_9, p_2_10, p_2_11, p_2_12, p_2_13, p_2_14, p_2_15, p_2_16, f_5, f_6, f_7, f_8, f_9, f_10, f_11, f_12⟩
 ·
  skip
  obtain ⟨T_13, X_13, e_13, st_13⟩ := getF X0 hx hZ hown (oV hw 115 rfl) Via.refl e0 P15_ (g := (mkF m 8 #[zr ch, zn, zr me, zi 1] [(.ref me), (.int (1 : Int32))])) rfl rfl (B d31_8)
  obtain ⟨T_14, X_14, e_14, st_14⟩ := getF X_13 hx hZ hown (oV hw 26 rfl) Via.refl e_13 P3_ (g := (mkF m 18 #[zr ch, zn, zr me, zi 1] [(.ref ch), .null, (.int (1 : Int32)), (.ref ch)])) rfl rfl (B d31_18)
  obtain ⟨c_15, Ar_15, q_15, S_15, M_15, Hs_15, G_15⟩ := id P17_
  have hin_15 : ¬ ((0 : Int32) < 0 ∨ c_15.slots.size ≤ ((0 : Int32)).toNatClampNeg) := inb_of S_15 ⟨by decide, by decide⟩
  have hat_15 : c_15.slots[((0 : Int32)).toNatClampNeg]? = some (.ref na) := Hs_15.at hin_15 rfl
  obtain ⟨cq_16, q_16, q_16'⟩ := P0_.cell
  obtain ⟨_, _, ⟨T_16, L_16, k_16, n_16⟩, -, X_16, ⟨Lc_16, hQ_16, l_16, y_16, z_16⟩, st_16⟩ := X_14.privateBack hx (y := mn28) hown (oT hZ hw 199 rfl) (oT hZ hw 200 rfl) (psl_9 hZ hw) (oP hZ hw 201 rfl) (oT hZ hw 202 rfl) (by decide) (backOf (W := 0) (rm_uln1 l Z a0 hw [] ch na fn ln bl fg kkf kkl (0 : Int32) ldr (.ref me) (.ref my) .null fev (.ref nb) (.ref nb) (.ref me) .null h0 n0 Z0 P0_ P1_ P2_ P3_ P4_ P5_ P6_ P7_ P8_ P9_ P10_ P17_ P18_ P19_ P20_ P21_ P22_ Okkf Okkl g_ch g_fn g_ln g_na n_ch_fn n_ch_ln n_ch_na n_fn_ln n_fn_na n_ln_na (by decide) rfl) hZ (oW hw 202 rfl) (oW hw 19 rfl) (by decide) (by decide)) (g := (mkF m 25 #[zr ch, zn, zr me, zi 1] [(.ref na), .null, (.int (1 : Int32)), (.ref ch)])) rfl (by rw [hml]; rfl) (Steps.refl _) (a := ch) (by rw [e_14]; exact q_16) q_16' (argsL := [(.int (1 : Int32)), .null, (.ref na)]) (rest := []) (lenOf pd8 rfl) rfl (oQ rfl) (B d31_25) (fun _ _ => ⟨rfl, e_14, (by decide : 0 + 0 ≤ _), (by decide : 0 + 0 ≤ _)⟩)
  dsimp only [Pt.U, Pt.locs, Pt.cells, Pt.slots] at X_16 l_16 y_16 z_16 st_16 hQ_16
  subst y_16 z_16
  obtain ⟨rfl, N_16q, p_16_0, p_16_1, p_16_2, p_16_3, p_16_4, p_16_5, p_16_6, p_16_7, p_16_8, p_16_9, p_16_10, p_16_11, p_16_12, p_16_13, p_16_14, p_16_15, p_16_16, p_16_17⟩ := hQ_16
  have N_16 : Fr n0 L_16 := by rw [l_16]; exact Fr.app N0 N_16q
  clear l_16
  have Z_17 := Nat.le_trans Z0 p_16_0.1
  have K_18 : Keep h0 T_16.heap [ch, fn, ln, na, nb, me] := K0.trans p_16_0 fun x q => Or.inl (oM q 0 rfl fun q => oM q 1 rfl fun q => oM q 2 rfl fun q => oM1 q 3 rfl)
  have f_19 := (P15_.keep p_16_0 (oN1 (Ne.symm n_ch_me) (oN1 n_me_fn (oN1 n_me_ln (oN1 n_me_na oN)))))
  obtain ⟨T_20, X_20, e_20, st_20⟩ := getF X_16 hx hZ hown (oV hw 115 rfl) Via.refl rfl f_19 (g := (mkF m 8 #[zr ch, zn, zr me, zi 2] [(.ref me), (.int (2 : Int32))])) rfl rfl (B d31_8)
  obtain ⟨T_21, X_21, e_21, st_21⟩ := getF X_20 hx hZ hown (oV hw 26 rfl) Via.refl e_20 p_16_4 (g := (mkF m 18 #[zr ch, zn, zr me, zi 2] [(.ref ch), .null, (.int (2 : Int32)), (.ref ch)])) rfl rfl (B d31_18)
  obtain ⟨c_22, Ar_22, q_22, S_22, M_22, Hs_22, G_22⟩ := id p_16_12
  have hin_22 : ¬ ((1 : Int32) < 0 ∨ c_22.slots.size ≤ ((1 : Int32)).toNatClampNeg) := inb_of S_22 ⟨by decide, by decide⟩
  have hat_22 : c_22.slots[((1 : Int32)).toNatClampNeg]? = some (.ref nb) := Hs_22.at hin_22 rfl
  have f_24 := (P23_.keep p_16_0)
  have f_25 := (P24_.keep p_16_0 (oN1 (Ne.symm n_ch_nb) (oN1 (Ne.symm n_fn_nb) (oN1 (Ne.symm n_ln_nb) (oN1 (Ne.symm n_na_nb) oN)))))
  have f_26 := (P25_.keep p_16_0 (oN1 (Ne.symm n_ch_nb) (oN1 (Ne.symm n_fn_nb) (oN1 (Ne.symm n_ln_nb) (oN1 (Ne.symm n_na_nb) oN)))))
  have f_27 := (P26_.keep p_16_0 (oN1 (Ne.symm n_ch_nb) (oN1 (Ne.symm n_fn_nb) (oN1 (Ne.symm n_ln_nb) (oN1 (Ne.symm n_na_nb) oN)))))
  obtain ⟨cq_23, q_23, q_23'⟩ := p_16_1.cell
  obtain ⟨_, _, ⟨T_23, L_23, k_23, n_23⟩, -, X_23, ⟨Lc_23, hQ_23, l_23, y_23, z_23⟩, st_23⟩ := X_21.privateBack hx (y := mn28) hown (oT hZ hw 199 rfl) (oT hZ hw 200 rfl) (psl_9 hZ hw) (oP hZ hw 201 rfl) (oT hZ hw 202 rfl) (by decide) (backOf (W := 0) (rm_uln2 l Z a0 hw [] ch nb fn ln bl fg kkf kkl ((0 : Int32) + (1 : Int32)) ldr (.ref me) (.ref my) (.ref na) fev .null .null (.ref me) (.ref na) T_16.heap n0 Z_17 p_16_1 p_16_2 p_16_3 p_16_4 p_16_5 p_16_6 p_16_7 p_16_8 p_16_9 p_16_10 p_16_11 p_16_12 p_16_13 f_24 f_25 f_26 f_27 Okkf Okkl g_ch g_fn g_ln g_nb n_ch_fn n_ch_ln n_ch_nb n_fn_ln n_fn_nb n_ln_nb (by decide) rfl) hZ (oW hw 202 rfl) (oW hw 19 rfl) (by decide) (by decide)) (g := (mkF m 25 #[zr ch, zn, zr me, zi 2] [(.ref nb), .null, (.int (2 : Int32)), (.ref ch)])) rfl (by rw [hml]; rfl) (Steps.refl _) (a := ch) (by rw [e_21]; exact q_23) q_23' (argsL := [(.int (2 : Int32)), .null, (.ref nb)]) (rest := []) (lenOf pd8 rfl) rfl (oQ rfl) (B d31_25) (fun _ _ => ⟨rfl, e_21, (by decide : 0 + 0 ≤ _), (by decide : 0 + 0 ≤ _)⟩)
  dsimp only [Pt.U, Pt.locs, Pt.cells, Pt.slots] at X_23 l_23 y_23 z_23 st_23 hQ_23
  subst y_23 z_23
  obtain ⟨rfl, N_23q, p_23_0, p_23_1, p_23_2, p_23_3, p_23_4, p_23_5, p_23_6, p_23_7, p_23_8, p_23_9, p_23_10, p_23_11, p_23_12, p_23_13, p_23_14, p_23_15, p_23_16, p_23_17⟩ := hQ_23
  have N_23 : Fr n0 L_23 := by rw [l_23]; exact Fr.app N_16 N_23q
  clear l_23
  have Z_28 := Nat.le_trans Z_17 p_23_0.1
  have K_29 : Keep h0 T_23.heap [ch, fn, ln, na, nb, me] := K_18.trans p_23_0 fun x q => Or.inl (oM q 0 rfl fun q => oM q 1 rfl fun q => oM q 2 rfl fun q => oM1 q 4 rfl)
  have f_30 := (f_19.keep p_23_0 (oN1 (Ne.symm n_ch_me) (oN1 n_me_fn (oN1 n_me_ln (oN1 n_me_nb oN)))))
  obtain ⟨T_31, X_31, e_31, st_31⟩ := getF X_23 hx hZ hown (oV hw 115 rfl) Via.refl rfl f_30 (g := (mkF m 8 #[zr ch, zn, zr me, zi 3] [(.ref me), (.int (3 : Int32))])) rfl rfl (B d31_8)
  have f_33 := ((P11_.keep p_16_0).keep p_23_0)
  have f_34 := ((P12_.keep p_16_0 (oN1 (Ne.symm n_ch_me) (oN1 n_me_fn (oN1 n_me_ln (oN1 n_me_na oN))))).keep p_23_0 (oN1 (Ne.symm n_ch_me) (oN1 n_me_fn (oN1 n_me_ln (oN1 n_me_nb oN)))))
  have f_35 := ((P13_.keep p_16_0 (oN1 (Ne.symm n_ch_me) (oN1 n_me_fn (oN1 n_me_ln (oN1 n_me_na oN))))).keep p_23_0 (oN1 (Ne.symm n_ch_me) (oN1 n_me_fn (oN1 n_me_ln (oN1 n_me_nb oN)))))
  have f_36 := ((P14_.keep p_16_0 (oN1 (Ne.symm n_ch_me) (oN1 n_me_fn (oN1 n_me_ln (oN1 n_me_na oN))))).keep p_23_0 (oN1 (Ne.symm n_ch_me) (oN1 n_me_fn (oN1 n_me_ln (oN1 n_me_nb oN)))))
  have f_37 := ((P16_.keep p_16_0).keep p_23_0)
  obtain ⟨cq_32, q_32, q_32'⟩ := p_23_1.cell
  obtain ⟨_, _, ⟨T_32, L_32, k_32, n_32⟩, -, X_32, ⟨Lc_32, hQ_32, l_32, y_32, z_32⟩, st_32⟩ := X_31.privateBack hx (y := mn30) hown (oT hZ hw 173 rfl) (oT hZ hw 174 rfl) (psl_10 hZ hw) (oP hZ hw 175 rfl) (oT hZ hw 176 rfl) (by decide) (backOf (W := 0) (rm_ulz0 l Z a0 hw [] ch me my fn ln bl fg mx (((0 : Int32) + (1 : Int32)) + (1 : Int32)) fme (3 : Int32) ldr wme (.ref nb) fev T_23.heap n0 Z_28 p_23_1 p_23_2 p_23_3 p_23_4 p_23_5 p_23_6 p_23_7 p_23_8 p_23_9 p_23_10 p_23_11 f_33 f_34 f_35 f_36 f_30 f_37 g_ch g_me n_ch_me n_ch_my n_me_my) hZ (oW hw 176 rfl) (oW hw 19 rfl) (by decide) (by decide)) (g := (mkF m 53 #[zr ch, zn, zr me, zi 3] [(.ref me), .null, (.ref ch)])) rfl (by rw [hml]; rfl) (Steps.refl _) (a := ch) (by rw [e_31]; exact q_32) q_32' (argsL := [.null, (.ref me)]) (rest := []) (lenOf pd15 rfl) rfl (oQ rfl) (B d31_53) (fun _ _ => ⟨rfl, e_31, (by decide : 0 + 0 ≤ _), (by decide : 0 + 0 ≤ _)⟩)
  dsimp only [Pt.U, Pt.locs, Pt.cells, Pt.slots] at X_32 l_32 y_32 z_32 st_32 hQ_32
  subst y_32 z_32
  obtain ⟨rfl, N_32q, p_32_0, p_32_1, p_32_2, p_32_3, p_32_4, p_32_5, p_32_6, p_32_7, p_32_8, p_32_9, p_32_10, p_32_11, p_32_12, p_32_13, p_32_14, p_32_15, p_32_16⟩ := hQ_32
  have N_32 : Fr n0 L_32 := by rw [l_32]; exact Fr.app N_23 N_32q
  clear l_32
  have Z_38 := Nat.le_trans Z_28 p_32_0.1
  have K_39 : Keep h0 T_32.heap [ch, fn, ln, na, nb, me] := K_29.trans p_32_0 fun x q => Or.inl (oM q 0 rfl fun q => oM1 q 5 rfl)
  refine own_go (S' := T_32.setTop (mkF m 57 #[zr ch, zn, zr me, zi 3] [(.ref me)])) (fun target kt => ?_) ?_
  ·
   show oSt p e below s₁ m 0 #[zr ch, zn, zr me, zu] [] target
   refine XS.aloadN X0.here hx rfl (B d31_0) rfl rfl ?_
   refine XS.ifnonnullNo X0.here hx rfl (B d31_1) rfl ?_
   refine XS.iconst X0.here hx rfl (B d31_4) ?_
   refine XS.istoreN X0.here hx rfl (B d31_5) rfl (l' := #[zr ch, zn, zr me, zi 1]) rfl ?_
   refine XS.iloadN X0.here hx rfl (B d31_6) rfl ?_
   refine XS.aloadN X0.here hx rfl (B d31_7) rfl rfl ?_
   refine st_13 _ ?_
   refine XS.icmpNo X_13.here hx rfl (B d31_11) rfl (tlt (by decide : (1 : Int32) < (3 : Int32))).2.1 ?_
   refine XS.aloadN X_13.here hx rfl (B d31_14) rfl rfl ?_
   refine XS.iloadN X_13.here hx rfl (B d31_15) rfl ?_
   refine XS.aconstNull X_13.here hx rfl (B d31_16) ?_
   refine XS.aloadN X_13.here hx rfl (B d31_17) rfl rfl ?_
   refine st_14 _ ?_
   refine XS.iloadN X_14.here hx rfl (B d31_21) rfl ?_
   refine XS.iconst X_14.here hx rfl (B d31_22) ?_
   refine XS.isub X_14.here hx rfl (B d31_23) rfl ?_
   show oSt p e below T_14 m 24 #[zr ch, zn, zr me, zi 1] [(.int ((1 : Int32) - (1 : Int32))), (.ref fn), .null, (.int (1 : Int32)), (.ref ch)] target
   rw [show (1 : Int32) - (1 : Int32) = (0 : Int32) from by decide]
   show oSt p e below T_14 m 24 #[zr ch, zn, zr me, zi 1] [(.int (0 : Int32)), (.ref fn), .null, (.int (1 : Int32)), (.ref ch)] target
   refine X_14.aaload hx (j := (0 : Int32)) (v := (.ref na)) (by rw [e_14]; exact Ar_15.1) (State.isArrayOf_alike hZ.alike Ar_15.2.1) rfl Ar_15.2.2 hin_15 hat_15 (g := (mkF m 24 #[zr ch, zn, zr me, zi 1] [(.int (0 : Int32)), (.ref fn), .null, (.int (1 : Int32)), (.ref ch)])) rfl rfl (B d31_24) _ ?_
   refine st_16.trans ?_
   refine XS.iinc X_16.here hx rfl (B d31_28) rfl (l' := #[zr ch, zn, zr me, .val (.int ((1 : Int32) + (1 : Int32)))]) rfl ?_
   show oSt p e below T_16 m 31 #[zr ch, zn, zr me, .val (.int ((1 : Int32) + (1 : Int32)))] [] target
   rw [show (1 : Int32) + (1 : Int32) = (2 : Int32) from by decide]
   show oSt p e below T_16 m 31 #[zr ch, zn, zr me, zi 2] [] target
   refine XS.goto X_16.here hx rfl (pc0 := 31) (pc' := 6) rfl (B d31_31) (by decide) (by decide) ?_
   refine XS.iloadN X_16.here hx rfl (B d31_6) rfl ?_
   refine XS.aloadN X_16.here hx rfl (B d31_7) rfl rfl ?_
   refine st_20 _ ?_
   refine XS.icmpNo X_20.here hx rfl (B d31_11) rfl (tlt (by decide : (2 : Int32) < (3 : Int32))).2.1 ?_
   refine XS.aloadN X_20.here hx rfl (B d31_14) rfl rfl ?_
   refine XS.iloadN X_20.here hx rfl (B d31_15) rfl ?_
   refine XS.aconstNull X_20.here hx rfl (B d31_16) ?_
   refine XS.aloadN X_20.here hx rfl (B d31_17) rfl rfl ?_
   refine st_21 _ ?_
   refine XS.iloadN X_21.here hx rfl (B d31_21) rfl ?_
   refine XS.iconst X_21.here hx rfl (B d31_22) ?_
   refine XS.isub X_21.here hx rfl (B d31_23) rfl ?_
   show oSt p e below T_21 m 24 #[zr ch, zn, zr me, zi 2] [(.int ((2 : Int32) - (1 : Int32))), (.ref fn), .null, (.int (2 : Int32)), (.ref ch)] target
   rw [show (2 : Int32) - (1 : Int32) = (1 : Int32) from by decide]
   show oSt p e below T_21 m 24 #[zr ch, zn, zr me, zi 2] [(.int (1 : Int32)), (.ref fn), .null, (.int (2 : Int32)), (.ref ch)] target
   refine X_21.aaload hx (j := (1 : Int32)) (v := (.ref nb)) (by rw [e_21]; exact Ar_22.1) (State.isArrayOf_alike hZ.alike Ar_22.2.1) rfl Ar_22.2.2 hin_22 hat_22 (g := (mkF m 24 #[zr ch, zn, zr me, zi 2] [(.int (1 : Int32)), (.ref fn), .null, (.int (2 : Int32)), (.ref ch)])) rfl rfl (B d31_24) _ ?_
   refine st_23.trans ?_
   refine XS.iinc X_23.here hx rfl (B d31_28) rfl (l' := #[zr ch, zn, zr me, .val (.int ((2 : Int32) + (1 : Int32)))]) rfl ?_
   show oSt p e below T_23 m 31 #[zr ch, zn, zr me, .val (.int ((2 : Int32) + (1 : Int32)))] [] target
   rw [show (2 : Int32) + (1 : Int32) = (3 : Int32) from by decide]
   show oSt p e below T_23 m 31 #[zr ch, zn, zr me, zi 3] [] target
   refine XS.goto X_23.here hx rfl (pc0 := 31) (pc' := 6) rfl (B d31_31) (by decide) (by decide) ?_
   refine XS.iloadN X_23.here hx rfl (B d31_6) rfl ?_
   refine XS.aloadN X_23.here hx rfl (B d31_7) rfl rfl ?_
   refine st_31 _ ?_
   refine XS.icmpYes X_31.here hx rfl (pc0 := 11) (pc' := 34) rfl (B d31_11) rfl (flt (by decide : ¬ ((3 : Int32) < (3 : Int32)))).2.1 (by decide) (by decide) ?_
   refine XS.goto X_31.here hx rfl (pc0 := 34) (pc' := 50) rfl (B d31_34) (by decide) (by decide) ?_
   refine XS.aloadN X_31.here hx rfl (B d31_50) rfl rfl ?_
   refine XS.aloadN X_31.here hx rfl (B d31_51) rfl rfl ?_
   refine XS.aloadN X_31.here hx rfl (B d31_52) rfl rfl ?_
   refine st_32.trans ?_
   refine XS.aloadN X_32.here hx rfl (B d31_56) rfl rfl ?_
   exact kt
  obtain ⟨fs, hr, hrun, hended, hW, hsame⟩ := X_32.leave (v := some (.ref me)) (fun h => by rw [Bd.returns] at h; cases h)
  refine ⟨_, _, retOut X_32 hx Bd.returns rfl (Or.inr (Or.inr (Or.inr (Or.inr ⟨rfl, rfl, rfl⟩)))) (B d31_57) hr, hrun, hended, _, _, rfl, ?_, ⟨_, rfl⟩, hW, hsame.mono (by decide) (by decide)⟩
  show Q_take0 Z ch me my fn ln bl fg mx na nb me kkf kkl fme (3 : Int32) ldr wme fev h0 n0 _ T_32.heap _
  have f_40 := (p_23_12.keep p_32_0 (oN1 (Ne.symm n_ch_fn) (oN1 (Ne.symm n_me_fn) oN)))
  have f_41 := ((p_16_14.keep p_23_0).keep p_32_0)
  have f_42 := ((p_16_15.keep p_23_0 (oN1 (Ne.symm n_ch_na) (oN1 (Ne.symm n_fn_na) (oN1 (Ne.symm n_ln_na) (oN1 n_na_nb oN))))).keep p_32_0 (oN1 (Ne.symm n_ch_na) (oN1 (Ne.symm n_me_na) oN)))
  have f_43 := ((p_16_16.keep p_23_0 (oN1 (Ne.symm n_ch_na) (oN1 (Ne.symm n_fn_na) (oN1 (Ne.symm n_ln_na) (oN1 n_na_nb oN))))).keep p_32_0 (oN1 (Ne.symm n_ch_na) (oN1 (Ne.symm n_me_na) oN)))
  have f_44 := (p_23_14.keep p_32_0)
  have f_45 := (p_23_15.keep p_32_0 (oN1 (Ne.symm n_ch_nb) (oN1 (Ne.symm n_me_nb) oN)))
  have f_46 := (p_23_16.keep p_32_0 (oN1 (Ne.symm n_ch_nb) (oN1 (Ne.symm n_me_nb) oN)))
  have f_47 := (p_23_17.keep p_32_0 (oN1 (Ne.symm n_ch_nb) (oN1 (Ne.symm n_me_nb) oN)))
  exact ⟨.null, .null, .null, .null, .null, (.ref na), .null, (.ref nb), (((0 : Int32) + (1 : Int32)) + (1 : Int32)), rfl, N_32, K_39, (Or.inr rfl), p_32_1, p_32_2, p_32_3, p_32_4, p_32_5, p_32_6, p_32_7, p_32_8, p_32_9, p_32_10, p_32_11, p_32_12, p_32_13, p_32_14, p_32_15, p_32_16, f_40, f_41, f_42, f_43, f_44, f_45, f_46, f_47⟩
-- com/example/carillon/carillon/Chain.take:(Lcom/example/carillon/carillon/Message;Lcom/example/carillon/carillon/Message;)Lcom/example/carillon/carillon/Message;
theorem d31_37 : decode cd31 37 = .ok (.aload_n 2, 1) := by decide +kernel
theorem d31_38 : decode cd31 38 = .ok (.getfield 117, 3) := by decide +kernel
theorem d31_41 : decode cd31 41 = .ok (.iconst 1, 1) := by decide +kernel
theorem d31_42 : decode cd31 42 = .ok (.if_icmp .le 8, 3) := by decide +kernel
theorem d31_45 : decode cd31 45 = .ok (.aload_n 0, 1) := by decide +kernel
theorem d31_46 : decode cd31 46 = .ok (.aload_n 2, 1) := by decide +kernel
theorem d31_47 : decode cd31 47 = .ok (.invokevirtual 155, 3) := by decide +kernel
theorem ef_take1 (m : MethodId) (ch mx me : Addr) : entryFrame m #[(.ref ch), (.ref mx), (.ref me)] 4 = mkF m 0 #[.val (.ref ch), .val (.ref mx), .val (.ref me), .unset] [] := by first | (simp [entryFrame, mkF, argsToLocals, Value.category]; done) | rfl
def Q_take1 (Z : State) (ch mx me my fn ln bl fg na nb mz : Addr) (kkf kkl : ClassId) (fme lme fmx lmx : Int32) (ldr wme wmx : Int64) (hv fev : Value) (h0 : Heap) (n0 : Nat) (v : Option Value) (h : Heap) (L : List Loc) : Prop := ∃ (u0 : Value), ∃ (u1 : Value), ∃ (ev : Value), ∃ (ew : Value), ∃ (ra : Value), ∃ (rb : Value), ∃ (db : Value), ∃ (spv : Value), ∃ (spc : Int32), v = some (.ref me) ∧ Fr n0 L ∧ Keep h0 h [ch, fn, ln, na, nb, me, mx] ∧ (own_TT lme mz u0 u1 ev ew ra rb db na nb) ∧ Exa Z h ch sg3 ∧ xF8 Z h ch hv ∧ xF9 Z h ch (.ref my) ∧ xF10 Z h ch (.ref fn) ∧ xF11 Z h ch (.ref ln) ∧ xF12 Z h ch (.ref bl) ∧ xF13 Z h ch spv ∧ xF14 Z h ch (.int spc) ∧ xF15 Z h ch (.long ldr) ∧ xF16 Z h ch fev ∧ xF17 Z h ch (.ref fg) ∧ Exa Z h me sg0 ∧ xF0 Z h me .null ∧ xF1 Z h me (.long wme) ∧ xF2 Z h me (.int fme) ∧ xF3 Z h me (.int lme) ∧ Exa Z h mx sg0 ∧ xF0 Z h mx (.ref my) ∧ xF1 Z h mx (.long wmx) ∧ xF2 Z h mx (.int fmx) ∧ xF3 Z h mx (.int lmx) ∧ aN Z h fn kkf u0 u1 ∧ Exa Z h na sg5 ∧ xF18 Z h na ev ∧ xF19 Z h na ra ∧ Exa Z h nb sg5 ∧ xF18 Z h nb ew ∧ xF19 Z h nb rb ∧ xF20 Z h nb db
set_option maxRecDepth 65536 in
set_option maxHeartbeats 40000000 in
theorem rm_take1 (l : Launch) (Z : State) (a0 : Array Value) (hw : hwT Z a0) (ws : List Jvm.Cond) (ch mx me my fn ln bl fg na nb mz : Addr) (kkf kkl : ClassId) (fme lme fmx lmx : Int32) (ldr wme wmx : Int64) (hv fev : Value) (h0 : Heap) (n0 : Nat) (Z0 : n0 ≤ h0.size) (P0_ : Exa Z h0 ch sg3) (P1_ : xF8 Z h0 ch hv) (P2_ : xF9 Z h0 ch (.ref my)) (P3_ : xF10 Z h0 ch (.ref fn)) (P4_ : xF11 Z h0 ch (.ref ln)) (P5_ : xF12 Z h0 ch (.ref bl)) (P6_ : xF13 Z h0 ch .null) (P7_ : xF14 Z h0 ch (.int (0 : Int32))) (P8_ : xF15 Z h0 ch (.long ldr)) (P9_ : xF16 Z h0 ch fev) (P10_ : xF17 Z h0 ch (.ref fg)) (P11_ : Exa Z h0 me sg0) (P12_ : xF0 Z h0 me (.ref my)) (P13_ : xF1 Z h0 me (.long wme)) (P14_ : xF2 Z h0 me (.int fme)) (P15_ : xF3 Z h0 me (.int lme)) (P16_ : Exa Z h0 mx sg0) (P17_ : xF0 Z h0 mx (.ref me)) (P18_ : xF1 Z h0 mx (.long wmx)) (P19_ : xF2 Z h0 mx (.int fmx)) (P20_ : xF3 Z h0 mx (.int lmx)) (P21_ : Exa Z h0 my sg0) (P22_ : aN Z h0 fn kkf (.ref na) (.ref nb)) (P23_ : aN Z h0 ln kkl (.ref na) (.ref nb)) (P24_ : Exa Z h0 na sg5) (P25_ : xF18 Z h0 na (.ref mz)) (P26_ : xF19 Z h0 na .null) (P27_ : xF20 Z h0 na .null) (P28_ : Exa Z h0 nb sg5) (P29_ : xF18 Z h0 nb (.ref mz)) (P30_ : xF19 Z h0 nb .null) (P31_ : xF20 Z h0 nb (.ref na)) (Okkf : Ovr Z kkf sg5) (Okkl : Ovr Z kkl sg5) (g_ch : n0 ≤ ch) (g_fn : n0 ≤ fn) (g_ln : n0 ≤ ln) (g_na : n0 ≤ na) (g_nb : n0 ≤ nb) (g_me : n0 ≤ me) (g_mx : n0 ≤ mx) (n_ch_me : ch ≠ me) (n_ch_mx : ch ≠ mx) (n_ch_my : ch ≠ my) (n_ch_fn : ch ≠ fn) (n_ch_ln : ch ≠ ln) (n_ch_na : ch ≠ na) (n_ch_nb : ch ≠ nb) (n_me_mx : me ≠ mx) (n_me_my : me ≠ my) (n_me_fn : me ≠ fn) (n_me_ln : me ≠ ln) (n_me_na : me ≠ na) (n_me_nb : me ≠ nb) (n_mx_my : mx ≠ my) (n_mx_fn : mx ≠ fn) (n_mx_ln : mx ≠ ln) (n_mx_na : mx ≠ na) (n_mx_nb : mx ≠ nb) (n_my_fn : my ≠ fn) (n_my_ln : my ≠ ln) (n_my_na : my ≠ na) (n_my_nb : my ≠ nb) (n_fn_ln : fn ≠ ln) (n_fn_na : fn ≠ na) (n_fn_nb : fn ≠ nb) (n_ln_na : ln ≠ na) (n_ln_nb : ln ≠ nb) (n_na_nb : na ≠ nb) (hT : (own_T lme mz me)) :
  oMF l Z mn31 (Jvm.Cond.code mn31 prog_2_method_17_code 4 (some (.object sg0))) ws (rO 2 0 0 33) #[(.ref ch), (.ref mx), (.ref me)] h0 (Q_take1 Z ch mx me my fn ln bl fg na nb mz kkf kkl fme lme fmx lmx ldr wme wmx hv fev h0 n0) := by
 refine MetFree.of_bodySF (plainFor_of_name pn_ordc) hisR ?_
 intro p e s m args below meth c s₁ Bd hml0 hP hK
 obtain ⟨rfl, hZ, hh⟩ := hP
 have hx := Bd.exec
 have hby := Bd.bytes
 have B : ∀ {pc r}, decode cd31 pc = r → decode c.code pc = r := fun h => hb hby h
 have hml : c.maxLocals = 4 := hml0
 have hown : s.vm.findClass sg3 = some m.cls := findClass_of_methodNamed Bd.named
 have hnm := (name_of_methodNamed Bd.named Bd.method).1
 have X0 : Stand p l e (rO 2 0 0 33) s m #[(.ref ch), (.ref mx), (.ref me)] below meth c s₁ [] 0 0 := Stand.of_body Bd
 have e0 : s₁.heap = h0 := by rw [← hh, Bd.state]; rfl
 have N0 := Fr.nil n0
 refine own_in ?_
 refine own_go (S' := s₁.setTop (mkF m 0 #[zr ch, zr mx, zr me, zu] [])) (fun tgt_ stp_ => castTop (ef_take1 m ch mx me) stp_) ?_
 have K0 : Keep h0 h0 [ch, fn, ln, na, nb, me, mx] := Keep.refl h0 _
 rcases hT with rfl | ⟨rfl, rfl⟩
 ·
  skip
  obtain ⟨T_1, X_1, e_1, st_1⟩ := getF X0 hx hZ hown (oV hw 115 rfl) Via.refl e0 P15_ (g := (mkF m 38 #[zr ch, zr mx, zr me, zu] [(.ref me)])) rfl rfl (B d31_38)
  obtain ⟨cq_2, q_2, q_2'⟩ := P0_.cell
  obtain ⟨_, _, ⟨T_2, L_2, k_2, n_2⟩, -, X_2, ⟨Lc_2, hQ_2, l_2, y_2, z_2⟩, st_2⟩ := X_1.privateBack hx (y := mn30) hown (oT hZ hw 173 rfl) (oT hZ hw 174 rfl) (psl_10 hZ hw) (oP hZ hw 175 rfl) (oT hZ hw 176 rfl) (by decide) (backOf (W := 0) (rm_ulz1 l Z a0 hw [] ch mx me my fn ln bl fg (0 : Int32) fme (1 : Int32) fmx lmx ldr wme wmx hv .null fev h0 n0 Z0 P0_ P1_ P2_ P3_ P4_ P5_ P6_ P7_ P8_ P9_ P10_ P11_ P12_ P13_ P14_ P15_ P16_ P17_ P18_ P19_ P20_ P21_ g_me g_mx n_ch_me n_ch_mx n_me_mx n_me_my n_mx_my) hZ (oW hw 176 rfl) (oW hw 19 rfl) (by decide) (by decide)) (g := (mkF m 53 #[zr ch, zr mx, zr me, zu] [(.ref me), (.ref mx), (.ref ch)])) rfl (by rw [hml]; rfl) (Steps.refl _) (a := ch) (by rw [e_1]; exact q_2) q_2' (argsL := [(.ref mx), (.ref me)]) (rest := []) (lenOf pd15 rfl) rfl (oQ rfl) (B d31_53) (fun _ _ => ⟨rfl, e_1, (by decide : 0 + 0 ≤ _), (by decide : 0 + 0 ≤ _)⟩)
  dsimp only [Pt.U, Pt.locs, Pt.cells, Pt.slots] at X_2 l_2 y_2 z_2 st_2 hQ_2
  subst y_2 z_2
  obtain ⟨rfl, N_2q, p_2_0, p_2_1, p_2_2, p_2_3, p_2_4, p_2_5, p_2_6, p_2_7, p_2_8, p_2_9, p_2_10⟩ := hQ_2
  have N_2 : Fr n0 L_2 := by rw [l_2]; exact Fr.app N0 N_2q
  clear l_2
  have Z_3 := Nat.le_trans Z0 p_2_0.1
  have K_4 : Keep h0 T_2.heap [ch, fn, ln, na, nb, me, mx] := K0.trans p_2_0 fun x q => Or.inl (oM q 5 rfl fun q => oM1 q 6 rfl)
  refine own_go (S' := T_2.setTop (mkF m 57 #[zr ch, zr mx, zr me, zu] [(.ref me)])) (fun target kt => ?_) ?_
  ·
   show oSt p e below s₁ m 0 #[zr ch, zr mx, zr me, zu] [] target
   refine XS.aloadN X0.here hx rfl (B d31_0) rfl rfl ?_
   refine XS.ifnonnullYes X0.here hx rfl (pc0 := 1) (pc' := 37) rfl (B d31_1) rfl (by decide) (by decide) ?_
   refine XS.aloadN X0.here hx rfl (B d31_37) rfl rfl ?_
   refine st_1 _ ?_
   refine XS.iconst X_1.here hx rfl (B d31_41) ?_
   refine XS.icmpYes X_1.here hx rfl (pc0 := 42) (pc' := 50) rfl (B d31_42) rfl (flt (by decide : ¬ ((1 : Int32) < (1 : Int32)))).2.2.2 (by decide) (by decide) ?_
   refine XS.aloadN X_1.here hx rfl (B d31_50) rfl rfl ?_
   refine XS.aloadN X_1.here hx rfl (B d31_51) rfl rfl ?_
   refine XS.aloadN X_1.here hx rfl (B d31_52) rfl rfl ?_
   refine st_2.trans ?_
   refine XS.aloadN X_2.here hx rfl (B d31_56) rfl rfl ?_
   exact kt
  obtain ⟨fs, hr, hrun, hended, hW, hsame⟩ := X_2.leave (v := some (.ref me)) (fun h => by rw [Bd.returns] at h; cases h)
  refine ⟨_, _, retOut X_2 hx Bd.returns rfl (Or.inr (Or.inr (Or.inr (Or.inr ⟨rfl, rfl, rfl⟩)))) (B d31_57) hr, hrun, hended, _, _, rfl, ?_, ⟨_, rfl⟩, hW, hsame.mono (by decide) (by decide)⟩
  show Q_take1 Z ch mx me my fn ln bl fg na nb mz kkf kkl fme (1 : Int32) fmx lmx ldr wme wmx hv fev h0 n0 _ T_2.heap _
  have f_5 := (P0_.keep p_2_0)
  have f_6 := (P1_.keep p_2_0 (oN1 n_ch_me (oN1 n_ch_mx oN)))
  have f_7 := (P2_.keep p_2_0 (oN1 n_ch_me (oN1 n_ch_mx oN)))
  have f_8 := (P3_.keep p_2_0 (oN1 n_ch_me (oN1 n_ch_mx oN)))
  have f_9 := (P4_.keep p_2_0 (oN1 n_ch_me (oN1 n_ch_mx oN)))
  have f_10 := (P5_.keep p_2_0 (oN1 n_ch_me (oN1 n_ch_mx oN)))
  have f_11 := (P6_.keep p_2_0 (oN1 n_ch_me (oN1 n_ch_mx oN)))
  have f_12 := (P7_.keep p_2_0 (oN1 n_ch_me (oN1 n_ch_mx oN)))
  have f_13 := (P8_.keep p_2_0 (oN1 n_ch_me (oN1 n_ch_mx oN)))
  have f_14 := (P9_.keep p_2_0 (oN1 n_ch_me (oN1 n_ch_mx oN)))
  have f_15 := (P10_.keep p_2_0 (oN1 n_ch_me (oN1 n_ch_mx oN)))
  have f_16 := (P22_.keep p_2_0 (oN1 (Ne.symm n_me_fn) (oN1 (Ne.symm n_mx_fn) oN)))
  have f_17 := (P24_.keep p_2_0)
  have f_18 := (P25_.keep p_2_0 (oN1 (Ne.symm n_me_na) (oN1 (Ne.symm n_mx_na) oN)))
  have f_19 := (P26_.keep p_2_0 (oN1 (Ne.symm n_me_na) (oN1 (Ne.symm n_mx_na) oN)))
  have f_20 := (P28_.keep p_2_0)
  have f_21 := (P29_.keep p_2_0 (oN1 (Ne.symm n_me_nb) (oN1 (Ne.symm n_mx_nb) oN)))
  have f_22 := (P30_.keep p_2_0 (oN1 (Ne.symm n_me_nb) (oN1 (Ne.symm n_mx_nb) oN)))
  have f_23 := (P31_.keep p_2_0 (oN1 (Ne.symm n_me_nb) (oN1 (Ne.symm n_mx_nb) oN)))
  exact ⟨(.ref na), (.ref nb), (.ref mz), (.ref mz), .null, .null, (.ref na), .null, (0 : Int32), rfl, N_2, K_4, (Or.inl ⟨rfl, rfl, rfl, rfl, rfl, rfl, rfl, rfl⟩), f_5, f_6, f_7, f_8, f_9, f_10, f_11, f_12, f_13, f_14, f_15, p_2_1, p_2_2, p_2_3, p_2_4, p_2_5, p_2_6, p_2_7, p_2_8, p_2_9, p_2_10, f_16, f_17, f_18, f_19, f_20, f_21, f_22, f_23⟩
 ·
  skip
  obtain ⟨T_24, X_24, e_24, st_24⟩ := getF X0 hx hZ hown (oV hw 115 rfl) Via.refl e0 P15_ (g := (mkF m 38 #[zr ch, zr mx, zr me, zu] [(.ref me)])) rfl rfl (B d31_38)
  obtain ⟨cq_25, q_25, q_25'⟩ := P0_.cell
  obtain ⟨_, _, ⟨T_25, L_25, k_25, n_25⟩, -, X_25, ⟨Lc_25, hQ_25, l_25, y_25, z_25⟩, st_25⟩ := X_24.privateBack hx (y := mn29) hown (oT hZ hw 195 rfl) (oT hZ hw 196 rfl) (psl_11 hZ hw) (oP hZ hw 197 rfl) (oT hZ hw 198 rfl) (by decide) (backOf (W := 0) (rm_ubs l Z a0 hw [] ch me fn ln bl fg na nb kkf kkl fme ldr wme hv (.ref my) fev (.ref my) h0 n0 Z0 P0_ P1_ P2_ P3_ P4_ P5_ P6_ P7_ P8_ P9_ P10_ P22_ P23_ P24_ P25_ P26_ P27_ P28_ P29_ P30_ P31_ P11_ P12_ P13_ P14_ P15_ Okkf Okkl g_ch g_fn g_ln g_na g_nb n_ch_fn n_ch_ln n_ch_na n_ch_nb n_ch_me n_fn_ln n_fn_na n_fn_nb (Ne.symm n_me_fn) n_ln_na n_ln_nb (Ne.symm n_me_ln) n_na_nb (Ne.symm n_me_na) (Ne.symm n_me_nb)) hZ (oW hw 198 rfl) (oW hw 19 rfl) (by decide) (by decide)) (g := (mkF m 47 #[zr ch, zr mx, zr me, zu] [(.ref me), (.ref ch)])) rfl (by rw [hml]; rfl) (Steps.refl _) (a := ch) (by rw [e_24]; exact q_25) q_25' (argsL := [(.ref me)]) (rest := []) (lenOf pd12 rfl) rfl (oQ rfl) (B d31_47) (fun _ _ => ⟨rfl, e_24, (by decide : 0 + 0 ≤ _), (by decide : 0 + 0 ≤ _)⟩)
  dsimp only [Pt.U, Pt.locs, Pt.cells, Pt.slots] at X_25 l_25 y_25 z_25 st_25 hQ_25
  subst y_25 z_25
  obtain ⟨rfl, N_25q, p_25_0, p_25_1, p_25_2, p_25_3, p_25_4, p_25_5, p_25_6, p_25_7, p_25_8, p_25_9, p_25_10, p_25_11, p_25_12, p_25_13, p_25_14, p_25_15, p_25_16, p_25_17, p_25_18, p_25_19, p_25_20, p_25_21⟩ := hQ_25
  have N_25 : Fr n0 L_25 := by rw [l_25]; exact Fr.app N0 N_25q
  clear l_25
  have Z_26 := Nat.le_trans Z0 p_25_0.1
  have K_27 : Keep h0 T_25.heap [ch, fn, ln, na, nb, me, mx] := K0.trans p_25_0 fun x q => Or.inl (oM q 0 rfl fun q => oM q 1 rfl fun q => oM q 2 rfl fun q => oM q 3 rfl fun q => oM1 q 4 rfl)
  have f_29 := (P11_.keep p_25_0)
  have f_30 := (P12_.keep p_25_0 (oN1 (Ne.symm n_ch_me) (oN1 n_me_fn (oN1 n_me_ln (oN1 n_me_na (oN1 n_me_nb oN))))))
  have f_31 := (P13_.keep p_25_0 (oN1 (Ne.symm n_ch_me) (oN1 n_me_fn (oN1 n_me_ln (oN1 n_me_na (oN1 n_me_nb oN))))))
  have f_32 := (P14_.keep p_25_0 (oN1 (Ne.symm n_ch_me) (oN1 n_me_fn (oN1 n_me_ln (oN1 n_me_na (oN1 n_me_nb oN))))))
  have f_33 := (P15_.keep p_25_0 (oN1 (Ne.symm n_ch_me) (oN1 n_me_fn (oN1 n_me_ln (oN1 n_me_na (oN1 n_me_nb oN))))))
  have f_34 := (P16_.keep p_25_0)
  have f_35 := (P17_.keep p_25_0 (oN1 (Ne.symm n_ch_mx) (oN1 n_mx_fn (oN1 n_mx_ln (oN1 n_mx_na (oN1 n_mx_nb oN))))))
  have f_36 := (P18_.keep p_25_0 (oN1 (Ne.symm n_ch_mx) (oN1 n_mx_fn (oN1 n_mx_ln (oN1 n_mx_na (oN1 n_mx_nb oN))))))
  have f_37 := (P19_.keep p_25_0 (oN1 (Ne.symm n_ch_mx) (oN1 n_mx_fn (oN1 n_mx_ln (oN1 n_mx_na (oN1 n_mx_nb oN))))))
  have f_38 := (P20_.keep p_25_0 (oN1 (Ne.symm n_ch_mx) (oN1 n_mx_fn (oN1 n_mx_ln (oN1 n_mx_na (oN1 n_mx_nb oN))))))
  have f_39 := (P21_.keep p_25_0)
  obtain ⟨cq_28, q_28, q_28'⟩ := p_25_1.cell
  obtain ⟨_, _, ⟨T_28, L_28, k_28, n_28⟩, -, X_28, ⟨Lc_28, hQ_28, l_28, y_28, z_28⟩, st_28⟩ := X_25.privateBack hx (y := mn30) hown (oT hZ hw 173 rfl) (oT hZ hw 174 rfl) (psl_10 hZ hw) (oP hZ hw 175 rfl) (oT hZ hw 176 rfl) (by decide) (backOf (W := 0) (rm_ulz1 l Z a0 hw [] ch mx me my fn ln bl fg (((0 : Int32) + (1 : Int32)) + (1 : Int32)) fme (3 : Int32) fmx lmx ldr wme wmx hv (.ref na) fev T_25.heap n0 Z_26 p_25_1 p_25_2 p_25_3 p_25_4 p_25_5 p_25_6 p_25_7 p_25_8 p_25_9 p_25_10 p_25_11 f_29 f_30 f_31 f_32 f_33 f_34 f_35 f_36 f_37 f_38 f_39 g_me g_mx n_ch_me n_ch_mx n_me_mx n_me_my n_mx_my) hZ (oW hw 176 rfl) (oW hw 19 rfl) (by decide) (by decide)) (g := (mkF m 53 #[zr ch, zr mx, zr me, zu] [(.ref me), (.ref mx), (.ref ch)])) rfl (by rw [hml]; rfl) (Steps.refl _) (a := ch) q_28 q_28' (argsL := [(.ref mx), (.ref me)]) (rest := []) (lenOf pd15 rfl) rfl (oQ rfl) (B d31_53) (fun _ _ => ⟨rfl, rfl, (by decide : 0 + 0 ≤ _), (by decide : 0 + 0 ≤ _)⟩)
  dsimp only [Pt.U, Pt.locs, Pt.cells, Pt.slots] at X_28 l_28 y_28 z_28 st_28 hQ_28
  subst y_28 z_28
  obtain ⟨rfl, N_28q, p_28_0, p_28_1, p_28_2, p_28_3, p_28_4, p_28_5, p_28_6, p_28_7, p_28_8, p_28_9, p_28_10⟩ := hQ_28
  have N_28 : Fr n0 L_28 := by rw [l_28]; exact Fr.app N_25 N_28q
  clear l_28
  have Z_40 := Nat.le_trans Z_26 p_28_0.1
  have K_41 : Keep h0 T_28.heap [ch, fn, ln, na, nb, me, mx] := K_27.trans p_28_0 fun x q => Or.inl (oM q 5 rfl fun q => oM1 q 6 rfl)
  refine own_go (S' := T_28.setTop (mkF m 57 #[zr ch, zr mx, zr me, zu] [(.ref me)])) (fun target kt => ?_) ?_
  ·
   show oSt p e below s₁ m 0 #[zr ch, zr mx, zr me, zu] [] target
   refine XS.aloadN X0.here hx rfl (B d31_0) rfl rfl ?_
   refine XS.ifnonnullYes X0.here hx rfl (pc0 := 1) (pc' := 37) rfl (B d31_1) rfl (by decide) (by decide) ?_
   refine XS.aloadN X0.here hx rfl (B d31_37) rfl rfl ?_
   refine st_24 _ ?_
   refine XS.iconst X_24.here hx rfl (B d31_41) ?_
   refine XS.icmpNo X_24.here hx rfl (B d31_42) rfl (tlt (by decide : (1 : Int32) < (3 : Int32))).2.2.2 ?_
   refine XS.aloadN X_24.here hx rfl (B d31_45) rfl rfl ?_
   refine XS.aloadN X_24.here hx rfl (B d31_46) rfl rfl ?_
   refine st_25.trans ?_
   refine XS.aloadN X_25.here hx rfl (B d31_50) rfl rfl ?_
   refine XS.aloadN X_25.here hx rfl (B d31_51) rfl rfl ?_
   refine XS.aloadN X_25.here hx rfl (B d31_52) rfl rfl ?_
   refine st_28.trans ?_
   refine XS.aloadN X_28.here hx rfl (B d31_56) rfl rfl ?_
   exact kt
  obtain ⟨fs, hr, hrun, hended, hW, hsame⟩ := X_28.leave (v := some (.ref me)) (fun h => by rw [Bd.returns] at h; cases h)
  refine ⟨_, _, retOut X_28 hx Bd.returns rfl (Or.inr (Or.inr (Or.inr (Or.inr ⟨rfl, rfl, rfl⟩)))) (B d31_57) hr, hrun, hended, _, _, rfl, ?_, ⟨_, rfl⟩, hW, hsame.mono (by decide) (by decide)⟩
  show Q_take1 Z ch mx me my fn ln bl fg na nb me kkf kkl fme (3 : Int32) fmx lmx ldr wme wmx hv fev h0 n0 _ T_28.heap _
  have f_42 := (p_25_1.keep p_28_0)
  have f_43 := (p_25_2.keep p_28_0 (oN1 n_ch_me (oN1 n_ch_mx oN)))
  have f_44 := (p_25_3.keep p_28_0 (oN1 n_ch_me (oN1 n_ch_mx oN)))
  have f_45 := (p_25_4.keep p_28_0 (oN1 n_ch_me (oN1 n_ch_mx oN)))
  have f_46 := (p_25_5.keep p_28_0 (oN1 n_ch_me (oN1 n_ch_mx oN)))
  have f_47 := (p_25_6.keep p_28_0 (oN1 n_ch_me (oN1 n_ch_mx oN)))
  have f_48 := (p_25_7.keep p_28_0 (oN1 n_ch_me (oN1 n_ch_mx oN)))
  have f_49 := (p_25_8.keep p_28_0 (oN1 n_ch_me (oN1 n_ch_mx oN)))
  have f_50 := (p_25_9.keep p_28_0 (oN1 n_ch_me (oN1 n_ch_mx oN)))
  have f_51 := (p_25_10.keep p_28_0 (oN1 n_ch_me (oN1 n_ch_mx oN)))
  have f_52 := (p_25_11.keep p_28_0 (oN1 n_ch_me (oN1 n_ch_mx oN)))
  have f_53 := (p_25_12.keep p_28_0 (oN1 (Ne.symm n_me_fn) (oN1 (Ne.symm n_mx_fn) oN)))
  have f_54 := (p_25_14.keep p_28_0)
  have f_55 := (p_25_15.keep p_28_0 (oN1 (Ne.symm n_me_na) (oN1 (Ne.symm n_mx_na) oN)))
  have f_56 := (p_25_16.keep p_28_0 (oN1 (Ne.symm n_me_na) (oN1 (Ne.symm n_mx_na) oN)))
  have f_57 := (p_25_18.keep p_28_0)
  have f_58 := (p_25_19.keep p_28_0 (oN1 (Ne.symm n_me_nb) (oN1 (Ne.symm n_mx_nb) oN)))
  have f_59 := (p_25_20.keep p_28_0 (oN1 (Ne.symm n_me_nb) (oN1 (Ne.symm n_mx_nb) oN)))
  have f_60 := (p_25_21.keep p_28_0 (oN1 (Ne.symm n_me_nb) (oN1 (Ne.symm n_mx_nb) oN)))
  exact ⟨.null, .null, .null, .null, (.ref nb), .null, .null, (.ref na), (((0 : Int32) + (1 : Int32)) + (1 : Int32)), rfl, N_28, K_41, (Or.inr rfl), f_42, f_43, f_44, f_45, f_46, f_47, f_48, f_49, f_50, f_51, f_52, p_28_1, p_28_2, p_28_3, p_28_4, p_28_5, p_28_6, p_28_7, p_28_8, p_28_9, p_28_10, f_53, f_54, f_55, f_56, f_57, f_58, f_59, f_60⟩
-- com/example/carillon/carillon/Chain.take:(Lcom/example/carillon/carillon/Message;Lcom/example/carillon/carillon/Message;)Lcom/example/carillon/carillon/Message;
theorem ef_take2 (m : MethodId) (ch my me : Addr) : entryFrame m #[(.ref ch), (.ref my), (.ref me)] 4 = mkF m 0 #[.val (.ref ch), .val (.ref my), .val (.ref me), .unset] [] := by first | (simp [entryFrame, mkF, argsToLocals, Value.category]; done) | rfl
def Q_take2 (Z : State) (ch my me fn ln bl fg na nb mz : Addr) (kkf kkl : ClassId) (fme lme fmy lmy : Int32) (ldr wme wmy : Int64) (hv fev : Value) (h0 : Heap) (n0 : Nat) (v : Option Value) (h : Heap) (L : List Loc) : Prop := ∃ (u0 : Value), ∃ (u1 : Value), ∃ (ev : Value), ∃ (ew : Value), ∃ (ra : Value), ∃ (rb : Value), ∃ (db : Value), ∃ (spv : Value), ∃ (spc : Int32), v = some (.ref me) ∧ Fr n0 L ∧ Keep h0 h [ch, fn, ln, na, nb, me, my] ∧ (own_TT lme mz u0 u1 ev ew ra rb db na nb) ∧ Exa Z h ch sg3 ∧ xF8 Z h ch hv ∧ xF9 Z h ch (.ref my) ∧ xF10 Z h ch (.ref fn) ∧ xF11 Z h ch (.ref ln) ∧ xF12 Z h ch (.ref bl) ∧ xF13 Z h ch spv ∧ xF14 Z h ch (.int spc) ∧ xF15 Z h ch (.long ldr) ∧ xF16 Z h ch fev ∧ xF17 Z h ch (.ref fg) ∧ Exa Z h me sg0 ∧ xF0 Z h me .null ∧ xF1 Z h me (.long wme) ∧ xF2 Z h me (.int fme) ∧ xF3 Z h me (.int lme) ∧ Exa Z h my sg0 ∧ xF0 Z h my .null ∧ xF1 Z h my (.long wmy) ∧ xF2 Z h my (.int fmy) ∧ xF3 Z h my (.int lmy) ∧ aN Z h fn kkf u0 u1 ∧ Exa Z h na sg5 ∧ xF18 Z h na ev ∧ xF19 Z h na ra ∧ Exa Z h nb sg5 ∧ xF18 Z h nb ew ∧ xF19 Z h nb rb ∧ xF20 Z h nb db
set_option maxRecDepth 65536 in
set_option maxHeartbeats 40000000 in
theorem rm_take2 (l : Launch) (Z : State) (a0 : Array Value) (hw : hwT Z a0) (ws : List Jvm.Cond) (ch my me fn ln bl fg na nb mz : Addr) (kkf kkl : ClassId) (fme lme fmy lmy : Int32) (ldr wme wmy : Int64) (hv fev : Value) (h0 : Heap) (n0 : Nat) (Z0 : n0 ≤ h0.size) (P0_ : Exa Z h0 ch sg3) (P1_ : xF8 Z h0 ch hv) (P2_ : xF9 Z h0 ch (.ref me)) (P3_ : xF10 Z h0 ch (.ref fn)) (P4_ : xF11 Z h0 ch (.ref ln)) (P5_ : xF12 Z h0 ch (.ref bl)) (P6_ : xF13 Z h0 ch .null) (P7_ : xF14 Z h0 ch (.int (0 : Int32))) (P8_ : xF15 Z h0 ch (.long ldr)) (P9_ : xF16 Z h0 ch fev) (P10_ : xF17 Z h0 ch (.ref fg)) (P11_ : Exa Z h0 me sg0) (P12_ : xF0 Z h0 me .null) (P13_ : xF1 Z h0 me (.long wme)) (P14_ : xF2 Z h0 me (.int fme)) (P15_ : xF3 Z h0 me (.int lme)) (P16_ : Exa Z h0 my sg0) (P17_ : xF0 Z h0 my (.ref me)) (P18_ : xF1 Z h0 my (.long wmy)) (P19_ : xF2 Z h0 my (.int fmy)) (P20_ : xF3 Z h0 my (.int lmy)) (P21_ : aN Z h0 fn kkf (.ref na) (.ref nb)) (P22_ : aN Z h0 ln kkl (.ref na) (.ref nb)) (P23_ : Exa Z h0 na sg5) (P24_ : xF18 Z h0 na (.ref mz)) (P25_ : xF19 Z h0 na .null) (P26_ : xF20 Z h0 na .null) (P27_ : Exa Z h0 nb sg5) (P28_ : xF18 Z h0 nb (.ref mz)) (P29_ : xF19 Z h0 nb .null) (P30_ : xF20 Z h0 nb (.ref na)) (Okkf : Ovr Z kkf sg5) (Okkl : Ovr Z kkl sg5) (g_ch : n0 ≤ ch) (g_fn : n0 ≤ fn) (g_ln : n0 ≤ ln) (g_na : n0 ≤ na) (g_nb : n0 ≤ nb) (g_me : n0 ≤ me) (g_my : n0 ≤ my) (n_ch_me : ch ≠ me) (n_ch_my : ch ≠ my) (n_ch_fn : ch ≠ fn) (n_ch_ln : ch ≠ ln) (n_ch_na : ch ≠ na) (n_ch_nb : ch ≠ nb) (n_me_my : me ≠ my) (n_me_fn : me ≠ fn) (n_me_ln : me ≠ ln) (n_me_na : me ≠ na) (n_me_nb : me ≠ nb) (n_my_fn : my ≠ fn) (n_my_ln : my ≠ ln) (n_my_na : my ≠ na) (n_my_nb : my ≠ nb) (n_fn_ln : fn ≠ ln) (n_fn_na : fn ≠ na) (n_fn_nb : fn ≠ nb) (n_ln_na : ln ≠ na) (n_ln_nb : ln ≠ nb) (n_na_nb : na ≠ nb) (hT : (own_T lme mz me)) :
  oMF l Z mn31 (Jvm.Cond.code mn31 prog_2_method_17_code 4 (some (.object sg0))) ws (rO 2 0 0 33) #[(.ref ch), (.ref my), (.ref me)] h0 (Q_take2 Z ch my me fn ln bl fg na nb mz kkf kkl fme lme fmy lmy ldr wme wmy hv fev h0 n0) := by
 refine MetFree.of_bodySF (plainFor_of_name pn_ordc) hisR ?_
 intro p e s m args below meth c s₁ Bd hml0 hP hK
 obtain ⟨rfl, hZ, hh⟩ := hP
 have hx := Bd.exec
 have hby := Bd.bytes
 have B : ∀ {pc r}, decode cd31 pc = r → decode c.code pc = r := fun h => hb hby h
 have hml : c.maxLocals = 4 := hml0
 have hown : s.vm.findClass sg3 = some m.cls := findClass_of_methodNamed Bd.named
 have hnm := (name_of_methodNamed Bd.named Bd.method).1
 have X0 : Stand p l e (rO 2 0 0 33) s m #[(.ref ch), (.ref my), (.ref me)] below meth c s₁ [] 0 0 := Stand.of_body Bd
 have e0 : s₁.heap = h0 := by rw [← hh, Bd.state]; rfl
 have N0 := Fr.nil n0
 refine own_in ?_
 refine own_go (S' := s₁.setTop (mkF m 0 #[zr ch, zr my, zr me, zu] [])) (fun tgt_ stp_ => castTop (ef_take2 m ch my me) stp_) ?_
 have K0 : Keep h0 h0 [ch, fn, ln, na, nb, me, my] := Keep.refl h0 _
 rcases hT with rfl | ⟨rfl, rfl⟩
 ·
  skip
  obtain ⟨T_1, X_1, e_1, st_1⟩ := getF X0 hx hZ hown (oV hw 115 rfl) Via.refl e0 P15_ (g := (mkF m 38 #[zr ch, zr my, zr me, zu] [(.ref me)])) rfl rfl (B d31_38)
  obtain ⟨cq_2, q_2, q_2'⟩ := P0_.cell
  obtain ⟨_, _, ⟨T_2, L_2, k_2, n_2⟩, -, X_2, ⟨Lc_2, hQ_2, l_2, y_2, z_2⟩, st_2⟩ := X_1.privateBack hx (y := mn30) hown (oT hZ hw 173 rfl) (oT hZ hw 174 rfl) (psl_10 hZ hw) (oP hZ hw 175 rfl) (oT hZ hw 176 rfl) (by decide) (backOf (W := 0) (rm_ulz2 l Z a0 hw [] ch my me fn ln bl fg (0 : Int32) fme (1 : Int32) fmy lmy ldr wme wmy hv .null fev h0 n0 Z0 P0_ P1_ P2_ P3_ P4_ P5_ P6_ P7_ P8_ P9_ P10_ P11_ P12_ P13_ P14_ P15_ P16_ P17_ P18_ P19_ P20_ g_ch g_me g_my n_ch_me n_ch_my n_me_my) hZ (oW hw 176 rfl) (oW hw 19 rfl) (by decide) (by decide)) (g := (mkF m 53 #[zr ch, zr my, zr me, zu] [(.ref me), (.ref my), (.ref ch)])) rfl (by rw [hml]; rfl) (Steps.refl _) (a := ch) (by rw [e_1]; exact q_2) q_2' (argsL := [(.ref my), (.ref me)]) (rest := []) (lenOf pd15 rfl) rfl (oQ rfl) (B d31_53) (fun _ _ => ⟨rfl, e_1, (by decide : 0 + 0 ≤ _), (by decide : 0 + 0 ≤ _)⟩)
  dsimp only [Pt.U, Pt.locs, Pt.cells, Pt.slots] at X_2 l_2 y_2 z_2 st_2 hQ_2
  subst y_2 z_2
  obtain ⟨rfl, N_2q, p_2_0, p_2_1, p_2_2, p_2_3, p_2_4, p_2_5, p_2_6, p_2_7, p_2_8, p_2_9, p_2_10, p_2_11, p_2_12, p_2_13, p_2_14, p_2_15, p_2_16, p_2_17, p_2_18, p_2_19, p_2_20, p_2_21⟩ := hQ_2
  have N_2 : Fr n0 L_2 := by rw [l_2]; exact Fr.app N0 N_2q
  clear l_2
  have Z_3 := Nat.le_trans Z0 p_2_0.1
  have K_4 : Keep h0 T_2.heap [ch, fn, ln, na, nb, me, my] := K0.trans p_2_0 fun x q => Or.inl (oM q 0 rfl fun q => oM q 5 rfl fun q => oM1 q 6 rfl)
  refine own_go (S' := T_2.setTop (mkF m 57 #[zr ch, zr my, zr me, zu] [(.ref me)])) (fun target kt => ?_) ?_
  ·
   show oSt p e below s₁ m 0 #[zr ch, zr my, zr me, zu] [] target
   refine XS.aloadN X0.here hx rfl (B d31_0) rfl rfl ?_
   refine XS.ifnonnullYes X0.here hx rfl (pc0 := 1) (pc' := 37) rfl (B d31_1) rfl (by decide) (by decide) ?_
   refine XS.aloadN X0.here hx rfl (B d31_37) rfl rfl ?_
   refine st_1 _ ?_
   refine XS.iconst X_1.here hx rfl (B d31_41) ?_
   refine XS.icmpYes X_1.here hx rfl (pc0 := 42) (pc' := 50) rfl (B d31_42) rfl (flt (by decide : ¬ ((1 : Int32) < (1 : Int32)))).2.2.2 (by decide) (by decide) ?_
   refine XS.aloadN X_1.here hx rfl (B d31_50) rfl rfl ?_
   refine XS.aloadN X_1.here hx rfl (B d31_51) rfl rfl ?_
   refine XS.aloadN X_1.here hx rfl (B d31_52) rfl rfl ?_
   refine st_2.trans ?_
   refine XS.aloadN X_2.here hx rfl (B d31_56) rfl rfl ?_
   exact kt
  obtain ⟨fs, hr, hrun, hended, hW, hsame⟩ := X_2.leave (v := some (.ref me)) (fun h => by rw [Bd.returns] at h; cases h)
  refine ⟨_, _, retOut X_2 hx Bd.returns rfl (Or.inr (Or.inr (Or.inr (Or.inr ⟨rfl, rfl, rfl⟩)))) (B d31_57) hr, hrun, hended, _, _, rfl, ?_, ⟨_, rfl⟩, hW, hsame.mono (by decide) (by decide)⟩
  show Q_take2 Z ch my me fn ln bl fg na nb mz kkf kkl fme (1 : Int32) fmy lmy ldr wme wmy hv fev h0 n0 _ T_2.heap _
  have f_5 := (P21_.keep p_2_0 (oN1 (Ne.symm n_ch_fn) (oN1 (Ne.symm n_me_fn) (oN1 (Ne.symm n_my_fn) oN))))
  have f_6 := (P23_.keep p_2_0)
  have f_7 := (P24_.keep p_2_0 (oN1 (Ne.symm n_ch_na) (oN1 (Ne.symm n_me_na) (oN1 (Ne.symm n_my_na) oN))))
  have f_8 := (P25_.keep p_2_0 (oN1 (Ne.symm n_ch_na) (oN1 (Ne.symm n_me_na) (oN1 (Ne.symm n_my_na) oN))))
  have f_9 := (P27_.keep p_2_0)
  have f_10 := (P28_.keep p_2_0 (oN1 (Ne.symm n_ch_nb) (oN1 (Ne.symm n_me_nb) (oN1 (Ne.symm n_my_nb) oN))))
  have f_11 := (P29_.keep p_2_0 (oN1 (Ne.symm n_ch_nb) (oN1 (Ne.symm n_me_nb) (oN1 (Ne.symm n_my_nb) oN))))
  have f_12 := (P30_.keep p_2_0 (oN1 (Ne.symm n_ch_nb) (oN1 (Ne.symm n_me_nb) (oN1 (Ne.symm n_my_nb) oN))))
  exact ⟨(.ref na), (.ref nb), (.ref mz), (.ref mz), .null, .null, (.ref na), .null, (0 : Int32), rfl, N_2, K_4, (Or.inl ⟨rfl, rfl, rfl, rfl, rfl, rfl, rfl, rfl⟩), p_2_1, p_2_2, p_2_3, p_2_4, p_2_5, p_2_6, p_2_7, p_2_8, p_2_9, p_2_10, p_2_11, p_2_12, p_2_13, p_2_14, p_2_15, p_2_16, p_2_17, p_2_18, p_2_19, p_2_20, p_2_21, f_5, f_6, f_7, f_8, f_9, f_10, f_11, f_12⟩
 ·
  skip
  obtain ⟨T_13, X_13, e_13, st_13⟩ := getF X0 hx hZ hown (oV hw 115 rfl) Via.refl e0 P15_ (g := (mkF m 38 #[zr ch, zr my, zr me, zu] [(.ref me)])) rfl rfl (B d31_38)
  obtain ⟨cq_14, q_14, q_14'⟩ := P0_.cell
  obtain ⟨_, _, ⟨T_14, L_14, k_14, n_14⟩, -, X_14, ⟨Lc_14, hQ_14, l_14, y_14, z_14⟩, st_14⟩ := X_13.privateBack hx (y := mn29) hown (oT hZ hw 195 rfl) (oT hZ hw 196 rfl) (psl_11 hZ hw) (oP hZ hw 197 rfl) (oT hZ hw 198 rfl) (by decide) (backOf (W := 0) (rm_ubs l Z a0 hw [] ch me fn ln bl fg na nb kkf kkl fme ldr wme hv (.ref me) fev .null h0 n0 Z0 P0_ P1_ P2_ P3_ P4_ P5_ P6_ P7_ P8_ P9_ P10_ P21_ P22_ P23_ P24_ P25_ P26_ P27_ P28_ P29_ P30_ P11_ P12_ P13_ P14_ P15_ Okkf Okkl g_ch g_fn g_ln g_na g_nb n_ch_fn n_ch_ln n_ch_na n_ch_nb n_ch_me n_fn_ln n_fn_na n_fn_nb (Ne.symm n_me_fn) n_ln_na n_ln_nb (Ne.symm n_me_ln) n_na_nb (Ne.symm n_me_na) (Ne.symm n_me_nb)) hZ (oW hw 198 rfl) (oW hw 19 rfl) (by decide) (by decide)) (g := (mkF m 47 #[zr ch, zr my, zr me, zu] [(.ref me), (.ref ch)])) rfl (by rw [hml]; rfl) (Steps.refl _) (a := ch) (by rw [e_13]; exact q_14) q_14' (argsL := [(.ref me)]) (rest := []) (lenOf pd12 rfl) rfl (oQ rfl) (B d31_47) (fun _ _ => ⟨rfl, e_13, (by decide : 0 + 0 ≤ _), (by decide : 0 + 0 ≤ _)⟩)
  dsimp only [Pt.U, Pt.locs, Pt.cells, Pt.slots] at X_14 l_14 y_14 z_14 st_14 hQ_14
  subst y_14 z_14
  obtain ⟨rfl, N_14q, p_14_0, p_14_1, p_14_2, p_14_3, p_14_4, p_14_5, p_14_6, p_14_7, p_14_8, p_14_9, p_14_10, p_14_11, p_14_12, p_14_13, p_14_14, p_14_15, p_14_16, p_14_17, p_14_18, p_14_19, p_14_20, p_14_21⟩ := hQ_14
  have N_14 : Fr n0 L_14 := by rw [l_14]; exact Fr.app N0 N_14q
  clear l_14
  have Z_15 := Nat.le_trans Z0 p_14_0.1
  have K_16 : Keep h0 T_14.heap [ch, fn, ln, na, nb, me, my] := K0.trans p_14_0 fun x q => Or.inl (oM q 0 rfl fun q => oM q 1 rfl fun q => oM q 2 rfl fun q => oM q 3 rfl fun q => oM1 q 4 rfl)
  have f_18 := (P11_.keep p_14_0)
  have f_19 := (P12_.keep p_14_0 (oN1 (Ne.symm n_ch_me) (oN1 n_me_fn (oN1 n_me_ln (oN1 n_me_na (oN1 n_me_nb oN))))))
  have f_20 := (P13_.keep p_14_0 (oN1 (Ne.symm n_ch_me) (oN1 n_me_fn (oN1 n_me_ln (oN1 n_me_na (oN1 n_me_nb oN))))))
  have f_21 := (P14_.keep p_14_0 (oN1 (Ne.symm n_ch_me) (oN1 n_me_fn (oN1 n_me_ln (oN1 n_me_na (oN1 n_me_nb oN))))))
  have f_22 := (P15_.keep p_14_0 (oN1 (Ne.symm n_ch_me) (oN1 n_me_fn (oN1 n_me_ln (oN1 n_me_na (oN1 n_me_nb oN))))))
  have f_23 := (P16_.keep p_14_0)
  have f_24 := (P17_.keep p_14_0 (oN1 (Ne.symm n_ch_my) (oN1 n_my_fn (oN1 n_my_ln (oN1 n_my_na (oN1 n_my_nb oN))))))
  have f_25 := (P18_.keep p_14_0 (oN1 (Ne.symm n_ch_my) (oN1 n_my_fn (oN1 n_my_ln (oN1 n_my_na (oN1 n_my_nb oN))))))
  have f_26 := (P19_.keep p_14_0 (oN1 (Ne.symm n_ch_my) (oN1 n_my_fn (oN1 n_my_ln (oN1 n_my_na (oN1 n_my_nb oN))))))
  have f_27 := (P20_.keep p_14_0 (oN1 (Ne.symm n_ch_my) (oN1 n_my_fn (oN1 n_my_ln (oN1 n_my_na (oN1 n_my_nb oN))))))
  obtain ⟨cq_17, q_17, q_17'⟩ := p_14_1.cell
  obtain ⟨_, _, ⟨T_17, L_17, k_17, n_17⟩, -, X_17, ⟨Lc_17, hQ_17, l_17, y_17, z_17⟩, st_17⟩ := X_14.privateBack hx (y := mn30) hown (oT hZ hw 173 rfl) (oT hZ hw 174 rfl) (psl_10 hZ hw) (oP hZ hw 175 rfl) (oT hZ hw 176 rfl) (by decide) (backOf (W := 0) (rm_ulz2 l Z a0 hw [] ch my me fn ln bl fg (((0 : Int32) + (1 : Int32)) + (1 : Int32)) fme (3 : Int32) fmy lmy ldr wme wmy hv (.ref na) fev T_14.heap n0 Z_15 p_14_1 p_14_2 p_14_3 p_14_4 p_14_5 p_14_6 p_14_7 p_14_8 p_14_9 p_14_10 p_14_11 f_18 f_19 f_20 f_21 f_22 f_23 f_24 f_25 f_26 f_27 g_ch g_me g_my n_ch_me n_ch_my n_me_my) hZ (oW hw 176 rfl) (oW hw 19 rfl) (by decide) (by decide)) (g := (mkF m 53 #[zr ch, zr my, zr me, zu] [(.ref me), (.ref my), (.ref ch)])) rfl (by rw [hml]; rfl) (Steps.refl _) (a := ch) q_17 q_17' (argsL := [(.ref my), (.ref me)]) (rest := []) (lenOf pd15 rfl) rfl (oQ rfl) (B d31_53) (fun _ _ => ⟨rfl, rfl, (by decide : 0 + 0 ≤ _), (by decide : 0 + 0 ≤ _)⟩)
  dsimp only [Pt.U, Pt.locs, Pt.cells, Pt.slots] at X_17 l_17 y_17 z_17 st_17 hQ_17
  subst y_17 z_17
  obtain ⟨rfl, N_17q, p_17_0, p_17_1, p_17_2, p_17_3, p_17_4, p_17_5, p_17_6, p_17_7, p_17_8, p_17_9, p_17_10, p_17_11, p_17_12, p_17_13, p_17_14, p_17_15, p_17_16, p_17_17, p_17_18, p_17_19, p_17_20, p_17_21⟩ := hQ_17
  have N_17 : Fr n0 L_17 := by rw [l_17]; exact Fr.app N_14 N_17q
  clear l_17
  have Z_28 := Nat.le_trans Z_15 p_17_0.1
  have K_29 : Keep h0 T_17.heap [ch, fn, ln, na, nb, me, my] := K_16.trans p_17_0 fun x q => Or.inl (oM q 0 rfl fun q => oM q 5 rfl fun q => oM1 q 6 rfl)
  refine own_go (S' := T_17.setTop (mkF m 57 #[zr ch, zr my, zr me, zu] [(.ref me)])) (fun target kt => ?_) ?_
  ·
   show oSt p e below s₁ m 0 #[zr ch, zr my, zr me, zu] [] target
   refine XS.aloadN X0.here hx rfl (B d31_0) rfl rfl ?_
   refine XS.ifnonnullYes X0.here hx rfl (pc0 := 1) (pc' := 37) rfl (B d31_1) rfl (by decide) (by decide) ?_
   refine XS.aloadN X0.here hx rfl (B d31_37) rfl rfl ?_
   refine st_13 _ ?_
   refine XS.iconst X_13.here hx rfl (B d31_41) ?_
   refine XS.icmpNo X_13.here hx rfl (B d31_42) rfl (tlt (by decide : (1 : Int32) < (3 : Int32))).2.2.2 ?_
   refine XS.aloadN X_13.here hx rfl (B d31_45) rfl rfl ?_
   refine XS.aloadN X_13.here hx rfl (B d31_46) rfl rfl ?_
   refine st_14.trans ?_
   refine XS.aloadN X_14.here hx rfl (B d31_50) rfl rfl ?_
   refine XS.aloadN X_14.here hx rfl (B d31_51) rfl rfl ?_
   refine XS.aloadN X_14.here hx rfl (B d31_52) rfl rfl ?_
   refine st_17.trans ?_
   refine XS.aloadN X_17.here hx rfl (B d31_56) rfl rfl ?_
   exact kt
  obtain ⟨fs, hr, hrun, hended, hW, hsame⟩ := X_17.leave (v := some (.ref me)) (fun h => by rw [Bd.returns] at h; cases h)
  refine ⟨_, _, retOut X_17 hx Bd.returns rfl (Or.inr (Or.inr (Or.inr (Or.inr ⟨rfl, rfl, rfl⟩)))) (B d31_57) hr, hrun, hended, _, _, rfl, ?_, ⟨_, rfl⟩, hW, hsame.mono (by decide) (by decide)⟩
  show Q_take2 Z ch my me fn ln bl fg na nb me kkf kkl fme (3 : Int32) fmy lmy ldr wme wmy hv fev h0 n0 _ T_17.heap _
  have f_30 := (p_14_12.keep p_17_0 (oN1 (Ne.symm n_ch_fn) (oN1 (Ne.symm n_me_fn) (oN1 (Ne.symm n_my_fn) oN))))
  have f_31 := (p_14_14.keep p_17_0)
  have f_32 := (p_14_15.keep p_17_0 (oN1 (Ne.symm n_ch_na) (oN1 (Ne.symm n_me_na) (oN1 (Ne.symm n_my_na) oN))))
  have f_33 := (p_14_16.keep p_17_0 (oN1 (Ne.symm n_ch_na) (oN1 (Ne.symm n_me_na) (oN1 (Ne.symm n_my_na) oN))))
  have f_34 := (p_14_18.keep p_17_0)
  have f_35 := (p_14_19.keep p_17_0 (oN1 (Ne.symm n_ch_nb) (oN1 (Ne.symm n_me_nb) (oN1 (Ne.symm n_my_nb) oN))))
  have f_36 := (p_14_20.keep p_17_0 (oN1 (Ne.symm n_ch_nb) (oN1 (Ne.symm n_me_nb) (oN1 (Ne.symm n_my_nb) oN))))
  have f_37 := (p_14_21.keep p_17_0 (oN1 (Ne.symm n_ch_nb) (oN1 (Ne.symm n_me_nb) (oN1 (Ne.symm n_my_nb) oN))))
  exact ⟨.null, .null, .null, .null, (.ref nb), .null, .null, (.ref na), (((0 : Int32) + (1 : Int32)) + (1 : Int32)), rfl, N_17, K_29, (Or.inr rfl), p_17_1, p_17_2, p_17_3, p_17_4, p_17_5, p_17_6, p_17_7, p_17_8, p_17_9, p_17_10, p_17_11, p_17_12, p_17_13, p_17_14, p_17_15, p_17_16, p_17_17, p_17_18, p_17_19, p_17_20, p_17_21, f_30, f_31, f_32, f_33, f_34, f_35, f_36, f_37⟩
-- com/example/carillon/carillon/ChainTakePinLaw.law:(JJJII)Z
theorem ef_law (m : MethodId) (xa xb xc : Int64) (ki kj : Int32) : entryFrame m #[(.long xa), (.long xb), (.long xc), (.int ki), (.int kj)] maxLocals = mkF m 0 #[.val (.long xa), .second, .val (.long xb), .second, .val (.long xc), .second, .val (.int ki), .val (.int kj), .unset, .unset, .unset, .unset, .unset, .unset, .unset, .unset, .unset, .unset, .unset, .unset, .unset, .unset, .unset, .unset, .unset, .unset, .unset] [] := by first | (simp [entryFrame, mkF, argsToLocals, Value.category, maxLocals]; done) | rfl
def Q_law (Z : State) (xa xb xc : Int64) (ki kj : Int32) (h0 : Heap) (n0 : Nat) (v : Option Value) (h : Heap) (L : List Loc) : Prop := v = some (.int (1 : Int32)) ∧ Fr n0 L
set_option maxRecDepth 65536 in
set_option maxHeartbeats 40000000 in
theorem rm_law (l : Launch) (Z : State) (a0 : Array Value) (hw : hwT Z a0) (ws : List Jvm.Cond) (xa xb xc : Int64) (ki kj : Int32) (h0 : Heap) (n0 : Nat) (Z0 : n0 ≤ h0.size) :
  oMF l Z x (Jvm.Cond.code x code maxLocals ret) ws room_1 #[(.long xa), (.long xb), (.long xc), (.int ki), (.int kj)] h0 (Q_law Z xa xb xc ki kj h0 n0) := by
 refine MetFree.of_bodySF (plainFor_of_name pn_fill) hisR ?_
 intro p e s m args below meth c s₁ Bd hml0 hP hK
 obtain ⟨rfl, hZ, hh⟩ := hP
 have hx := Bd.exec
 have hby := Bd.bytes
 have B : ∀ {pc r}, decode code pc = r → decode c.code pc = r := fun h => hb hby h
 have hml : c.maxLocals = 27 := hml0
 have hown : s.vm.findClass sg2 = some m.cls := findClass_of_methodNamed Bd.named
 have hnm := (name_of_methodNamed Bd.named Bd.method).1
 have X0 : Stand p l e room_1 s m #[(.long xa), (.long xb), (.long xc), (.int ki), (.int kj)] below meth c s₁ [] 0 0 := Stand.of_body Bd
 have e0 : s₁.heap = h0 := by rw [← hh, Bd.state]; rfl
 have N0 := Fr.nil n0
 refine own_in ?_
 refine own_go (S' := s₁.setTop (mkF m 0 (lw xa xb xc ki kj (uu19)) [])) (fun tgt_ stp_ => castTop (ef_law m xa xb xc ki kj) stp_) ?_
 obtain ⟨T_1, h_1, X_1, e_1, E_1, A_1, D_1, -, st_1⟩ := newO X0 hx hZ hown (oW hw 0 rfl) (oW hw 1 rfl) (oW hw 2 rfl) e0 (g := (mkF m 0 (lw xa xb xc ki kj (uu19)) [])) rfl (B at_0) (by decide) (by decide)
 obtain ⟨b_1, g_1⟩ : ∃ z, z = h0.size := ⟨_, rfl⟩
 rw [← g_1] at A_1 D_1 st_1
 have gn_b_1 : n0 ≤ b_1 := Nat.le_trans Z0 (Nat.le_of_eq g_1.symm)
 have Z_2 := Nat.le_trans Z0 E_1.1
 have F_1_atFront : xF2 Z h_1 b_1 (.int (0 : Int32)) := D_1 (Or.inl (oW hw 14 rfl)) (ty := .boolean) (by decide)
 have F_1_when : xF1 Z h_1 b_1 (.long (0 : Int64)) := D_1 (Or.inl (oW hw 16 rfl)) (ty := .long) (by decide)
 have F_1_lanes : xF3 Z h_1 b_1 (.int (0 : Int32)) := D_1 (Or.inl (oW hw 116 rfl)) (ty := .byte) (by decide)
 have F_1_next : xF0 Z h_1 b_1 .null := D_1 (Or.inl (oW hw 118 rfl)) (ty := (.object sg0)) (by decide)
 obtain ⟨_, _, ⟨T_4, L_4, k_4, n_4⟩, -, X_4, ⟨Lc_4, hQ_4, l_4, y_4, z_4⟩, st_4⟩ := X_1.specialBack hx (y := mn0) rfl hown (oT hZ hw 3 rfl) (oT hZ hw 4 rfl) (oT hZ hw 5 rfl) (by decide) (backOf (W := 1) (rm_mi l Z a0 hw [] b_1  h_1 n0 Z_2 ) hZ (oW hw 5 rfl) (oW hw 2 rfl) (by decide) (by decide)) (g := (mkF m 4 (lw xa xb xc ki kj (uu19)) [(.ref b_1), (.ref b_1)])) rfl (by rw [hml]; rfl) (Steps.refl _) (a := b_1) (argsL := []) (rest := [(.ref b_1)]) (lenOf pd2 rfl) rfl (oQ rfl) (B at_4) (fun _ _ => ⟨rfl, e_1, (by decide : 1 + 0 ≤ _), (by decide : 12 + 0 ≤ _)⟩)
 dsimp only [Pt.U, Pt.locs, Pt.cells, Pt.slots] at X_4 l_4 y_4 z_4 st_4 hQ_4
 subst y_4 z_4
 obtain ⟨rfl, N_4q, p_4_0⟩ := hQ_4
 have N_4 : Fr n0 L_4 := by rw [l_4]; exact Fr.app N0 N_4q
 clear l_4
 obtain ⟨T_5, h_5, X_5, e_5, E_5, A_5, D_5, -, st_5⟩ := newO X_4 hx hZ hown (oW hw 0 rfl) (oW hw 1 rfl) (oW hw 2 rfl) p_4_0 (g := (mkF m 9 (lw xa xb xc ki kj (zr b_1::uu18)) [])) rfl (B at_9) (by decide) (by decide)
 obtain ⟨b_5, g_5⟩ : ∃ z, z = h_1.size := ⟨_, rfl⟩
 rw [← g_5] at A_5 D_5 st_5
 have gn_b_5 : n0 ≤ b_5 := Nat.le_trans Z_2 (Nat.le_of_eq g_5.symm)
 have ne_b_1_b_5 : b_1 ≠ b_5 := Nat.ne_of_lt (Nat.lt_of_lt_of_le A_1.lt (Nat.le_of_eq g_5.symm))
 have Z_6 := Nat.le_trans Z_2 E_5.1
 have F_5_atFront : xF2 Z h_5 b_5 (.int (0 : Int32)) := D_5 (Or.inl (oW hw 14 rfl)) (ty := .boolean) (by decide)
 have F_5_when : xF1 Z h_5 b_5 (.long (0 : Int64)) := D_5 (Or.inl (oW hw 16 rfl)) (ty := .long) (by decide)
 have F_5_lanes : xF3 Z h_5 b_5 (.int (0 : Int32)) := D_5 (Or.inl (oW hw 116 rfl)) (ty := .byte) (by decide)
 have F_5_next : xF0 Z h_5 b_5 .null := D_5 (Or.inl (oW hw 118 rfl)) (ty := (.object sg0)) (by decide)
 obtain ⟨_, _, ⟨T_8, L_8, k_8, n_8⟩, -, X_8, ⟨Lc_8, hQ_8, l_8, y_8, z_8⟩, st_8⟩ := X_5.specialBack hx (y := mn0) rfl hown (oT hZ hw 3 rfl) (oT hZ hw 4 rfl) (oT hZ hw 5 rfl) (by decide) (backOf (W := 1) (rm_mi l Z a0 hw [] b_5  h_5 n0 Z_6 ) hZ (oW hw 5 rfl) (oW hw 2 rfl) (by decide) (by decide)) (g := (mkF m 13 (lw xa xb xc ki kj (zr b_1::uu18)) [(.ref b_5), (.ref b_5)])) rfl (by rw [hml]; rfl) (Steps.refl _) (a := b_5) (argsL := []) (rest := [(.ref b_5)]) (lenOf pd2 rfl) rfl (oQ rfl) (B at_13) (fun _ _ => ⟨rfl, e_5, (by decide : 2 + 0 ≤ _), (by decide : 24 + 0 ≤ _)⟩)
 dsimp only [Pt.U, Pt.locs, Pt.cells, Pt.slots] at X_8 l_8 y_8 z_8 st_8 hQ_8
 subst y_8 z_8
 obtain ⟨rfl, N_8q, p_8_0⟩ := hQ_8
 have N_8 : Fr n0 L_8 := by rw [l_8]; exact Fr.app N_4 N_8q
 clear l_8
 obtain ⟨T_9, h_9, X_9, e_9, E_9, A_9, D_9, -, st_9⟩ := newO X_8 hx hZ hown (oW hw 0 rfl) (oW hw 1 rfl) (oW hw 2 rfl) p_8_0 (g := (mkF m 18 (lw xa xb xc ki kj (zr b_1::zr b_5::uu17)) [])) rfl (B at_18) (by decide) (by decide)
 obtain ⟨b_9, g_9⟩ : ∃ z, z = h_5.size := ⟨_, rfl⟩
 rw [← g_9] at A_9 D_9 st_9
 have gn_b_9 : n0 ≤ b_9 := Nat.le_trans Z_6 (Nat.le_of_eq g_9.symm)
 have f_10 := (A_1.ext E_5)
 have ne_b_1_b_9 : b_1 ≠ b_9 := Nat.ne_of_lt (Nat.lt_of_lt_of_le f_10.lt (Nat.le_of_eq g_9.symm))
 have ne_b_5_b_9 : b_5 ≠ b_9 := Nat.ne_of_lt (Nat.lt_of_lt_of_le A_5.lt (Nat.le_of_eq g_9.symm))
 have Z_11 := Nat.le_trans Z_6 E_9.1
 have F_9_atFront : xF2 Z h_9 b_9 (.int (0 : Int32)) := D_9 (Or.inl (oW hw 14 rfl)) (ty := .boolean) (by decide)
 have F_9_when : xF1 Z h_9 b_9 (.long (0 : Int64)) := D_9 (Or.inl (oW hw 16 rfl)) (ty := .long) (by decide)
 have F_9_lanes : xF3 Z h_9 b_9 (.int (0 : Int32)) := D_9 (Or.inl (oW hw 116 rfl)) (ty := .byte) (by decide)
 have F_9_next : xF0 Z h_9 b_9 .null := D_9 (Or.inl (oW hw 118 rfl)) (ty := (.object sg0)) (by decide)
 obtain ⟨_, _, ⟨T_13, L_13, k_13, n_13⟩, -, X_13, ⟨Lc_13, hQ_13, l_13, y_13, z_13⟩, st_13⟩ := X_9.specialBack hx (y := mn0) rfl hown (oT hZ hw 3 rfl) (oT hZ hw 4 rfl) (oT hZ hw 5 rfl) (by decide) (backOf (W := 1) (rm_mi l Z a0 hw [] b_9  h_9 n0 Z_11 ) hZ (oW hw 5 rfl) (oW hw 2 rfl) (by decide) (by decide)) (g := (mkF m 22 (lw xa xb xc ki kj (zr b_1::zr b_5::uu17)) [(.ref b_9), (.ref b_9)])) rfl (by rw [hml]; rfl) (Steps.refl _) (a := b_9) (argsL := []) (rest := [(.ref b_9)]) (lenOf pd2 rfl) rfl (oQ rfl) (B at_22) (fun _ _ => ⟨rfl, e_9, (by decide : 3 + 0 ≤ _), (by decide : 36 + 0 ≤ _)⟩)
 dsimp only [Pt.U, Pt.locs, Pt.cells, Pt.slots] at X_13 l_13 y_13 z_13 st_13 hQ_13
 subst y_13 z_13
 obtain ⟨rfl, N_13q, p_13_0⟩ := hQ_13
 have N_13 : Fr n0 L_13 := by rw [l_13]; exact Fr.app N_8 N_13q
 clear l_13
 refine own_go (S' := T_13.setTop (mkF m 27 (lw xa xb xc ki kj (zr b_1::zr b_5::zr b_9::uu16)) [])) (fun target kt => ?_) ?_
 ·
  show oSt p e below s₁ m 0 (lw xa xb xc ki kj (uu19)) [] target
  refine st_1 _ ?_
  refine XS.dup X_1.here hx rfl (B at_3) rfl rfl ?_
  refine st_4.trans ?_
  refine XS.astore X_4.here hx rfl (B at_7) rfl rfl (l' := (lw xa xb xc ki kj (zr b_1::uu18))) rfl ?_
  refine st_5 _ ?_
  refine XS.dup X_5.here hx rfl (B at_12) rfl rfl ?_
  refine st_8.trans ?_
  refine XS.astore X_8.here hx rfl (B at_16) rfl rfl (l' := (lw xa xb xc ki kj (zr b_1::zr b_5::uu17))) rfl ?_
  refine st_9 _ ?_
  refine XS.dup X_9.here hx rfl (B at_21) rfl rfl ?_
  refine st_13.trans ?_
  refine XS.astore X_13.here hx rfl (B at_25) rfl rfl (l' := (lw xa xb xc ki kj (zr b_1::zr b_5::zr b_9::uu16))) rfl ?_
  exact kt
 refine own_cut (fun P => ∀ (z42 : Int32), own_G p.tables e below P (T_13.setTop (mkF m 42 (lw xa xb xc ki kj (zr b_1::zr b_5::zr b_9::uu16)) [(.int z42), (.long xa), (.ref b_1)]))) ?_ ?_
 ·
  intro z42
  have f_15 := (f_10.ext E_9)
  have f_16 := ((F_1_next.ext E_5).ext E_9)
  have f_17 := ((F_1_when.ext E_5).ext E_9)
  have f_18 := ((F_1_atFront.ext E_5).ext E_9)
  have f_19 := ((F_1_lanes.ext E_5).ext E_9)
  obtain ⟨_, _, ⟨T_14, L_14, k_14, n_14⟩, -, X_14, ⟨Lc_14, hQ_14, l_14, y_14, z_14⟩, st_14⟩ := Jvm.LawKit.callS X_13 hx (y := mn1) hown (oT hZ hw 9 rfl) (oT hZ hw 10 rfl) (oT hZ hw 11 rfl) (oT hZ hw 12 rfl) (by decide) (backOf (W := 0) (rm_fill l Z a0 hw [] b_1 xa z42  h_9 n0 Z_11 f_15 f_16 f_17 f_18 f_19 gn_b_1) hZ (oW hw 12 rfl) (oW hw 11 rfl) (by decide) (by decide)) (g := (mkF m 42 (lw xa xb xc ki kj (zr b_1::zr b_5::zr b_9::uu16)) [(.int z42), (.long xa), (.ref b_1)])) rfl (by rw [hml]; rfl) (argsL := [(.ref b_1), (.long xa), (.int z42)]) (rest := []) (lenOf pd16 rfl) rfl (oQ rfl) (B at_42) (fun _ _ => ⟨rfl, p_13_0, (by decide : 3 + 0 ≤ _), (by decide : 36 + 0 ≤ _)⟩)
  dsimp only [Pt.U, Pt.locs, Pt.cells, Pt.slots] at X_14 l_14 y_14 z_14 st_14 hQ_14
  subst y_14 z_14
  obtain ⟨fzx_14, qzx_14, rfl, N_14q, p_14_0, p_14_1, p_14_2, p_14_3, p_14_4, p_14_5⟩ := hQ_14
  have N_14 : Fr n0 L_14 := by rw [l_14]; exact Fr.app N_13 N_14q
  clear l_14
  have Z_20 := Nat.le_trans Z_11 p_14_0.1
  refine own_go (S' := T_14.setTop (mkF m 45 (lw xa xb xc ki kj (zr b_1::zr b_5::zr b_9::uu16)) [])) (fun target kt => ?_) ?_
  ·
   show oSt p e below T_13 m 42 (lw xa xb xc ki kj (zr b_1::zr b_5::zr b_9::uu16)) [(.int z42), (.long xa), (.ref b_1)] target
   refine st_14 _ ?_
   exact kt
  refine own_cut (fun P => ∀ (z60 : Int32), own_G p.tables e below P (T_14.setTop (mkF m 60 (lw xa xb xc ki kj (zr b_1::zr b_5::zr b_9::uu16)) [(.int z60), (.long xb), (.ref b_5)]))) ?_ ?_
  ·
   intro z60
   have f_23 := ((A_5.ext E_9).keep p_14_0)
   have f_24 := ((F_5_next.ext E_9).keep p_14_0 (oN1 (Ne.symm ne_b_1_b_5) oN))
   have f_25 := ((F_5_when.ext E_9).keep p_14_0 (oN1 (Ne.symm ne_b_1_b_5) oN))
   have f_26 := ((F_5_atFront.ext E_9).keep p_14_0 (oN1 (Ne.symm ne_b_1_b_5) oN))
   have f_27 := ((F_5_lanes.ext E_9).keep p_14_0 (oN1 (Ne.symm ne_b_1_b_5) oN))
   obtain ⟨_, _, ⟨T_22, L_22, k_22, n_22⟩, -, X_22, ⟨Lc_22, hQ_22, l_22, y_22, z_22⟩, st_22⟩ := Jvm.LawKit.callS X_14 hx (y := mn1) hown (oT hZ hw 9 rfl) (oT hZ hw 10 rfl) (oT hZ hw 11 rfl) (oT hZ hw 12 rfl) (by decide) (backOf (W := 0) (rm_fill l Z a0 hw [] b_5 xb z60  T_14.heap n0 Z_20 f_23 f_24 f_25 f_26 f_27 gn_b_5) hZ (oW hw 12 rfl) (oW hw 11 rfl) (by decide) (by decide)) (g := (mkF m 60 (lw xa xb xc ki kj (zr b_1::zr b_5::zr b_9::uu16)) [(.int z60), (.long xb), (.ref b_5)])) rfl (by rw [hml]; rfl) (argsL := [(.ref b_5), (.long xb), (.int z60)]) (rest := []) (lenOf pd16 rfl) rfl (oQ rfl) (B at_60) (fun _ _ => ⟨rfl, rfl, (by decide : 3 + 0 ≤ _), (by decide : 36 + 0 ≤ _)⟩)
   dsimp only [Pt.U, Pt.locs, Pt.cells, Pt.slots] at X_22 l_22 y_22 z_22 st_22 hQ_22
   subst y_22 z_22
   obtain ⟨fzx_22, qzx_22, rfl, N_22q, p_22_0, p_22_1, p_22_2, p_22_3, p_22_4, p_22_5⟩ := hQ_22
   have N_22 : Fr n0 L_22 := by rw [l_22]; exact Fr.app N_14 N_22q
   clear l_22
   have Z_28 := Nat.le_trans Z_20 p_22_0.1
   refine own_go (S' := T_22.setTop (mkF m 63 (lw xa xb xc ki kj (zr b_1::zr b_5::zr b_9::uu16)) [])) (fun target kt => ?_) ?_
   ·
    show oSt p e below T_14 m 60 (lw xa xb xc ki kj (zr b_1::zr b_5::zr b_9::uu16)) [(.int z60), (.long xb), (.ref b_5)] target
    refine st_22 _ ?_
    exact kt
   refine own_cut (fun P => ∀ (z79 : Int32), own_G p.tables e below P (T_22.setTop (mkF m 79 (lw xa xb xc ki kj (zr b_1::zr b_5::zr b_9::uu16)) [(.int z79), (.long xc), (.ref b_9)]))) ?_ ?_
   ·
    intro z79
    have f_31 := ((A_9.keep p_14_0).keep p_22_0)
    have f_32 := ((F_9_next.keep p_14_0 (oN1 (Ne.symm ne_b_1_b_9) oN)).keep p_22_0 (oN1 (Ne.symm ne_b_5_b_9) oN))
    have f_33 := ((F_9_when.keep p_14_0 (oN1 (Ne.symm ne_b_1_b_9) oN)).keep p_22_0 (oN1 (Ne.symm ne_b_5_b_9) oN))
    have f_34 := ((F_9_atFront.keep p_14_0 (oN1 (Ne.symm ne_b_1_b_9) oN)).keep p_22_0 (oN1 (Ne.symm ne_b_5_b_9) oN))
    have f_35 := ((F_9_lanes.keep p_14_0 (oN1 (Ne.symm ne_b_1_b_9) oN)).keep p_22_0 (oN1 (Ne.symm ne_b_5_b_9) oN))
    obtain ⟨_, _, ⟨T_30, L_30, k_30, n_30⟩, -, X_30, ⟨Lc_30, hQ_30, l_30, y_30, z_30⟩, st_30⟩ := Jvm.LawKit.callS X_22 hx (y := mn1) hown (oT hZ hw 9 rfl) (oT hZ hw 10 rfl) (oT hZ hw 11 rfl) (oT hZ hw 12 rfl) (by decide) (backOf (W := 0) (rm_fill l Z a0 hw [] b_9 xc z79  T_22.heap n0 Z_28 f_31 f_32 f_33 f_34 f_35 gn_b_9) hZ (oW hw 12 rfl) (oW hw 11 rfl) (by decide) (by decide)) (g := (mkF m 79 (lw xa xb xc ki kj (zr b_1::zr b_5::zr b_9::uu16)) [(.int z79), (.long xc), (.ref b_9)])) rfl (by rw [hml]; rfl) (argsL := [(.ref b_9), (.long xc), (.int z79)]) (rest := []) (lenOf pd16 rfl) rfl (oQ rfl) (B at_79) (fun _ _ => ⟨rfl, rfl, (by decide : 3 + 0 ≤ _), (by decide : 36 + 0 ≤ _)⟩)
    dsimp only [Pt.U, Pt.locs, Pt.cells, Pt.slots] at X_30 l_30 y_30 z_30 st_30 hQ_30
    subst y_30 z_30
    obtain ⟨fzx_30, qzx_30, rfl, N_30q, p_30_0, p_30_1, p_30_2, p_30_3, p_30_4, p_30_5⟩ := hQ_30
    have N_30 : Fr n0 L_30 := by rw [l_30]; exact Fr.app N_22 N_30q
    clear l_30
    have Z_36 := Nat.le_trans Z_28 p_30_0.1
    obtain ⟨T_38, h_38, X_38, e_38, E_38, A_38, D_38, -, st_38⟩ := newO X_30 hx hZ hown (oW hw 17 rfl) (oW hw 18 rfl) (oW hw 19 rfl) rfl (g := (mkF m 82 (lw xa xb xc ki kj (zr b_1::zr b_5::zr b_9::uu16)) [])) rfl (B at_82) (by decide) (by decide)
    obtain ⟨b_38, g_38⟩ : ∃ z, z = T_30.heap.size := ⟨_, rfl⟩
    rw [← g_38] at A_38 D_38 st_38
    have gn_b_38 : n0 ≤ b_38 := Nat.le_trans Z_36 (Nat.le_of_eq g_38.symm)
    have f_39 := ((p_14_1.keep p_22_0).keep p_30_0)
    have ne_b_1_b_38 : b_1 ≠ b_38 := Nat.ne_of_lt (Nat.lt_of_lt_of_le f_39.lt (Nat.le_of_eq g_38.symm))
    have f_40 := (p_22_1.keep p_30_0)
    have ne_b_5_b_38 : b_5 ≠ b_38 := Nat.ne_of_lt (Nat.lt_of_lt_of_le f_40.lt (Nat.le_of_eq g_38.symm))
    have ne_b_9_b_38 : b_9 ≠ b_38 := Nat.ne_of_lt (Nat.lt_of_lt_of_le p_30_1.lt (Nat.le_of_eq g_38.symm))
    have Z_41 := Nat.le_trans Z_36 E_38.1
    have F_38_firstNodes : xF10 Z h_38 b_38 .null := D_38 (Or.inr (oW hw 27 rfl)) (ty := (.array (.object sg5))) (by decide)
    have F_38_lastNodes : xF11 Z h_38 b_38 .null := D_38 (Or.inr (oW hw 29 rfl)) (ty := (.array (.object sg5))) (by decide)
    have F_38_backlog : xF12 Z h_38 b_38 .null := D_38 (Or.inr (oW hw 48 rfl)) (ty := (.object sg4)) (by decide)
    have F_38_laneDraws : xF15 Z h_38 b_38 (.long (0 : Int64)) := D_38 (Or.inl (oW hw 51 rfl)) (ty := .long) (by decide)
    have F_38_fingerNodes : xF17 Z h_38 b_38 .null := D_38 (Or.inr (oW hw 53 rfl)) (ty := (.array (.object sg5))) (by decide)
    have F_38_fingerEntry : xF16 Z h_38 b_38 .null := D_38 (Or.inl (oW hw 74 rfl)) (ty := (.object sg0)) (by decide)
    have F_38_tail : xF9 Z h_38 b_38 .null := D_38 (Or.inl (oW hw 95 rfl)) (ty := (.object sg0)) (by decide)
    have F_38_head : xF8 Z h_38 b_38 .null := D_38 (Or.inl (oW hw 120 rfl)) (ty := (.object sg0)) (by decide)
    have F_38_spareNodes : xF13 Z h_38 b_38 .null := D_38 (Or.inl (oW hw 130 rfl)) (ty := (.object sg5)) (by decide)
    have F_38_spareNodeCount : xF14 Z h_38 b_38 (.int (0 : Int32)) := D_38 (Or.inl (oW hw 204 rfl)) (ty := .int) (by decide)
    obtain ⟨_, _, ⟨T_43, L_43, k_43, n_43⟩, -, X_43, ⟨Lc_43, hQ_43, l_43, y_43, z_43⟩, st_43⟩ := X_38.specialBack hx (y := mn24) rfl hown (oT hZ hw 20 rfl) (oT hZ hw 21 rfl) (oT hZ hw 22 rfl) (by decide) (backOf (W := 1) (rm_ci l Z a0 hw [] b_38  h_38 n0 Z_41 A_38 F_38_head F_38_tail F_38_firstNodes F_38_lastNodes F_38_backlog F_38_spareNodes F_38_spareNodeCount F_38_laneDraws F_38_fingerEntry F_38_fingerNodes gn_b_38) hZ (oW hw 22 rfl) (oW hw 19 rfl) (by decide) (by decide)) (g := (mkF m 86 (lw xa xb xc ki kj (zr b_1::zr b_5::zr b_9::uu16)) [(.ref b_38), (.ref b_38)])) rfl (by rw [hml]; rfl) (Steps.refl _) (a := b_38) (argsL := []) (rest := [(.ref b_38)]) (lenOf pd2 rfl) rfl (oQ rfl) (B at_86) (fun _ _ => ⟨rfl, e_38, (by decide : 4 + 6 ≤ _), (by decide : 46 + 38 ≤ _)⟩)
    dsimp only [Pt.U, Pt.locs, Pt.cells, Pt.slots] at X_43 l_43 y_43 z_43 st_43 hQ_43
    subst y_43 z_43
    have f_44 := (f_39.ext E_38)
    have f_45 := (f_40.ext E_38)
    have f_46 := (p_30_1.ext E_38)
    obtain ⟨fnx_43, lnx_43, blx_43, fgx_43, kkfx_43, kklx_43, kkgx_43, rfl, N_43q, p_43_0, p_43_1, p_43_2, p_43_3, p_43_4, p_43_5, p_43_6, p_43_7, p_43_8, p_43_9, p_43_10, p_43_11, p_43_12, p_43_13, p_43_14, p_43_15, p_43_16, p_43_17, p_43_18, p_43_19, p_43_20, p_43_21, p_43_22, p_43_23, p_43_24, p_43_25, p_43_26, p_43_27, p_43_28, p_43_29, p_43_30⟩ := hQ_43
    have N_43 : Fr n0 L_43 := by rw [l_43]; exact Fr.app N_30 N_43q
    clear l_43
    have Z_47 := Nat.le_trans Z_41 p_43_0.1
    have gn_fnx_43 : n0 ≤ fnx_43 := Nat.le_trans Z_41 p_43_21
    have ne_b_1_fnx_43 : b_1 ≠ fnx_43 := Nat.ne_of_lt (Nat.lt_of_lt_of_le f_44.lt p_43_21)
    have ne_b_5_fnx_43 : b_5 ≠ fnx_43 := Nat.ne_of_lt (Nat.lt_of_lt_of_le f_45.lt p_43_21)
    have ne_b_9_fnx_43 : b_9 ≠ fnx_43 := Nat.ne_of_lt (Nat.lt_of_lt_of_le f_46.lt p_43_21)
    have ne_b_38_fnx_43 : b_38 ≠ fnx_43 := Nat.ne_of_lt (Nat.lt_of_lt_of_le A_38.lt p_43_21)
    have gn_lnx_43 : n0 ≤ lnx_43 := Nat.le_trans Z_41 p_43_22
    have ne_b_1_lnx_43 : b_1 ≠ lnx_43 := Nat.ne_of_lt (Nat.lt_of_lt_of_le f_44.lt p_43_22)
    have ne_b_5_lnx_43 : b_5 ≠ lnx_43 := Nat.ne_of_lt (Nat.lt_of_lt_of_le f_45.lt p_43_22)
    have ne_b_9_lnx_43 : b_9 ≠ lnx_43 := Nat.ne_of_lt (Nat.lt_of_lt_of_le f_46.lt p_43_22)
    have ne_b_38_lnx_43 : b_38 ≠ lnx_43 := Nat.ne_of_lt (Nat.lt_of_lt_of_le A_38.lt p_43_22)
    have gn_blx_43 : n0 ≤ blx_43 := Nat.le_trans Z_41 p_43_23
    have ne_b_1_blx_43 : b_1 ≠ blx_43 := Nat.ne_of_lt (Nat.lt_of_lt_of_le f_44.lt p_43_23)
    have ne_b_5_blx_43 : b_5 ≠ blx_43 := Nat.ne_of_lt (Nat.lt_of_lt_of_le f_45.lt p_43_23)
    have ne_b_9_blx_43 : b_9 ≠ blx_43 := Nat.ne_of_lt (Nat.lt_of_lt_of_le f_46.lt p_43_23)
    have ne_b_38_blx_43 : b_38 ≠ blx_43 := Nat.ne_of_lt (Nat.lt_of_lt_of_le A_38.lt p_43_23)
    have gn_fgx_43 : n0 ≤ fgx_43 := Nat.le_trans Z_41 p_43_24
    have ne_b_1_fgx_43 : b_1 ≠ fgx_43 := Nat.ne_of_lt (Nat.lt_of_lt_of_le f_44.lt p_43_24)
    have ne_b_5_fgx_43 : b_5 ≠ fgx_43 := Nat.ne_of_lt (Nat.lt_of_lt_of_le f_45.lt p_43_24)
    have ne_b_9_fgx_43 : b_9 ≠ fgx_43 := Nat.ne_of_lt (Nat.lt_of_lt_of_le f_46.lt p_43_24)
    have ne_b_38_fgx_43 : b_38 ≠ fgx_43 := Nat.ne_of_lt (Nat.lt_of_lt_of_le A_38.lt p_43_24)
    have f_50 := (f_44.keep p_43_0)
    have f_51 := ((((p_14_2.keep p_22_0 (oN1 ne_b_1_b_5 oN)).keep p_30_0 (oN1 ne_b_1_b_9 oN)).ext E_38).keep p_43_0 (oN1 ne_b_1_b_38 oN))
    have f_52 := ((((p_14_3.keep p_22_0 (oN1 ne_b_1_b_5 oN)).keep p_30_0 (oN1 ne_b_1_b_9 oN)).ext E_38).keep p_43_0 (oN1 ne_b_1_b_38 oN))
    have f_53 := ((((p_14_4.keep p_22_0 (oN1 ne_b_1_b_5 oN)).keep p_30_0 (oN1 ne_b_1_b_9 oN)).ext E_38).keep p_43_0 (oN1 ne_b_1_b_38 oN))
    have f_54 := ((((p_14_5.keep p_22_0 (oN1 ne_b_1_b_5 oN)).keep p_30_0 (oN1 ne_b_1_b_9 oN)).ext E_38).keep p_43_0 (oN1 ne_b_1_b_38 oN))
    obtain ⟨cq_49, kq_49, q_49a, q_49b, q_49c⟩ := isOf hZ rfl p_43_1
    obtain ⟨_, _, ⟨T_49, L_49, k_49, n_49⟩, -, X_49, ⟨Lc_49, hQ_49, l_49, y_49, z_49⟩, st_49⟩ := X_43.virtualBack hx (y := mn23) (z := mn23) hown (oT hZ hw 54 rfl) (oT hZ hw 55 rfl) (notFace_of_selects (args := #[]) (oT hZ hw 57 rfl)) (oT hZ hw 57 rfl) (oT hZ hw 56 rfl) (by decide) (backOf (W := 0) (rm_in0 l Z a0 hw [] b_38 b_1 fnx_43 lnx_43 blx_43 fgx_43 kkfx_43 kklx_43 kkgx_43 (0 : Int32) fzx_14 (0 : Int32) (-7046029254386353131 : Int64) qzx_14 .null .null .null .null T_43.heap n0 Z_47 p_43_1 p_43_2 p_43_3 p_43_4 p_43_5 p_43_6 p_43_7 p_43_8 p_43_9 p_43_10 p_43_11 p_43_12 p_43_13 f_50 f_51 f_52 f_53 f_54 p_43_14 p_43_15 p_43_16 p_43_18 p_43_19 gn_b_38 gn_b_1 gn_fnx_43 gn_lnx_43 gn_fgx_43 ne_b_38_fnx_43 ne_b_38_lnx_43 (Ne.symm ne_b_1_b_38) ne_b_38_fgx_43 ne_b_38_blx_43 p_43_25 (Ne.symm ne_b_1_fnx_43) p_43_27 p_43_26 (Ne.symm ne_b_1_lnx_43) p_43_29 p_43_28 ne_b_1_fgx_43 ne_b_1_blx_43 (Ne.symm p_43_30) own_x0) hZ (oW hw 58 rfl) (oW hw 19 rfl) (by decide) (by decide)) q_49a q_49c (g := (mkF m 95 (lw xa xb xc ki kj (zr b_1::zr b_5::zr b_9::zr b_38::uu15)) [(.ref b_1), (.ref b_38)])) rfl (by rw [hml]; rfl) (Steps.refl _) (argsL := [(.ref b_1)]) (rest := []) (lenOf pd12 rfl) rfl (oQ rfl) (B at_95) (fun _ _ => ⟨rfl, rfl, (by decide : 10 + 2 ≤ _), (by decide : 84 + 6 ≤ _)⟩)
    dsimp only [Pt.U, Pt.locs, Pt.cells, Pt.slots] at X_49 l_49 y_49 z_49 st_49 hQ_49
    subst y_49 z_49
    have f_55 := (f_45.keep p_43_0)
    have f_56 := (f_46.keep p_43_0)
    obtain ⟨nax_49, nbx_49, rfl, N_49q, p_49_0, p_49_1, p_49_2, p_49_3, p_49_4, p_49_5, p_49_6, p_49_7, p_49_8, p_49_9, p_49_10, p_49_11, p_49_12, p_49_13, p_49_14, p_49_15, p_49_16, p_49_17, p_49_18, p_49_19, p_49_20, p_49_21, p_49_22, p_49_23, p_49_24, p_49_25, p_49_26, p_49_27, p_49_28, p_49_29, p_49_30⟩ := hQ_49
    have N_49 : Fr n0 L_49 := by rw [l_49]; exact Fr.app N_43 N_49q
    clear l_49
    have Z_57 := Nat.le_trans Z_47 p_49_0.1
    have gn_nax_49 : n0 ≤ nax_49 := Nat.le_trans Z_47 p_49_27
    have ne_b_1_nax_49 : b_1 ≠ nax_49 := Nat.ne_of_lt (Nat.lt_of_lt_of_le f_50.lt p_49_27)
    have ne_b_5_nax_49 : b_5 ≠ nax_49 := Nat.ne_of_lt (Nat.lt_of_lt_of_le f_55.lt p_49_27)
    have ne_b_9_nax_49 : b_9 ≠ nax_49 := Nat.ne_of_lt (Nat.lt_of_lt_of_le f_56.lt p_49_27)
    have ne_b_38_nax_49 : b_38 ≠ nax_49 := Nat.ne_of_lt (Nat.lt_of_lt_of_le p_43_1.lt p_49_27)
    have ne_fnx_43_nax_49 : fnx_43 ≠ nax_49 := Nat.ne_of_lt (Nat.lt_of_lt_of_le p_43_12.lt p_49_27)
    have ne_lnx_43_nax_49 : lnx_43 ≠ nax_49 := Nat.ne_of_lt (Nat.lt_of_lt_of_le p_43_13.lt p_49_27)
    have ne_fgx_43_nax_49 : fgx_43 ≠ nax_49 := Nat.ne_of_lt (Nat.lt_of_lt_of_le p_43_14.lt p_49_27)
    have ne_blx_43_nax_49 : blx_43 ≠ nax_49 := Nat.ne_of_lt (Nat.lt_of_lt_of_le p_43_15.lt p_49_27)
    have gn_nbx_49 : n0 ≤ nbx_49 := Nat.le_trans Z_47 p_49_28
    have ne_b_1_nbx_49 : b_1 ≠ nbx_49 := Nat.ne_of_lt (Nat.lt_of_lt_of_le f_50.lt p_49_28)
    have ne_b_5_nbx_49 : b_5 ≠ nbx_49 := Nat.ne_of_lt (Nat.lt_of_lt_of_le f_55.lt p_49_28)
    have ne_b_9_nbx_49 : b_9 ≠ nbx_49 := Nat.ne_of_lt (Nat.lt_of_lt_of_le f_56.lt p_49_28)
    have ne_b_38_nbx_49 : b_38 ≠ nbx_49 := Nat.ne_of_lt (Nat.lt_of_lt_of_le p_43_1.lt p_49_28)
    have ne_fnx_43_nbx_49 : fnx_43 ≠ nbx_49 := Nat.ne_of_lt (Nat.lt_of_lt_of_le p_43_12.lt p_49_28)
    have ne_lnx_43_nbx_49 : lnx_43 ≠ nbx_49 := Nat.ne_of_lt (Nat.lt_of_lt_of_le p_43_13.lt p_49_28)
    have ne_fgx_43_nbx_49 : fgx_43 ≠ nbx_49 := Nat.ne_of_lt (Nat.lt_of_lt_of_le p_43_14.lt p_49_28)
    have ne_blx_43_nbx_49 : blx_43 ≠ nbx_49 := Nat.ne_of_lt (Nat.lt_of_lt_of_le p_43_15.lt p_49_28)
    refine own_go (S' := T_49.setTop (mkF m 98 (lw xa xb xc ki kj (zr b_1::zr b_5::zr b_9::zr b_38::uu15)) [])) (fun target kt => ?_) ?_
    ·
     show oSt p e below T_22 m 79 (lw xa xb xc ki kj (zr b_1::zr b_5::zr b_9::uu16)) [(.int z79), (.long xc), (.ref b_9)] target
     refine st_30 _ ?_
     refine st_38 _ ?_
     refine XS.dup X_38.here hx rfl (B at_85) rfl rfl ?_
     refine st_43.trans ?_
     refine XS.astore X_43.here hx rfl (B at_89) rfl rfl (l' := (lw xa xb xc ki kj (zr b_1::zr b_5::zr b_9::zr b_38::uu15))) rfl ?_
     refine XS.aload X_43.here hx rfl (B at_91) rfl rfl ?_
     refine XS.aload X_43.here hx rfl (B at_93) rfl rfl ?_
     refine st_49.trans ?_
     exact kt
    refine own_cut (fun P => ∀ (T112j : State) (h112j : Heap) (lo112j : List Loc) (qa : Addr) (qb : Addr) (qc : Addr) (lqa : Int32) (lqb : Int32) (lqc : Int32) (fqa : Int32) (fqb : Int32) (fqc : Int32) (wqa : Int64) (wqb : Int64) (wqc : Int64) (fev : Value) (v0 : Value) (v1 : Value), (Stand p l e room_1 s m #[(.long xa), (.long xb), (.long xc), (.int ki), (.int kj)] below meth c T112j lo112j 12 90) → (T112j.heap = h112j) → (Fr n0 lo112j) → (n0 ≤ h112j.size) → (Exa Z h112j b_38 sg3) → (xF8 Z h112j b_38 (.ref qa)) → (xF9 Z h112j b_38 (.ref qc)) → (xF10 Z h112j b_38 (.ref fnx_43)) → (xF11 Z h112j b_38 (.ref lnx_43)) → (xF12 Z h112j b_38 (.ref blx_43)) → (xF13 Z h112j b_38 .null) → (xF14 Z h112j b_38 (.int (0 : Int32))) → (xF15 Z h112j b_38 (.long (own_next (own_next (own_next (-7046029254386353131 : Int64)))))) → (xF16 Z h112j b_38 fev) → (xF17 Z h112j b_38 (.ref fgx_43)) → (aN Z h112j fgx_43 kkgx_43 v0 v1) → (aN Z h112j fnx_43 kkfx_43 (.ref nax_49) (.ref nbx_49)) → (aN Z h112j lnx_43 kklx_43 (.ref nax_49) (.ref nbx_49)) → (Exa Z h112j nax_49 sg5) → (xF18 Z h112j nax_49 (.ref b_1)) → (xF19 Z h112j nax_49 .null) → (xF20 Z h112j nax_49 .null) → (Exa Z h112j nbx_49 sg5) → (xF18 Z h112j nbx_49 (.ref b_1)) → (xF19 Z h112j nbx_49 .null) → (xF20 Z h112j nbx_49 (.ref nax_49)) → (Exa Z h112j blx_43 sg4) → (xF4 Z h112j blx_43 (.int (0 : Int32))) → (xF5 Z h112j blx_43 (.long (-9223372036854775808 : Int64))) → (Exa Z h112j qa sg0) → (xF0 Z h112j qa (.ref qb)) → (xF1 Z h112j qa (.long wqa)) → (xF2 Z h112j qa (.int fqa)) → (xF3 Z h112j qa (.int lqa)) → (Exa Z h112j qb sg0) → (xF0 Z h112j qb (.ref qc)) → (xF1 Z h112j qb (.long wqb)) → (xF2 Z h112j qb (.int fqb)) → (xF3 Z h112j qb (.int lqb)) → (Exa Z h112j qc sg0) → (xF0 Z h112j qc .null) → (xF1 Z h112j qc (.long wqc)) → (xF2 Z h112j qc (.int fqc)) → (xF3 Z h112j qc (.int lqc)) → (n0 ≤ qa) → (n0 ≤ qb) → (n0 ≤ qc) → (qa ≠ b_38) → (qa ≠ fnx_43) → (qa ≠ lnx_43) → (qa ≠ blx_43) → (qa ≠ fgx_43) → (qa ≠ nax_49) → (qa ≠ nbx_49) → (qb ≠ b_38) → (qb ≠ fnx_43) → (qb ≠ lnx_43) → (qb ≠ blx_43) → (qb ≠ fgx_43) → (qb ≠ nax_49) → (qb ≠ nbx_49) → (qc ≠ b_38) → (qc ≠ fnx_43) → (qc ≠ lnx_43) → (qc ≠ blx_43) → (qc ≠ fgx_43) → (qc ≠ nax_49) → (qc ≠ nbx_49) → (qa ≠ qb) → (qa ≠ qc) → (qb ≠ qc) → (own_H b_1 qa qb qc lqa) → (own_H b_1 qb qa qc lqb) → (own_H b_1 qc qa qb lqc) → own_G p.tables e below P (T112j.setTop (mkF m 112 (lw xa xb xc ki kj (zr b_1::zr b_5::zr b_9::zr b_38::uu15)) []))) ?_ ?_
    ·
     intro T112j h112j lo112j qa qb qc lqa lqb lqc fqa fqb fqc wqa wqb wqc fev v0 v1 X112j e112j N112j Z112j H0_ H1_ H2_ H3_ H4_ H5_ H6_ H7_ H8_ H9_ H10_ H11_ H12_ H13_ H14_ H15_ H16_ H17_ H18_ H19_ H20_ H21_ H22_ H23_ H24_ H25_ H26_ H27_ H28_ H29_ H30_ H31_ H32_ H33_ H34_ H35_ H36_ H37_ H38_ H39_ H40_ H41_ H42_ H43_ H44_ H45_ H46_ H47_ H48_ H49_ H50_ H51_ H52_ H53_ H54_ H55_ H56_ H57_ H58_ H59_ H60_ H61_ H62_ H63_ H64_ H65_ H66_ hHa hHb hHc
     obtain ⟨cq_59, kq_59, q_59a, q_59b, q_59c⟩ := isOf hZ e112j H0_
     obtain ⟨_, _, ⟨T_59, L_59, k_59, n_59⟩, -, X_59, ⟨Lc_59, hQ_59, l_59, y_59, z_59⟩, st_59⟩ := X112j.virtualBack hx (y := mn25) (z := mn25) hown (oT hZ hw 161 rfl) (oT hZ hw 162 rfl) (notFace_of_selects (args := #[]) (oT hZ hw 164 rfl)) (oT hZ hw 164 rfl) (oT hZ hw 163 rfl) (by decide) (backOf (W := 0) (rm_fst l Z a0 hw [] b_38 qa h112j n0 Z112j H1_) hZ (oW hw 165 rfl) (oW hw 19 rfl) (by decide) (by decide)) q_59a q_59c (g := (mkF m 114 (lw xa xb xc ki kj (zr b_1::zr b_5::zr b_9::zr b_38::uu15)) [(.ref b_38)])) rfl (by rw [hml]; rfl) (Steps.refl _) (argsL := []) (rest := []) (lenOf pd17 rfl) rfl (oQ rfl) (B at_114) (fun _ _ => ⟨rfl, e112j, (by decide : 12 + 0 ≤ _), (by decide : 90 + 0 ≤ _)⟩)
     dsimp only [Pt.U, Pt.locs, Pt.cells, Pt.slots] at X_59 l_59 y_59 z_59 st_59 hQ_59
     subst y_59 z_59
     obtain ⟨rfl, N_59q, p_59_0⟩ := hQ_59
     have N_59 : Fr n0 L_59 := by rw [l_59]; exact Fr.app N112j N_59q
     clear l_59
     obtain ⟨T_60, X_60, e_60, st_60⟩ := getF X_59 hx hZ hown (oV hw 166 rfl) Via.refl p_59_0 H26_ (g := (mkF m 128 (lw xa xb xc ki kj (zr b_1::zr b_5::zr b_9::zr b_38::zr qa::uu14)) [(.ref qa)])) rfl rfl (B at_128)
     obtain ⟨T_61, X_61, e_61, st_61⟩ := getF X_60 hx hZ hown (oV hw 166 rfl) Via.refl e_60 H31_ (g := (mkF m 142 (lw xa xb xc ki kj (zr b_1::zr b_5::zr b_9::zr b_38::zr qa::zr qb::uu13)) [(.ref qb)])) rfl rfl (B at_142)
     obtain ⟨T_62, X_62, e_62, st_62⟩ := getF X_61 hx hZ hown (oV hw 166 rfl) Via.refl e_61 H36_ (g := (mkF m 154 (lw xa xb xc ki kj (zr b_1::zr b_5::zr b_9::zr b_38::zr qa::zr qb::zr qc::uu12)) [(.ref qc)])) rfl rfl (B at_154)
     refine own_go (S' := T_62.setTop (mkF m 171 (lw xa xb xc ki kj (zr b_1::zr b_5::zr b_9::zr b_38::zr qa::zr qb::zr qc::.val (.int ((kj &&& (2147483647 : Int32)) % (3 : Int32)))::uu11)) [])) (fun target kt => ?_) ?_
     ·
      show oSt p e below T112j m 112 (lw xa xb xc ki kj (zr b_1::zr b_5::zr b_9::zr b_38::uu15)) [] target
      refine XS.aload X112j.here hx rfl (B at_112) rfl rfl ?_
      refine st_59.trans ?_
      refine XS.astore X_59.here hx rfl (B at_117) rfl rfl (l' := (lw xa xb xc ki kj (zr b_1::zr b_5::zr b_9::zr b_38::zr qa::uu14))) rfl ?_
      refine XS.aload X_59.here hx rfl (B at_119) rfl rfl ?_
      refine XS.ifnonnullYes X_59.here hx rfl (pc0 := 121) (pc' := 126) rfl (B at_121) rfl (by decide) (by decide) ?_
      refine XS.aload X_59.here hx rfl (B at_126) rfl rfl ?_
      refine st_60 _ ?_
      refine XS.astore X_60.here hx rfl (B at_131) rfl rfl (l' := (lw xa xb xc ki kj (zr b_1::zr b_5::zr b_9::zr b_38::zr qa::zr qb::uu13))) rfl ?_
      refine XS.aload X_60.here hx rfl (B at_133) rfl rfl ?_
      refine XS.ifnonnullYes X_60.here hx rfl (pc0 := 135) (pc' := 140) rfl (B at_135) rfl (by decide) (by decide) ?_
      refine XS.aload X_60.here hx rfl (B at_140) rfl rfl ?_
      refine st_61 _ ?_
      refine XS.astore X_61.here hx rfl (B at_145) rfl rfl (l' := (lw xa xb xc ki kj (zr b_1::zr b_5::zr b_9::zr b_38::zr qa::zr qb::zr qc::uu12))) rfl ?_
      refine XS.aload X_61.here hx rfl (B at_147) rfl rfl ?_
      refine XS.ifnullNo X_61.here hx rfl (B at_149) rfl ?_
      refine XS.aload X_61.here hx rfl (B at_152) rfl rfl ?_
      refine st_62 _ ?_
      show oSt p e below T_62 m 157 (lw xa xb xc ki kj (zr b_1::zr b_5::zr b_9::zr b_38::zr qa::zr qb::zr qc::uu12)) [.null] target
      refine XS.ifnullYes X_62.here hx rfl (pc0 := 157) (pc' := 162) rfl (B at_157) rfl (by decide) (by decide) ?_
      refine XS.iload X_62.here hx rfl (B at_162) rfl ?_
      refine X_62.ldcInt hx hown (oT hZ hw 167 rfl) (g := (mkF m 164 (lw xa xb xc ki kj (zr b_1::zr b_5::zr b_9::zr b_38::zr qa::zr qb::zr qc::uu12)) [(.int kj)])) rfl (B at_164) _ ?_
      refine XS.iand X_62.here hx rfl (B at_166) rfl ?_
      refine XS.iconst X_62.here hx rfl (B at_167) ?_
      refine iremM X_62 hx rfl (B at_168) rfl (by decide) ?_
      show oSt p e below T_62 m 169 (lw xa xb xc ki kj (zr b_1::zr b_5::zr b_9::zr b_38::zr qa::zr qb::zr qc::uu12)) [(.int ((kj &&& (2147483647 : Int32)) % (3 : Int32)))] target
      refine XS.istore X_62.here hx rfl (B at_169) rfl (l' := (lw xa xb xc ki kj (zr b_1::zr b_5::zr b_9::zr b_38::zr qa::zr qb::zr qc::.val (.int ((kj &&& (2147483647 : Int32)) % (3 : Int32)))::uu11))) rfl ?_
      exact kt
     refine own_cut (fun P => ∀ (T244j : State) (h244j : Heap) (lo244j : List Loc) (t15 : Slot) (t16 : Slot) (qe : Addr) (qx : Addr) (qy : Addr) (lqe : Int32) (lqx : Int32) (lqy : Int32) (fqe : Int32) (fqx : Int32) (fqy : Int32) (wqe : Int64) (wqx : Int64) (wqy : Int64) (spv : Value) (spc : Int32) (u0 : Value) (u1 : Value) (ev : Value) (ew : Value) (ra : Value) (rb : Value) (db : Value), (Stand p l e room_1 s m #[(.long xa), (.long xb), (.long xc), (.int ki), (.int kj)] below meth c T244j lo244j 12 90) → (T244j.heap = h244j) → (Fr n0 lo244j) → (n0 ≤ h244j.size) → (Exa Z h244j b_38 sg3) → (xF8 Z h244j b_38 (.ref qx)) → (xF9 Z h244j b_38 (.ref qy)) → (xF10 Z h244j b_38 (.ref fnx_43)) → (xF11 Z h244j b_38 (.ref lnx_43)) → (xF12 Z h244j b_38 (.ref blx_43)) → (xF13 Z h244j b_38 spv) → (xF14 Z h244j b_38 (.int spc)) → (xF15 Z h244j b_38 (.long (own_next (own_next (own_next (-7046029254386353131 : Int64)))))) → (xF16 Z h244j b_38 fev) → (xF17 Z h244j b_38 (.ref fgx_43)) → (aN Z h244j fgx_43 kkgx_43 v0 v1) → (aN Z h244j fnx_43 kkfx_43 u0 u1) → (Exa Z h244j nax_49 sg5) → (xF18 Z h244j nax_49 ev) → (xF19 Z h244j nax_49 ra) → (Exa Z h244j nbx_49 sg5) → (xF18 Z h244j nbx_49 ew) → (xF19 Z h244j nbx_49 rb) → (xF20 Z h244j nbx_49 db) → (Exa Z h244j blx_43 sg4) → (xF4 Z h244j blx_43 (.int (0 : Int32))) → (xF5 Z h244j blx_43 (.long (-9223372036854775808 : Int64))) → (Exa Z h244j qe sg0) → (xF0 Z h244j qe .null) → (xF1 Z h244j qe (.long wqe)) → (xF2 Z h244j qe (.int fqe)) → (xF3 Z h244j qe (.int lqe)) → (Exa Z h244j qx sg0) → (xF0 Z h244j qx (.ref qy)) → (xF1 Z h244j qx (.long wqx)) → (xF2 Z h244j qx (.int fqx)) → (xF3 Z h244j qx (.int lqx)) → (Exa Z h244j qy sg0) → (xF0 Z h244j qy .null) → (xF1 Z h244j qy (.long wqy)) → (xF2 Z h244j qy (.int fqy)) → (xF3 Z h244j qy (.int lqy)) → (n0 ≤ qe) → (n0 ≤ qx) → (n0 ≤ qy) → (qe ≠ b_38) → (qe ≠ fnx_43) → (qe ≠ blx_43) → (qe ≠ fgx_43) → (qe ≠ nax_49) → (qe ≠ nbx_49) → (qx ≠ b_38) → (qx ≠ fnx_43) → (qx ≠ blx_43) → (qx ≠ fgx_43) → (qx ≠ nax_49) → (qx ≠ nbx_49) → (qy ≠ b_38) → (qy ≠ fnx_43) → (qy ≠ blx_43) → (qy ≠ fgx_43) → (qy ≠ nax_49) → (qy ≠ nbx_49) → (qe ≠ qx) → (qe ≠ qy) → (qx ≠ qy) → (own_DD u0 u1 ev ew ra rb db nax_49 nbx_49 qx qy) → own_G p.tables e below P (T244j.setTop (mkF m 244 (lw xa xb xc ki kj (zr b_1::zr b_5::zr b_9::zr b_38::zr qa::zr qb::zr qc::t15::t16::zr qe::zr qx::zr qy::uu7)) [(.ref qe)]))) ?_ ?_
     ·
      intro T244j h244j lo244j t15 t16 qe qx qy lqe lqx lqy fqe fqx fqy wqe wqx wqy spv spc u0 u1 ev ew ra rb db X244j e244j N244j Z244j I0_ I1_ I2_ I3_ I4_ I5_ I6_ I7_ I8_ I9_ I10_ I11_ I12_ I13_ I14_ I15_ I16_ I17_ I18_ I19_ I20_ I21_ I22_ I23_ I24_ I25_ I26_ I27_ I28_ I29_ I30_ I31_ I32_ I33_ I34_ I35_ I36_ I37_ I38_ I39_ I40_ I41_ I42_ I43_ I44_ I45_ I46_ I47_ I48_ I49_ I50_ I51_ I52_ I53_ I54_ I55_ I56_ I57_ I58_ I59_ I60_ I61_ hDD
      obtain ⟨T_63, X_63, e_63, st_63⟩ := getF X244j hx hZ hown (oV hw 166 rfl) Via.refl e244j I24_ (g := (mkF m 255 (lw xa xb xc ki kj (zr b_1::zr b_5::zr b_9::zr b_38::zr qa::zr qb::zr qc::t15::t16::zr qe::zr qx::zr qy::zr qe::uu6)) [(.ref qe)])) rfl rfl (B at_255)
      obtain ⟨cq_64, kq_64, q_64a, q_64b, q_64c⟩ := isOf hZ e_63 I0_
      obtain ⟨_, _, ⟨T_64, L_64, k_64, n_64⟩, -, X_64, ⟨Lc_64, hQ_64, l_64, y_64, z_64⟩, st_64⟩ := X_63.virtualBack hx (y := mn25) (z := mn25) hown (oT hZ hw 161 rfl) (oT hZ hw 162 rfl) (notFace_of_selects (args := #[]) (oT hZ hw 164 rfl)) (oT hZ hw 164 rfl) (oT hZ hw 163 rfl) (by decide) (backOf (W := 0) (rm_fst l Z a0 hw [] b_38 qx h244j n0 Z244j I1_) hZ (oW hw 165 rfl) (oW hw 19 rfl) (by decide) (by decide)) q_64a q_64c (g := (mkF m 265 (lw xa xb xc ki kj (zr b_1::zr b_5::zr b_9::zr b_38::zr qa::zr qb::zr qc::t15::t16::zr qe::zr qx::zr qy::zr qe::uu6)) [(.ref b_38)])) rfl (by rw [hml]; rfl) (Steps.refl _) (argsL := []) (rest := []) (lenOf pd17 rfl) rfl (oQ rfl) (B at_265) (fun _ _ => ⟨rfl, e_63, (by decide : 12 + 0 ≤ _), (by decide : 90 + 0 ≤ _)⟩)
      dsimp only [Pt.U, Pt.locs, Pt.cells, Pt.slots] at X_64 l_64 y_64 z_64 st_64 hQ_64
      subst y_64 z_64
      obtain ⟨rfl, N_64q, p_64_0⟩ := hQ_64
      have N_64 : Fr n0 L_64 := by rw [l_64]; exact Fr.app N244j N_64q
      clear l_64
      obtain ⟨T_65, X_65, e_65, st_65⟩ := getF X_64 hx hZ hown (oV hw 166 rfl) Via.refl p_64_0 I29_ (g := (mkF m 275 (lw xa xb xc ki kj (zr b_1::zr b_5::zr b_9::zr b_38::zr qa::zr qb::zr qc::t15::t16::zr qe::zr qx::zr qy::zr qe::uu6)) [(.ref qx)])) rfl rfl (B at_275)
      obtain ⟨T_66, X_66, e_66, st_66⟩ := getF X_65 hx hZ hown (oV hw 166 rfl) Via.refl e_65 I34_ (g := (mkF m 285 (lw xa xb xc ki kj (zr b_1::zr b_5::zr b_9::zr b_38::zr qa::zr qb::zr qc::t15::t16::zr qe::zr qx::zr qy::zr qe::uu6)) [(.ref qy)])) rfl rfl (B at_285)
      obtain ⟨cq_67, kq_67, q_67a, q_67b, q_67c⟩ := isOf hZ e_66 I0_
      obtain ⟨_, _, ⟨T_67, L_67, k_67, n_67⟩, -, X_67, ⟨Lc_67, hQ_67, l_67, y_67, z_67⟩, st_67⟩ := X_66.virtualBack hx (y := mn27) (z := mn27) hown (oT hZ hw 177 rfl) (oT hZ hw 178 rfl) (notFace_of_selects (args := #[]) (oT hZ hw 180 rfl)) (oT hZ hw 180 rfl) (oT hZ hw 179 rfl) (by decide) (backOf (W := 0) (rm_lao l Z a0 hw [] b_38 qy blx_43 fqy wqy h244j n0 Z244j I0_ I2_ I5_ I20_ I22_ I33_ I35_ I36_) hZ (oW hw 181 rfl) (oW hw 19 rfl) (by decide) (by decide)) q_67a q_67c (g := (mkF m 295 (lw xa xb xc ki kj (zr b_1::zr b_5::zr b_9::zr b_38::zr qa::zr qb::zr qc::t15::t16::zr qe::zr qx::zr qy::zr qe::uu6)) [(.ref b_38)])) rfl (by rw [hml]; rfl) (Steps.refl _) (argsL := []) (rest := []) (lenOf pd13 rfl) rfl (oQ rfl) (B at_295) (fun _ _ => ⟨rfl, e_66, (by decide : 12 + 0 ≤ _), (by decide : 90 + 0 ≤ _)⟩)
      dsimp only [Pt.U, Pt.locs, Pt.cells, Pt.slots] at X_67 l_67 y_67 z_67 st_67 hQ_67
      subst y_67 z_67
      obtain ⟨rfl, N_67q, p_67_0⟩ := hQ_67
      have N_67 : Fr n0 L_67 := by rw [l_67]; exact Fr.app N_64 N_67q
      clear l_67
      obtain ⟨_, _, ⟨T_68, L_68, k_68, n_68⟩, -, X_68, ⟨Lc_68, hQ_68, l_68, y_68, z_68⟩, st_68⟩ := Jvm.LawKit.callS X_67 hx (y := mn3) hown (oT hZ hw 191 rfl) (oT hZ hw 192 rfl) (oT hZ hw 11 rfl) (oT hZ hw 193 rfl) (by decide) (backOf (W := 2) (rm_ordl l Z a0 hw [] qy fqy wqy h244j n0 Z244j I36_ I35_) hZ (oW hw 193 rfl) (oW hw 11 rfl) (by decide) (by decide)) (g := (mkF m 300 (lw xa xb xc ki kj (zr b_1::zr b_5::zr b_9::zr b_38::zr qa::zr qb::zr qc::t15::t16::zr qe::zr qx::zr qy::zr qe::uu6)) [(.ref qy), (.long (own_ord fqy wqy))])) rfl (by rw [hml]; rfl) (argsL := [(.ref qy)]) (rest := [(.long (own_ord fqy wqy))]) (lenOf pd0 rfl) rfl (oQ rfl) (B at_300) (fun _ _ => ⟨rfl, p_67_0, (by decide : 12 + 0 ≤ _), (by decide : 90 + 0 ≤ _)⟩)
      dsimp only [Pt.U, Pt.locs, Pt.cells, Pt.slots] at X_68 l_68 y_68 z_68 st_68 hQ_68
      subst y_68 z_68
      obtain ⟨rfl, N_68q, p_68_0⟩ := hQ_68
      have N_68 : Fr n0 L_68 := by rw [l_68]; exact Fr.app N_67 N_68q
      clear l_68
      obtain ⟨T_69, X_69, e_69, st_69⟩ := getF X_68 hx hZ hown (oV hw 13 rfl) Via.refl p_68_0 I26_ (g := (mkF m 311 (lw xa xb xc ki kj (zr b_1::zr b_5::zr b_9::zr b_38::zr qa::zr qb::zr qc::t15::t16::zr qe::zr qx::zr qy::zr qe::uu6)) [(.ref qe)])) rfl rfl (B at_311)
      refine own_go (S' := T_69.setTop (mkF m 314 (lw xa xb xc ki kj (zr b_1::zr b_5::zr b_9::zr b_38::zr qa::zr qb::zr qc::t15::t16::zr qe::zr qx::zr qy::zr qe::uu6)) [(.int fqe)])) (fun target kt => ?_) ?_
      ·
       show oSt p e below T244j m 244 (lw xa xb xc ki kj (zr b_1::zr b_5::zr b_9::zr b_38::zr qa::zr qb::zr qc::t15::t16::zr qe::zr qx::zr qy::uu7)) [(.ref qe)] target
       refine XS.astore X244j.here hx rfl (B at_244) rfl rfl (l' := (lw xa xb xc ki kj (zr b_1::zr b_5::zr b_9::zr b_38::zr qa::zr qb::zr qc::t15::t16::zr qe::zr qx::zr qy::zr qe::uu6))) rfl ?_
       refine XS.aload X244j.here hx rfl (B at_246) rfl rfl ?_
       refine XS.aload X244j.here hx rfl (B at_248) rfl rfl ?_
       refine Jvm.RoadKit.acmp (g := (mkF m 250 (lw xa xb xc ki kj (zr b_1::zr b_5::zr b_9::zr b_38::zr qa::zr qb::zr qc::t15::t16::zr qe::zr qx::zr qy::zr qe::uu6)) [(.ref qe), (.ref qe)])) X244j hx rfl rfl rfl (pc0 := 250) (pc' := 253) (same := true) rfl (B at_250) rfl (decide_eq_true rfl) (by decide) (by decide) ?_
       refine XS.aload X244j.here hx rfl (B at_253) rfl rfl ?_
       refine st_63 _ ?_
       refine XS.ifnullYes X_63.here hx rfl (pc0 := 258) (pc' := 263) rfl (B at_258) rfl (by decide) (by decide) ?_
       refine XS.aload X_63.here hx rfl (B at_263) rfl rfl ?_
       refine st_64.trans ?_
       refine XS.aload X_64.here hx rfl (B at_268) rfl rfl ?_
       refine Jvm.RoadKit.acmp (g := (mkF m 270 (lw xa xb xc ki kj (zr b_1::zr b_5::zr b_9::zr b_38::zr qa::zr qb::zr qc::t15::t16::zr qe::zr qx::zr qy::zr qe::uu6)) [(.ref qx), (.ref qx)])) X_64 hx rfl rfl rfl (pc0 := 270) (pc' := 273) (same := true) rfl (B at_270) rfl (decide_eq_true rfl) (by decide) (by decide) ?_
       refine XS.aload X_64.here hx rfl (B at_273) rfl rfl ?_
       refine st_65 _ ?_
       refine XS.aload X_65.here hx rfl (B at_278) rfl rfl ?_
       refine Jvm.RoadKit.acmp (g := (mkF m 280 (lw xa xb xc ki kj (zr b_1::zr b_5::zr b_9::zr b_38::zr qa::zr qb::zr qc::t15::t16::zr qe::zr qx::zr qy::zr qe::uu6)) [(.ref qy), (.ref qy)])) X_65 hx rfl rfl rfl (pc0 := 280) (pc' := 283) (same := true) rfl (B at_280) rfl (decide_eq_true rfl) (by decide) (by decide) ?_
       refine XS.aload X_65.here hx rfl (B at_283) rfl rfl ?_
       refine st_66 _ ?_
       show oSt p e below T_66 m 288 (lw xa xb xc ki kj (zr b_1::zr b_5::zr b_9::zr b_38::zr qa::zr qb::zr qc::t15::t16::zr qe::zr qx::zr qy::zr qe::uu6)) [.null] target
       refine XS.ifnullYes X_66.here hx rfl (pc0 := 288) (pc' := 293) rfl (B at_288) rfl (by decide) (by decide) ?_
       refine XS.aload X_66.here hx rfl (B at_293) rfl rfl ?_
       refine st_67.trans ?_
       refine XS.aload X_67.here hx rfl (B at_298) rfl rfl ?_
       refine st_68 _ ?_
       refine XS.lcmp X_68.here hx rfl (B at_303) rfl ?_
       refine XS.ifYes X_68.here hx rfl (pc0 := 304) (pc' := 309) rfl (B at_304) rfl ((if0 _ _).trans (teq (own_l1 (rfl : (own_ord fqy wqy) = (own_ord fqy wqy)))).1) (by decide) (by decide) ?_
       refine XS.aload X_68.here hx rfl (B at_309) rfl rfl ?_
       refine st_69 _ ?_
       exact kt
      by_cases hc314 : fqe = (0 : Int32)
      ·
       obtain ⟨_, _, ⟨T_70, L_70, k_70, n_70⟩, -, X_70, ⟨Lc_70, hQ_70, l_70, y_70, z_70⟩, st_70⟩ := Jvm.LawKit.callS X_69 hx (y := mn3) hown (oT hZ hw 191 rfl) (oT hZ hw 192 rfl) (oT hZ hw 11 rfl) (oT hZ hw 193 rfl) (by decide) (backOf (W := 0) (rm_ordl l Z a0 hw [] qy fqy wqy h244j n0 Z244j I36_ I35_) hZ (oW hw 193 rfl) (oW hw 11 rfl) (by decide) (by decide)) (g := (mkF m 334 (lw xa xb xc ki kj (zr b_1::zr b_5::zr b_9::zr b_38::zr qa::zr qb::zr qc::t15::t16::zr qe::zr qx::zr qy::zr qe::uu6)) [(.ref qy)])) rfl (by rw [hml]; rfl) (argsL := [(.ref qy)]) (rest := []) (lenOf pd0 rfl) rfl (oQ rfl) (B at_334) (fun _ _ => ⟨rfl, e_69, (by decide : 12 + 0 ≤ _), (by decide : 90 + 0 ≤ _)⟩)
       dsimp only [Pt.U, Pt.locs, Pt.cells, Pt.slots] at X_70 l_70 y_70 z_70 st_70 hQ_70
       subst y_70 z_70
       obtain ⟨rfl, N_70q, p_70_0⟩ := hQ_70
       have N_70 : Fr n0 L_70 := by rw [l_70]; exact Fr.app N_68 N_70q
       clear l_70
       obtain ⟨_, _, ⟨T_71, L_71, k_71, n_71⟩, -, X_71, ⟨Lc_71, hQ_71, l_71, y_71, z_71⟩, st_71⟩ := Jvm.LawKit.callS X_70 hx (y := mn3) hown (oT hZ hw 191 rfl) (oT hZ hw 192 rfl) (oT hZ hw 11 rfl) (oT hZ hw 193 rfl) (by decide) (backOf (W := 2) (rm_ordl l Z a0 hw [] qe fqe wqe h244j n0 Z244j I26_ I25_) hZ (oW hw 193 rfl) (oW hw 11 rfl) (by decide) (by decide)) (g := (mkF m 339 (lw xa xb xc ki kj (zr b_1::zr b_5::zr b_9::zr b_38::zr qa::zr qb::zr qc::t15::t16::zr qe::zr qx::zr qy::zr qe::uu6)) [(.ref qe), (.long (own_ord fqy wqy))])) rfl (by rw [hml]; rfl) (argsL := [(.ref qe)]) (rest := [(.long (own_ord fqy wqy))]) (lenOf pd0 rfl) rfl (oQ rfl) (B at_339) (fun _ _ => ⟨rfl, p_70_0, (by decide : 12 + 0 ≤ _), (by decide : 90 + 0 ≤ _)⟩)
       dsimp only [Pt.U, Pt.locs, Pt.cells, Pt.slots] at X_71 l_71 y_71 z_71 st_71 hQ_71
       subst y_71 z_71
       obtain ⟨rfl, N_71q, p_71_0⟩ := hQ_71
       have N_71 : Fr n0 L_71 := by rw [l_71]; exact Fr.app N_70 N_71q
       clear l_71
       refine own_go (S' := T_71.setTop (mkF m 343 (lw xa xb xc ki kj (zr b_1::zr b_5::zr b_9::zr b_38::zr qa::zr qb::zr qc::t15::t16::zr qe::zr qx::zr qy::zr qe::uu6)) [(.int (lcmpW (own_ord fqy wqy) (own_ord fqe wqe)))])) (fun target kt => ?_) ?_
       ·
        show oSt p e below T_69 m 314 (lw xa xb xc ki kj (zr b_1::zr b_5::zr b_9::zr b_38::zr qa::zr qb::zr qc::t15::t16::zr qe::zr qx::zr qy::zr qe::uu6)) [(.int fqe)] target
        refine XS.ifYes X_69.here hx rfl (pc0 := 314) (pc' := 332) rfl (B at_314) rfl ((if0 _ _).trans (teq hc314).1) (by decide) (by decide) ?_
        refine XS.aload X_69.here hx rfl (B at_332) rfl rfl ?_
        refine st_70 _ ?_
        refine XS.aload X_70.here hx rfl (B at_337) rfl rfl ?_
        refine st_71 _ ?_
        refine XS.lcmp X_71.here hx rfl (B at_342) rfl ?_
        exact kt
       by_cases hc343 : (own_ord fqe wqe) < (own_ord fqy wqy)
       ·
        obtain ⟨_, _, ⟨T_72, L_72, k_72, n_72⟩, -, X_72, ⟨Lc_72, hQ_72, l_72, y_72, z_72⟩, st_72⟩ := Jvm.LawKit.callS X_71 hx (y := mn3) hown (oT hZ hw 191 rfl) (oT hZ hw 192 rfl) (oT hZ hw 11 rfl) (oT hZ hw 193 rfl) (by decide) (backOf (W := 0) (rm_ordl l Z a0 hw [] qx fqx wqx h244j n0 Z244j I31_ I30_) hZ (oW hw 193 rfl) (oW hw 11 rfl) (by decide) (by decide)) (g := (mkF m 363 (lw xa xb xc ki kj (zr b_1::zr b_5::zr b_9::zr b_38::zr qa::zr qb::zr qc::t15::t16::zr qe::zr qx::zr qy::zr qe::uu6)) [(.ref qx)])) rfl (by rw [hml]; rfl) (argsL := [(.ref qx)]) (rest := []) (lenOf pd0 rfl) rfl (oQ rfl) (B at_363) (fun _ _ => ⟨rfl, p_71_0, (by decide : 12 + 0 ≤ _), (by decide : 90 + 0 ≤ _)⟩)
        dsimp only [Pt.U, Pt.locs, Pt.cells, Pt.slots] at X_72 l_72 y_72 z_72 st_72 hQ_72
        subst y_72 z_72
        obtain ⟨rfl, N_72q, p_72_0⟩ := hQ_72
        have N_72 : Fr n0 L_72 := by rw [l_72]; exact Fr.app N_71 N_72q
        clear l_72
        obtain ⟨_, _, ⟨T_73, L_73, k_73, n_73⟩, -, X_73, ⟨Lc_73, hQ_73, l_73, y_73, z_73⟩, st_73⟩ := Jvm.LawKit.callS X_72 hx (y := mn3) hown (oT hZ hw 191 rfl) (oT hZ hw 192 rfl) (oT hZ hw 11 rfl) (oT hZ hw 193 rfl) (by decide) (backOf (W := 2) (rm_ordl l Z a0 hw [] qe fqe wqe h244j n0 Z244j I26_ I25_) hZ (oW hw 193 rfl) (oW hw 11 rfl) (by decide) (by decide)) (g := (mkF m 368 (lw xa xb xc ki kj (zr b_1::zr b_5::zr b_9::zr b_38::zr qa::zr qb::zr qc::t15::t16::zr qe::zr qx::zr qy::zr qe::uu6)) [(.ref qe), (.long (own_ord fqx wqx))])) rfl (by rw [hml]; rfl) (argsL := [(.ref qe)]) (rest := [(.long (own_ord fqx wqx))]) (lenOf pd0 rfl) rfl (oQ rfl) (B at_368) (fun _ _ => ⟨rfl, p_72_0, (by decide : 12 + 0 ≤ _), (by decide : 90 + 0 ≤ _)⟩)
        dsimp only [Pt.U, Pt.locs, Pt.cells, Pt.slots] at X_73 l_73 y_73 z_73 st_73 hQ_73
        subst y_73 z_73
        obtain ⟨rfl, N_73q, p_73_0⟩ := hQ_73
        have N_73 : Fr n0 L_73 := by rw [l_73]; exact Fr.app N_72 N_73q
        clear l_73
        refine own_go (S' := T_73.setTop (mkF m 372 (lw xa xb xc ki kj (zr b_1::zr b_5::zr b_9::zr b_38::zr qa::zr qb::zr qc::t15::t16::zr qe::zr qx::zr qy::zr qe::uu6)) [(.int (lcmpW (own_ord fqx wqx) (own_ord fqe wqe)))])) (fun target kt => ?_) ?_
        ·
         show oSt p e below T_71 m 343 (lw xa xb xc ki kj (zr b_1::zr b_5::zr b_9::zr b_38::zr qa::zr qb::zr qc::t15::t16::zr qe::zr qx::zr qy::zr qe::uu6)) [(.int (lcmpW (own_ord fqy wqy) (own_ord fqe wqe)))] target
         refine XS.ifYes X_71.here hx rfl (pc0 := 343) (pc' := 361) rfl (B at_343) rfl ((if0 _ _).trans (tlt (own_l5 hc343)).2.2.1) (by decide) (by decide) ?_
         refine XS.aload X_71.here hx rfl (B at_361) rfl rfl ?_
         refine st_72 _ ?_
         refine XS.aload X_72.here hx rfl (B at_366) rfl rfl ?_
         refine st_73 _ ?_
         refine XS.lcmp X_73.here hx rfl (B at_371) rfl ?_
         exact kt
        by_cases hc372 : (own_ord fqe wqe) < (own_ord fqx wqx)
        ·
         obtain ⟨cq_74, kq_74, q_74a, q_74b, q_74c⟩ := isOf hZ p_73_0 I0_
         obtain ⟨_, _, ⟨T_74, L_74, k_74, n_74⟩, -, X_74, ⟨Lc_74, hQ_74, l_74, y_74, z_74⟩, st_74⟩ := X_73.virtualBack hx (y := mn23) (z := mn23) hown (oT hZ hw 54 rfl) (oT hZ hw 55 rfl) (notFace_of_selects (args := #[]) (oT hZ hw 57 rfl)) (oT hZ hw 57 rfl) (oT hZ hw 56 rfl) (by decide) (backOf (W := 0) (rm_inf l Z a0 hw [] b_38 qe qx qy fnx_43 lnx_43 blx_43 fgx_43 nax_49 nbx_49 kkfx_43 kkgx_43 spc fqx fqy fqe lqe (own_next (own_next (own_next (-7046029254386353131 : Int64)))) wqx wqy wqe spv fev u0 u1 ev ra ew rb db v0 v1 h244j n0 Z244j I0_ I1_ I2_ I3_ I4_ I5_ I6_ I7_ I8_ I9_ I10_ I12_ I13_ I14_ I15_ I16_ I17_ I18_ I19_ I28_ I30_ I31_ I33_ I35_ I36_ I23_ I24_ I25_ I26_ I27_ I11_ I20_ I21_ gn_b_38 I38_ gn_fgx_43 ne_b_38_fnx_43 ne_b_38_nax_49 ne_b_38_nbx_49 (Ne.symm I47_) (Ne.symm I53_) (Ne.symm I41_) ne_b_38_fgx_43 ne_b_38_blx_43 (Ne.symm I42_) p_43_27 (Ne.symm I45_) (Ne.symm ne_fgx_43_nax_49) (Ne.symm I46_) (Ne.symm ne_fgx_43_nbx_49) (Ne.symm I59_) I50_ (Ne.symm I60_) I56_ I44_ I43_ (Ne.symm p_43_30) own_x3 (own_gb2 hc372) (own_gb2 hc343) hDD) hZ (oW hw 58 rfl) (oW hw 19 rfl) (by decide) (by decide)) q_74a q_74c (g := (mkF m 406 (lw xa xb xc ki kj (zr b_1::zr b_5::zr b_9::zr b_38::zr qa::zr qb::zr qc::t15::t16::zr qe::zr qx::zr qy::zr qe::zr qe::zr qx::zr qy::uu3)) [(.ref qe), (.ref b_38)])) rfl (by rw [hml]; rfl) (Steps.refl _) (argsL := [(.ref qe)]) (rest := []) (lenOf pd12 rfl) rfl (oQ rfl) (B at_406) (fun _ _ => ⟨rfl, p_73_0, (by decide : 12 + 0 ≤ _), (by decide : 90 + 0 ≤ _)⟩)
         dsimp only [Pt.U, Pt.locs, Pt.cells, Pt.slots] at X_74 l_74 y_74 z_74 st_74 hQ_74
         subst y_74 z_74
         obtain ⟨rfl, N_74q, p_74_0, p_74_1, p_74_2, p_74_3, p_74_4, p_74_5, p_74_6, p_74_7, p_74_8, p_74_9, p_74_10, p_74_11, p_74_12, p_74_13, p_74_14, p_74_15, p_74_16, p_74_17⟩ := hQ_74
         have N_74 : Fr n0 L_74 := by rw [l_74]; exact Fr.app N_73 N_74q
         clear l_74
         have Z_75 := Nat.le_trans Z244j p_74_0.1
         obtain ⟨cq_77, kq_77, q_77a, q_77b, q_77c⟩ := isOf hZ rfl p_74_1
         obtain ⟨_, _, ⟨T_77, L_77, k_77, n_77⟩, -, X_77, ⟨Lc_77, hQ_77, l_77, y_77, z_77⟩, st_77⟩ := X_74.virtualBack hx (y := mn25) (z := mn25) hown (oT hZ hw 161 rfl) (oT hZ hw 162 rfl) (notFace_of_selects (args := #[]) (oT hZ hw 164 rfl)) (oT hZ hw 164 rfl) (oT hZ hw 163 rfl) (by decide) (backOf (W := 0) (rm_fst l Z a0 hw [] b_38 qe T_74.heap n0 Z_75 p_74_2) hZ (oW hw 165 rfl) (oW hw 19 rfl) (by decide) (by decide)) q_77a q_77c (g := (mkF m 411 (lw xa xb xc ki kj (zr b_1::zr b_5::zr b_9::zr b_38::zr qa::zr qb::zr qc::t15::t16::zr qe::zr qx::zr qy::zr qe::zr qe::zr qx::zr qy::uu3)) [(.ref b_38)])) rfl (by rw [hml]; rfl) (Steps.refl _) (argsL := []) (rest := []) (lenOf pd17 rfl) rfl (oQ rfl) (B at_411) (fun _ _ => ⟨rfl, rfl, (by decide : 12 + 0 ≤ _), (by decide : 90 + 0 ≤ _)⟩)
         dsimp only [Pt.U, Pt.locs, Pt.cells, Pt.slots] at X_77 l_77 y_77 z_77 st_77 hQ_77
         subst y_77 z_77
         obtain ⟨rfl, N_77q, p_77_0⟩ := hQ_77
         have N_77 : Fr n0 L_77 := by rw [l_77]; exact Fr.app N_74 N_77q
         clear l_77
         obtain ⟨T_78, X_78, e_78, st_78⟩ := getF X_77 hx hZ hown (oV hw 166 rfl) Via.refl p_77_0 p_74_13 (g := (mkF m 427 (lw xa xb xc ki kj (zr b_1::zr b_5::zr b_9::zr b_38::zr qa::zr qb::zr qc::t15::t16::zr qe::zr qx::zr qy::zr qe::zr qe::zr qx::zr qy::zr qe::uu2)) [(.ref qe)])) rfl rfl (B at_427)
         have f_79 := (I29_.keep p_74_0 (oN1 I47_ (oN1 (Ne.symm I59_) (oN1 I50_ oN))))
         obtain ⟨T_80, X_80, e_80, st_80⟩ := getF X_78 hx hZ hown (oV hw 166 rfl) Via.refl e_78 f_79 (g := (mkF m 443 (lw xa xb xc ki kj (zr b_1::zr b_5::zr b_9::zr b_38::zr qa::zr qb::zr qc::t15::t16::zr qe::zr qx::zr qy::zr qe::zr qe::zr qx::zr qy::zr qe::zr qx::uu1)) [(.ref qx)])) rfl rfl (B at_443)
         have f_81 := (I34_.keep p_74_0 (oN1 I53_ (oN1 (Ne.symm I60_) (oN1 I56_ oN))))
         obtain ⟨T_82, X_82, e_82, st_82⟩ := getF X_80 hx hZ hown (oV hw 166 rfl) Via.refl e_80 f_81 (g := (mkF m 457 (lw xa xb xc ki kj (zr b_1::zr b_5::zr b_9::zr b_38::zr qa::zr qb::zr qc::t15::t16::zr qe::zr qx::zr qy::zr qe::zr qe::zr qx::zr qy::zr qe::zr qx::zr qy::[])) [(.ref qy)])) rfl rfl (B at_457)
         refine own_go (S' := T_82.setTop (mkF m 468 (lw xa xb xc ki kj (zr b_1::zr b_5::zr b_9::zr b_38::zr qa::zr qb::zr qc::t15::t16::zr qe::zr qx::zr qy::zr qe::zr qe::zr qx::zr qy::zr qe::zr qx::zr qy::[])) [(.int (1 : Int32))])) (fun target kt => ?_) ?_
         ·
          show oSt p e below T_73 m 372 (lw xa xb xc ki kj (zr b_1::zr b_5::zr b_9::zr b_38::zr qa::zr qb::zr qc::t15::t16::zr qe::zr qx::zr qy::zr qe::uu6)) [(.int (lcmpW (own_ord fqx wqx) (own_ord fqe wqe)))] target
          refine XS.ifYes X_73.here hx rfl (pc0 := 372) (pc' := 390) rfl (B at_372) rfl ((if0 _ _).trans (tlt (own_l5 hc372)).2.2.1) (by decide) (by decide) ?_
          refine XS.aload X_73.here hx rfl (B at_390) rfl rfl ?_
          refine XS.astore X_73.here hx rfl (B at_392) rfl rfl (l' := (lw xa xb xc ki kj (zr b_1::zr b_5::zr b_9::zr b_38::zr qa::zr qb::zr qc::t15::t16::zr qe::zr qx::zr qy::zr qe::zr qe::uu5))) rfl ?_
          refine XS.aload X_73.here hx rfl (B at_394) rfl rfl ?_
          refine XS.astore X_73.here hx rfl (B at_396) rfl rfl (l' := (lw xa xb xc ki kj (zr b_1::zr b_5::zr b_9::zr b_38::zr qa::zr qb::zr qc::t15::t16::zr qe::zr qx::zr qy::zr qe::zr qe::zr qx::uu4))) rfl ?_
          refine XS.aload X_73.here hx rfl (B at_398) rfl rfl ?_
          refine XS.astore X_73.here hx rfl (B at_400) rfl rfl (l' := (lw xa xb xc ki kj (zr b_1::zr b_5::zr b_9::zr b_38::zr qa::zr qb::zr qc::t15::t16::zr qe::zr qx::zr qy::zr qe::zr qe::zr qx::zr qy::uu3))) rfl ?_
          refine XS.aload X_73.here hx rfl (B at_402) rfl rfl ?_
          refine XS.aload X_73.here hx rfl (B at_404) rfl rfl ?_
          refine st_74.trans ?_
          refine XS.aload X_74.here hx rfl (B at_409) rfl rfl ?_
          refine st_77.trans ?_
          refine XS.astore X_77.here hx rfl (B at_414) rfl rfl (l' := (lw xa xb xc ki kj (zr b_1::zr b_5::zr b_9::zr b_38::zr qa::zr qb::zr qc::t15::t16::zr qe::zr qx::zr qy::zr qe::zr qe::zr qx::zr qy::zr qe::uu2))) rfl ?_
          refine XS.aload X_77.here hx rfl (B at_416) rfl rfl ?_
          refine XS.aload X_77.here hx rfl (B at_418) rfl rfl ?_
          refine Jvm.RoadKit.acmp (g := (mkF m 420 (lw xa xb xc ki kj (zr b_1::zr b_5::zr b_9::zr b_38::zr qa::zr qb::zr qc::t15::t16::zr qe::zr qx::zr qy::zr qe::zr qe::zr qx::zr qy::zr qe::uu2)) [(.ref qe), (.ref qe)])) X_77 hx rfl rfl rfl (pc0 := 420) (pc' := 425) (same := true) rfl (B at_420) rfl (decide_eq_true rfl) (by decide) (by decide) ?_
          refine XS.aload X_77.here hx rfl (B at_425) rfl rfl ?_
          show oSt p e below T_77 m 427 (lw xa xb xc ki kj (zr b_1::zr b_5::zr b_9::zr b_38::zr qa::zr qb::zr qc::t15::t16::zr qe::zr qx::zr qy::zr qe::zr qe::zr qx::zr qy::zr qe::uu2)) [(.ref qe)] target
          refine st_78 _ ?_
          refine XS.astore X_78.here hx rfl (B at_430) rfl rfl (l' := (lw xa xb xc ki kj (zr b_1::zr b_5::zr b_9::zr b_38::zr qa::zr qb::zr qc::t15::t16::zr qe::zr qx::zr qy::zr qe::zr qe::zr qx::zr qy::zr qe::zr qx::uu1))) rfl ?_
          refine XS.aload X_78.here hx rfl (B at_432) rfl rfl ?_
          refine XS.aload X_78.here hx rfl (B at_434) rfl rfl ?_
          refine Jvm.RoadKit.acmp (g := (mkF m 436 (lw xa xb xc ki kj (zr b_1::zr b_5::zr b_9::zr b_38::zr qa::zr qb::zr qc::t15::t16::zr qe::zr qx::zr qy::zr qe::zr qe::zr qx::zr qy::zr qe::zr qx::uu1)) [(.ref qx), (.ref qx)])) X_78 hx rfl rfl rfl (pc0 := 436) (pc' := 441) (same := true) rfl (B at_436) rfl (decide_eq_true rfl) (by decide) (by decide) ?_
          refine XS.aload X_78.here hx rfl (B at_441) rfl rfl ?_
          refine st_80 _ ?_
          refine XS.astore X_80.here hx rfl (B at_446) rfl rfl (l' := (lw xa xb xc ki kj (zr b_1::zr b_5::zr b_9::zr b_38::zr qa::zr qb::zr qc::t15::t16::zr qe::zr qx::zr qy::zr qe::zr qe::zr qx::zr qy::zr qe::zr qx::zr qy::[]))) rfl ?_
          refine XS.aload X_80.here hx rfl (B at_448) rfl rfl ?_
          refine XS.aload X_80.here hx rfl (B at_450) rfl rfl ?_
          refine Jvm.RoadKit.acmp (g := (mkF m 452 (lw xa xb xc ki kj (zr b_1::zr b_5::zr b_9::zr b_38::zr qa::zr qb::zr qc::t15::t16::zr qe::zr qx::zr qy::zr qe::zr qe::zr qx::zr qy::zr qe::zr qx::zr qy::[])) [(.ref qy), (.ref qy)])) X_80 hx rfl rfl rfl (pc0 := 452) (pc' := 455) (same := true) rfl (B at_452) rfl (decide_eq_true rfl) (by decide) (by decide) ?_
          refine XS.aload X_80.here hx rfl (B at_455) rfl rfl ?_
          refine st_82 _ ?_
          refine XS.ifnonnullNo X_82.here hx rfl (B at_460) rfl ?_
          refine XS.iconst X_82.here hx rfl (B at_463) ?_
          refine XS.goto X_82.here hx rfl (pc0 := 464) (pc' := 468) rfl (B at_464) (by decide) (by decide) ?_
          exact kt
         obtain ⟨fs, hr, hrun, hended, hW, hsame⟩ := X_82.leave (v := some (.int (1 : Int32))) (fun h => by rw [Bd.returns] at h; cases h)
         refine ⟨_, _, retN X_82 hx (t := .boolean) Bd.returns (by simp) (B at_468) hr, hrun, hended, _, _, rfl, ?_, ⟨_, rfl⟩, hW, hsame.mono (by decide) (by decide)⟩
         show Q_law Z xa xb xc ki kj h0 n0 _ T_82.heap _
         rw [e_82]
         exact ⟨rfl, N_77⟩
        ·
         obtain ⟨cq_83, kq_83, q_83a, q_83b, q_83c⟩ := isOf hZ p_73_0 I0_
         obtain ⟨_, _, ⟨T_83, L_83, k_83, n_83⟩, -, X_83, ⟨Lc_83, hQ_83, l_83, y_83, z_83⟩, st_83⟩ := X_73.virtualBack hx (y := mn23) (z := mn23) hown (oT hZ hw 54 rfl) (oT hZ hw 55 rfl) (notFace_of_selects (args := #[]) (oT hZ hw 57 rfl)) (oT hZ hw 57 rfl) (oT hZ hw 56 rfl) (by decide) (backOf (W := 0) (rm_inm l Z a0 hw [] b_38 qe qx qy fnx_43 lnx_43 blx_43 fgx_43 nax_49 nbx_49 kkfx_43 kkgx_43 spc fqx lqx fqy fqe lqe (own_next (own_next (own_next (-7046029254386353131 : Int64)))) wqx wqy wqe spv fev u0 u1 ev ra ew rb db v0 v1 h244j n0 Z244j I0_ I1_ I2_ I3_ I4_ I5_ I6_ I7_ I8_ I9_ I10_ I12_ I13_ I14_ I15_ I16_ I17_ I18_ I19_ I28_ I29_ I30_ I31_ I32_ I33_ I35_ I36_ I23_ I24_ I25_ I26_ I27_ I11_ I20_ I21_ p_43_20 gn_b_38 I38_ I39_ gn_fgx_43 ne_b_38_fnx_43 ne_b_38_nax_49 ne_b_38_nbx_49 (Ne.symm I47_) (Ne.symm I53_) (Ne.symm I41_) ne_b_38_fgx_43 ne_b_38_blx_43 (Ne.symm I48_) (Ne.symm I42_) p_43_27 (Ne.symm I51_) (Ne.symm I45_) (Ne.symm ne_fgx_43_nax_49) (Ne.symm I52_) (Ne.symm I46_) (Ne.symm ne_fgx_43_nbx_49) I61_ (Ne.symm I59_) I50_ I49_ (Ne.symm I60_) I56_ I44_ I43_ (Ne.symm p_43_30) own_x3 (own_gb1 hc314 hc372) (own_gb2 hc343) hDD) hZ (oW hw 58 rfl) (oW hw 19 rfl) (by decide) (by decide)) q_83a q_83c (g := (mkF m 406 (lw xa xb xc ki kj (zr b_1::zr b_5::zr b_9::zr b_38::zr qa::zr qb::zr qc::t15::t16::zr qe::zr qx::zr qy::zr qe::zr qx::zr qe::zr qy::uu3)) [(.ref qe), (.ref b_38)])) rfl (by rw [hml]; rfl) (Steps.refl _) (argsL := [(.ref qe)]) (rest := []) (lenOf pd12 rfl) rfl (oQ rfl) (B at_406) (fun _ _ => ⟨rfl, p_73_0, (by decide : 12 + 0 ≤ _), (by decide : 90 + 0 ≤ _)⟩)
         dsimp only [Pt.U, Pt.locs, Pt.cells, Pt.slots] at X_83 l_83 y_83 z_83 st_83 hQ_83
         subst y_83 z_83
         obtain ⟨g0x_83, g1x_83, rfl, N_83q, p_83_0, p_83_1, p_83_2, p_83_3, p_83_4, p_83_5, p_83_6, p_83_7, p_83_8, p_83_9, p_83_10, p_83_11, p_83_12, p_83_13, p_83_14, p_83_15, p_83_16, p_83_17, p_83_18, p_83_19, p_83_20, p_83_21, p_83_22⟩ := hQ_83
         have N_83 : Fr n0 L_83 := by rw [l_83]; exact Fr.app N_73 N_83q
         clear l_83
         have Z_84 := Nat.le_trans Z244j p_83_0.1
         obtain ⟨cq_86, kq_86, q_86a, q_86b, q_86c⟩ := isOf hZ rfl p_83_1
         obtain ⟨_, _, ⟨T_86, L_86, k_86, n_86⟩, -, X_86, ⟨Lc_86, hQ_86, l_86, y_86, z_86⟩, st_86⟩ := X_83.virtualBack hx (y := mn25) (z := mn25) hown (oT hZ hw 161 rfl) (oT hZ hw 162 rfl) (notFace_of_selects (args := #[]) (oT hZ hw 164 rfl)) (oT hZ hw 164 rfl) (oT hZ hw 163 rfl) (by decide) (backOf (W := 0) (rm_fst l Z a0 hw [] b_38 qx T_83.heap n0 Z_84 p_83_2) hZ (oW hw 165 rfl) (oW hw 19 rfl) (by decide) (by decide)) q_86a q_86c (g := (mkF m 411 (lw xa xb xc ki kj (zr b_1::zr b_5::zr b_9::zr b_38::zr qa::zr qb::zr qc::t15::t16::zr qe::zr qx::zr qy::zr qe::zr qx::zr qe::zr qy::uu3)) [(.ref b_38)])) rfl (by rw [hml]; rfl) (Steps.refl _) (argsL := []) (rest := []) (lenOf pd17 rfl) rfl (oQ rfl) (B at_411) (fun _ _ => ⟨rfl, rfl, (by decide : 12 + 0 ≤ _), (by decide : 90 + 0 ≤ _)⟩)
         dsimp only [Pt.U, Pt.locs, Pt.cells, Pt.slots] at X_86 l_86 y_86 z_86 st_86 hQ_86
         subst y_86 z_86
         obtain ⟨rfl, N_86q, p_86_0⟩ := hQ_86
         have N_86 : Fr n0 L_86 := by rw [l_86]; exact Fr.app N_83 N_86q
         clear l_86
         obtain ⟨T_87, X_87, e_87, st_87⟩ := getF X_86 hx hZ hown (oV hw 166 rfl) Via.refl p_86_0 p_83_14 (g := (mkF m 427 (lw xa xb xc ki kj (zr b_1::zr b_5::zr b_9::zr b_38::zr qa::zr qb::zr qc::t15::t16::zr qe::zr qx::zr qy::zr qe::zr qx::zr qe::zr qy::zr qx::uu2)) [(.ref qx)])) rfl rfl (B at_427)
         obtain ⟨T_88, X_88, e_88, st_88⟩ := getF X_87 hx hZ hown (oV hw 166 rfl) Via.refl e_87 p_83_19 (g := (mkF m 443 (lw xa xb xc ki kj (zr b_1::zr b_5::zr b_9::zr b_38::zr qa::zr qb::zr qc::t15::t16::zr qe::zr qx::zr qy::zr qe::zr qx::zr qe::zr qy::zr qx::zr qe::uu1)) [(.ref qe)])) rfl rfl (B at_443)
         have f_89 := (I34_.keep p_83_0 (oN1 I53_ (oN1 (Ne.symm I60_) (oN1 (Ne.symm I61_) (oN1 I56_ oN)))))
         obtain ⟨T_90, X_90, e_90, st_90⟩ := getF X_88 hx hZ hown (oV hw 166 rfl) Via.refl e_88 f_89 (g := (mkF m 457 (lw xa xb xc ki kj (zr b_1::zr b_5::zr b_9::zr b_38::zr qa::zr qb::zr qc::t15::t16::zr qe::zr qx::zr qy::zr qe::zr qx::zr qe::zr qy::zr qx::zr qe::zr qy::[])) [(.ref qy)])) rfl rfl (B at_457)
         refine own_go (S' := T_90.setTop (mkF m 468 (lw xa xb xc ki kj (zr b_1::zr b_5::zr b_9::zr b_38::zr qa::zr qb::zr qc::t15::t16::zr qe::zr qx::zr qy::zr qe::zr qx::zr qe::zr qy::zr qx::zr qe::zr qy::[])) [(.int (1 : Int32))])) (fun target kt => ?_) ?_
         ·
          show oSt p e below T_73 m 372 (lw xa xb xc ki kj (zr b_1::zr b_5::zr b_9::zr b_38::zr qa::zr qb::zr qc::t15::t16::zr qe::zr qx::zr qy::zr qe::uu6)) [(.int (lcmpW (own_ord fqx wqx) (own_ord fqe wqe)))] target
          refine XS.ifNo X_73.here hx rfl (B at_372) rfl ((if0 _ _).trans (flt (own_l6 hc372)).2.2.1) ?_
          refine XS.aload X_73.here hx rfl (B at_375) rfl rfl ?_
          refine XS.astore X_73.here hx rfl (B at_377) rfl rfl (l' := (lw xa xb xc ki kj (zr b_1::zr b_5::zr b_9::zr b_38::zr qa::zr qb::zr qc::t15::t16::zr qe::zr qx::zr qy::zr qe::zr qx::uu5))) rfl ?_
          refine XS.aload X_73.here hx rfl (B at_379) rfl rfl ?_
          refine XS.astore X_73.here hx rfl (B at_381) rfl rfl (l' := (lw xa xb xc ki kj (zr b_1::zr b_5::zr b_9::zr b_38::zr qa::zr qb::zr qc::t15::t16::zr qe::zr qx::zr qy::zr qe::zr qx::zr qe::uu4))) rfl ?_
          refine XS.aload X_73.here hx rfl (B at_383) rfl rfl ?_
          refine XS.astore X_73.here hx rfl (B at_385) rfl rfl (l' := (lw xa xb xc ki kj (zr b_1::zr b_5::zr b_9::zr b_38::zr qa::zr qb::zr qc::t15::t16::zr qe::zr qx::zr qy::zr qe::zr qx::zr qe::zr qy::uu3))) rfl ?_
          refine XS.goto X_73.here hx rfl (pc0 := 387) (pc' := 402) rfl (B at_387) (by decide) (by decide) ?_
          refine XS.aload X_73.here hx rfl (B at_402) rfl rfl ?_
          refine XS.aload X_73.here hx rfl (B at_404) rfl rfl ?_
          refine st_83.trans ?_
          refine XS.aload X_83.here hx rfl (B at_409) rfl rfl ?_
          refine st_86.trans ?_
          refine XS.astore X_86.here hx rfl (B at_414) rfl rfl (l' := (lw xa xb xc ki kj (zr b_1::zr b_5::zr b_9::zr b_38::zr qa::zr qb::zr qc::t15::t16::zr qe::zr qx::zr qy::zr qe::zr qx::zr qe::zr qy::zr qx::uu2))) rfl ?_
          refine XS.aload X_86.here hx rfl (B at_416) rfl rfl ?_
          refine XS.aload X_86.here hx rfl (B at_418) rfl rfl ?_
          refine Jvm.RoadKit.acmp (g := (mkF m 420 (lw xa xb xc ki kj (zr b_1::zr b_5::zr b_9::zr b_38::zr qa::zr qb::zr qc::t15::t16::zr qe::zr qx::zr qy::zr qe::zr qx::zr qe::zr qy::zr qx::uu2)) [(.ref qx), (.ref qx)])) X_86 hx rfl rfl rfl (pc0 := 420) (pc' := 425) (same := true) rfl (B at_420) rfl (decide_eq_true rfl) (by decide) (by decide) ?_
          show oSt p e below T_86 m 425 (lw xa xb xc ki kj (zr b_1::zr b_5::zr b_9::zr b_38::zr qa::zr qb::zr qc::t15::t16::zr qe::zr qx::zr qy::zr qe::zr qx::zr qe::zr qy::zr qx::uu2)) [] target
          refine XS.aload X_86.here hx rfl (B at_425) rfl rfl ?_
          refine st_87 _ ?_
          refine XS.astore X_87.here hx rfl (B at_430) rfl rfl (l' := (lw xa xb xc ki kj (zr b_1::zr b_5::zr b_9::zr b_38::zr qa::zr qb::zr qc::t15::t16::zr qe::zr qx::zr qy::zr qe::zr qx::zr qe::zr qy::zr qx::zr qe::uu1))) rfl ?_
          refine XS.aload X_87.here hx rfl (B at_432) rfl rfl ?_
          refine XS.aload X_87.here hx rfl (B at_434) rfl rfl ?_
          refine Jvm.RoadKit.acmp (g := (mkF m 436 (lw xa xb xc ki kj (zr b_1::zr b_5::zr b_9::zr b_38::zr qa::zr qb::zr qc::t15::t16::zr qe::zr qx::zr qy::zr qe::zr qx::zr qe::zr qy::zr qx::zr qe::uu1)) [(.ref qe), (.ref qe)])) X_87 hx rfl rfl rfl (pc0 := 436) (pc' := 441) (same := true) rfl (B at_436) rfl (decide_eq_true rfl) (by decide) (by decide) ?_
          refine XS.aload X_87.here hx rfl (B at_441) rfl rfl ?_
          refine st_88 _ ?_
          refine XS.astore X_88.here hx rfl (B at_446) rfl rfl (l' := (lw xa xb xc ki kj (zr b_1::zr b_5::zr b_9::zr b_38::zr qa::zr qb::zr qc::t15::t16::zr qe::zr qx::zr qy::zr qe::zr qx::zr qe::zr qy::zr qx::zr qe::zr qy::[]))) rfl ?_
          refine XS.aload X_88.here hx rfl (B at_448) rfl rfl ?_
          refine XS.aload X_88.here hx rfl (B at_450) rfl rfl ?_
          refine Jvm.RoadKit.acmp (g := (mkF m 452 (lw xa xb xc ki kj (zr b_1::zr b_5::zr b_9::zr b_38::zr qa::zr qb::zr qc::t15::t16::zr qe::zr qx::zr qy::zr qe::zr qx::zr qe::zr qy::zr qx::zr qe::zr qy::[])) [(.ref qy), (.ref qy)])) X_88 hx rfl rfl rfl (pc0 := 452) (pc' := 455) (same := true) rfl (B at_452) rfl (decide_eq_true rfl) (by decide) (by decide) ?_
          refine XS.aload X_88.here hx rfl (B at_455) rfl rfl ?_
          refine st_90 _ ?_
          refine XS.ifnonnullNo X_90.here hx rfl (B at_460) rfl ?_
          refine XS.iconst X_90.here hx rfl (B at_463) ?_
          refine XS.goto X_90.here hx rfl (pc0 := 464) (pc' := 468) rfl (B at_464) (by decide) (by decide) ?_
          show oSt p e below T_90 m 468 (lw xa xb xc ki kj (zr b_1::zr b_5::zr b_9::zr b_38::zr qa::zr qb::zr qc::t15::t16::zr qe::zr qx::zr qy::zr qe::zr qx::zr qe::zr qy::zr qx::zr qe::zr qy::[])) [(.int (1 : Int32))] target
          exact kt
         obtain ⟨fs, hr, hrun, hended, hW, hsame⟩ := X_90.leave (v := some (.int (1 : Int32))) (fun h => by rw [Bd.returns] at h; cases h)
         refine ⟨_, _, retN X_90 hx (t := .boolean) Bd.returns (by simp) (B at_468) hr, hrun, hended, _, _, rfl, ?_, ⟨_, rfl⟩, hW, hsame.mono (by decide) (by decide)⟩
         show Q_law Z xa xb xc ki kj h0 n0 _ T_90.heap _
         rw [e_90]
         exact ⟨rfl, N_86⟩
       ·
        obtain ⟨cq_91, kq_91, q_91a, q_91b, q_91c⟩ := isOf hZ p_71_0 I0_
        obtain ⟨_, _, ⟨T_91, L_91, k_91, n_91⟩, -, X_91, ⟨Lc_91, hQ_91, l_91, y_91, z_91⟩, st_91⟩ := X_71.virtualBack hx (y := mn23) (z := mn23) hown (oT hZ hw 54 rfl) (oT hZ hw 55 rfl) (notFace_of_selects (args := #[]) (oT hZ hw 57 rfl)) (oT hZ hw 57 rfl) (oT hZ hw 56 rfl) (by decide) (backOf (W := 0) (rm_ine l Z a0 hw [] b_38 qe qy fnx_43 lnx_43 blx_43 fgx_43 kkgx_43 spc fqy lqy fqe lqe (own_next (own_next (own_next (-7046029254386353131 : Int64)))) wqy wqe (.ref qx) spv fev v0 v1 h244j n0 Z244j I0_ I1_ I2_ I3_ I4_ I5_ I6_ I7_ I8_ I9_ I10_ I33_ I34_ I35_ I36_ I37_ I23_ I24_ I25_ I26_ I27_ I11_ I20_ I21_ gn_b_38 I38_ I40_ gn_fgx_43 (Ne.symm I53_) (Ne.symm I41_) ne_b_38_fgx_43 ne_b_38_blx_43 (Ne.symm I60_) I56_ I55_ I44_ I43_ (Ne.symm p_43_30) own_x3 (own_gb1 hc314 hc343)) hZ (oW hw 58 rfl) (oW hw 19 rfl) (by decide) (by decide)) q_91a q_91c (g := (mkF m 406 (lw xa xb xc ki kj (zr b_1::zr b_5::zr b_9::zr b_38::zr qa::zr qb::zr qc::t15::t16::zr qe::zr qx::zr qy::zr qe::zr qx::zr qy::zr qe::uu3)) [(.ref qe), (.ref b_38)])) rfl (by rw [hml]; rfl) (Steps.refl _) (argsL := [(.ref qe)]) (rest := []) (lenOf pd12 rfl) rfl (oQ rfl) (B at_406) (fun _ _ => ⟨rfl, p_71_0, (by decide : 12 + 0 ≤ _), (by decide : 90 + 0 ≤ _)⟩)
        dsimp only [Pt.U, Pt.locs, Pt.cells, Pt.slots] at X_91 l_91 y_91 z_91 st_91 hQ_91
        subst y_91 z_91
        obtain ⟨rfl, N_91q, p_91_0, p_91_1, p_91_2, p_91_3, p_91_4, p_91_5, p_91_6, p_91_7, p_91_8, p_91_9, p_91_10, p_91_11, p_91_12, p_91_13, p_91_14, p_91_15, p_91_16, p_91_17, p_91_18, p_91_19, p_91_20, p_91_21, p_91_22⟩ := hQ_91
        have N_91 : Fr n0 L_91 := by rw [l_91]; exact Fr.app N_71 N_91q
        clear l_91
        have Z_92 := Nat.le_trans Z244j p_91_0.1
        obtain ⟨cq_94, kq_94, q_94a, q_94b, q_94c⟩ := isOf hZ rfl p_91_1
        obtain ⟨_, _, ⟨T_94, L_94, k_94, n_94⟩, -, X_94, ⟨Lc_94, hQ_94, l_94, y_94, z_94⟩, st_94⟩ := X_91.virtualBack hx (y := mn25) (z := mn25) hown (oT hZ hw 161 rfl) (oT hZ hw 162 rfl) (notFace_of_selects (args := #[]) (oT hZ hw 164 rfl)) (oT hZ hw 164 rfl) (oT hZ hw 163 rfl) (by decide) (backOf (W := 0) (rm_fst l Z a0 hw [] b_38 qx T_91.heap n0 Z_92 p_91_2) hZ (oW hw 165 rfl) (oW hw 19 rfl) (by decide) (by decide)) q_94a q_94c (g := (mkF m 411 (lw xa xb xc ki kj (zr b_1::zr b_5::zr b_9::zr b_38::zr qa::zr qb::zr qc::t15::t16::zr qe::zr qx::zr qy::zr qe::zr qx::zr qy::zr qe::uu3)) [(.ref b_38)])) rfl (by rw [hml]; rfl) (Steps.refl _) (argsL := []) (rest := []) (lenOf pd17 rfl) rfl (oQ rfl) (B at_411) (fun _ _ => ⟨rfl, rfl, (by decide : 12 + 0 ≤ _), (by decide : 90 + 0 ≤ _)⟩)
        dsimp only [Pt.U, Pt.locs, Pt.cells, Pt.slots] at X_94 l_94 y_94 z_94 st_94 hQ_94
        subst y_94 z_94
        obtain ⟨rfl, N_94q, p_94_0⟩ := hQ_94
        have N_94 : Fr n0 L_94 := by rw [l_94]; exact Fr.app N_91 N_94q
        clear l_94
        have f_95 := (I29_.keep p_91_0 (oN1 I47_ (oN1 (Ne.symm I59_) (oN1 I61_ (oN1 I50_ oN)))))
        obtain ⟨T_96, X_96, e_96, st_96⟩ := getF X_94 hx hZ hown (oV hw 166 rfl) Via.refl p_94_0 f_95 (g := (mkF m 427 (lw xa xb xc ki kj (zr b_1::zr b_5::zr b_9::zr b_38::zr qa::zr qb::zr qc::t15::t16::zr qe::zr qx::zr qy::zr qe::zr qx::zr qy::zr qe::zr qx::uu2)) [(.ref qx)])) rfl rfl (B at_427)
        obtain ⟨T_97, X_97, e_97, st_97⟩ := getF X_96 hx hZ hown (oV hw 166 rfl) Via.refl e_96 p_91_13 (g := (mkF m 443 (lw xa xb xc ki kj (zr b_1::zr b_5::zr b_9::zr b_38::zr qa::zr qb::zr qc::t15::t16::zr qe::zr qx::zr qy::zr qe::zr qx::zr qy::zr qe::zr qx::zr qy::uu1)) [(.ref qy)])) rfl rfl (B at_443)
        obtain ⟨T_98, X_98, e_98, st_98⟩ := getF X_97 hx hZ hown (oV hw 166 rfl) Via.refl e_97 p_91_18 (g := (mkF m 457 (lw xa xb xc ki kj (zr b_1::zr b_5::zr b_9::zr b_38::zr qa::zr qb::zr qc::t15::t16::zr qe::zr qx::zr qy::zr qe::zr qx::zr qy::zr qe::zr qx::zr qy::zr qe::[])) [(.ref qe)])) rfl rfl (B at_457)
        refine own_go (S' := T_98.setTop (mkF m 468 (lw xa xb xc ki kj (zr b_1::zr b_5::zr b_9::zr b_38::zr qa::zr qb::zr qc::t15::t16::zr qe::zr qx::zr qy::zr qe::zr qx::zr qy::zr qe::zr qx::zr qy::zr qe::[])) [(.int (1 : Int32))])) (fun target kt => ?_) ?_
        ·
         show oSt p e below T_71 m 343 (lw xa xb xc ki kj (zr b_1::zr b_5::zr b_9::zr b_38::zr qa::zr qb::zr qc::t15::t16::zr qe::zr qx::zr qy::zr qe::uu6)) [(.int (lcmpW (own_ord fqy wqy) (own_ord fqe wqe)))] target
         refine XS.ifNo X_71.here hx rfl (B at_343) rfl ((if0 _ _).trans (flt (own_l6 hc343)).2.2.1) ?_
         refine XS.aload X_71.here hx rfl (B at_346) rfl rfl ?_
         refine XS.astore X_71.here hx rfl (B at_348) rfl rfl (l' := (lw xa xb xc ki kj (zr b_1::zr b_5::zr b_9::zr b_38::zr qa::zr qb::zr qc::t15::t16::zr qe::zr qx::zr qy::zr qe::zr qx::uu5))) rfl ?_
         refine XS.aload X_71.here hx rfl (B at_350) rfl rfl ?_
         refine XS.astore X_71.here hx rfl (B at_352) rfl rfl (l' := (lw xa xb xc ki kj (zr b_1::zr b_5::zr b_9::zr b_38::zr qa::zr qb::zr qc::t15::t16::zr qe::zr qx::zr qy::zr qe::zr qx::zr qy::uu4))) rfl ?_
         refine XS.aload X_71.here hx rfl (B at_354) rfl rfl ?_
         refine XS.astore X_71.here hx rfl (B at_356) rfl rfl (l' := (lw xa xb xc ki kj (zr b_1::zr b_5::zr b_9::zr b_38::zr qa::zr qb::zr qc::t15::t16::zr qe::zr qx::zr qy::zr qe::zr qx::zr qy::zr qe::uu3))) rfl ?_
         refine XS.goto X_71.here hx rfl (pc0 := 358) (pc' := 402) rfl (B at_358) (by decide) (by decide) ?_
         refine XS.aload X_71.here hx rfl (B at_402) rfl rfl ?_
         refine XS.aload X_71.here hx rfl (B at_404) rfl rfl ?_
         refine st_91.trans ?_
         refine XS.aload X_91.here hx rfl (B at_409) rfl rfl ?_
         refine st_94.trans ?_
         refine XS.astore X_94.here hx rfl (B at_414) rfl rfl (l' := (lw xa xb xc ki kj (zr b_1::zr b_5::zr b_9::zr b_38::zr qa::zr qb::zr qc::t15::t16::zr qe::zr qx::zr qy::zr qe::zr qx::zr qy::zr qe::zr qx::uu2))) rfl ?_
         refine XS.aload X_94.here hx rfl (B at_416) rfl rfl ?_
         refine XS.aload X_94.here hx rfl (B at_418) rfl rfl ?_
         refine Jvm.RoadKit.acmp (g := (mkF m 420 (lw xa xb xc ki kj (zr b_1::zr b_5::zr b_9::zr b_38::zr qa::zr qb::zr qc::t15::t16::zr qe::zr qx::zr qy::zr qe::zr qx::zr qy::zr qe::zr qx::uu2)) [(.ref qx), (.ref qx)])) X_94 hx rfl rfl rfl (pc0 := 420) (pc' := 425) (same := true) rfl (B at_420) rfl (decide_eq_true rfl) (by decide) (by decide) ?_
         show oSt p e below T_94 m 425 (lw xa xb xc ki kj (zr b_1::zr b_5::zr b_9::zr b_38::zr qa::zr qb::zr qc::t15::t16::zr qe::zr qx::zr qy::zr qe::zr qx::zr qy::zr qe::zr qx::uu2)) [] target
         refine XS.aload X_94.here hx rfl (B at_425) rfl rfl ?_
         refine st_96 _ ?_
         refine XS.astore X_96.here hx rfl (B at_430) rfl rfl (l' := (lw xa xb xc ki kj (zr b_1::zr b_5::zr b_9::zr b_38::zr qa::zr qb::zr qc::t15::t16::zr qe::zr qx::zr qy::zr qe::zr qx::zr qy::zr qe::zr qx::zr qy::uu1))) rfl ?_
         refine XS.aload X_96.here hx rfl (B at_432) rfl rfl ?_
         refine XS.aload X_96.here hx rfl (B at_434) rfl rfl ?_
         refine Jvm.RoadKit.acmp (g := (mkF m 436 (lw xa xb xc ki kj (zr b_1::zr b_5::zr b_9::zr b_38::zr qa::zr qb::zr qc::t15::t16::zr qe::zr qx::zr qy::zr qe::zr qx::zr qy::zr qe::zr qx::zr qy::uu1)) [(.ref qy), (.ref qy)])) X_96 hx rfl rfl rfl (pc0 := 436) (pc' := 441) (same := true) rfl (B at_436) rfl (decide_eq_true rfl) (by decide) (by decide) ?_
         refine XS.aload X_96.here hx rfl (B at_441) rfl rfl ?_
         refine st_97 _ ?_
         refine XS.astore X_97.here hx rfl (B at_446) rfl rfl (l' := (lw xa xb xc ki kj (zr b_1::zr b_5::zr b_9::zr b_38::zr qa::zr qb::zr qc::t15::t16::zr qe::zr qx::zr qy::zr qe::zr qx::zr qy::zr qe::zr qx::zr qy::zr qe::[]))) rfl ?_
         refine XS.aload X_97.here hx rfl (B at_448) rfl rfl ?_
         refine XS.aload X_97.here hx rfl (B at_450) rfl rfl ?_
         refine Jvm.RoadKit.acmp (g := (mkF m 452 (lw xa xb xc ki kj (zr b_1::zr b_5::zr b_9::zr b_38::zr qa::zr qb::zr qc::t15::t16::zr qe::zr qx::zr qy::zr qe::zr qx::zr qy::zr qe::zr qx::zr qy::zr qe::[])) [(.ref qe), (.ref qe)])) X_97 hx rfl rfl rfl (pc0 := 452) (pc' := 455) (same := true) rfl (B at_452) rfl (decide_eq_true rfl) (by decide) (by decide) ?_
         refine XS.aload X_97.here hx rfl (B at_455) rfl rfl ?_
         refine st_98 _ ?_
         refine XS.ifnonnullNo X_98.here hx rfl (B at_460) rfl ?_
         refine XS.iconst X_98.here hx rfl (B at_463) ?_
         refine XS.goto X_98.here hx rfl (pc0 := 464) (pc' := 468) rfl (B at_464) (by decide) (by decide) ?_
         show oSt p e below T_98 m 468 (lw xa xb xc ki kj (zr b_1::zr b_5::zr b_9::zr b_38::zr qa::zr qb::zr qc::t15::t16::zr qe::zr qx::zr qy::zr qe::zr qx::zr qy::zr qe::zr qx::zr qy::zr qe::[])) [(.int (1 : Int32))] target
         exact kt
        obtain ⟨fs, hr, hrun, hended, hW, hsame⟩ := X_98.leave (v := some (.int (1 : Int32))) (fun h => by rw [Bd.returns] at h; cases h)
        refine ⟨_, _, retN X_98 hx (t := .boolean) Bd.returns (by simp) (B at_468) hr, hrun, hended, _, _, rfl, ?_, ⟨_, rfl⟩, hW, hsame.mono (by decide) (by decide)⟩
        show Q_law Z xa xb xc ki kj h0 n0 _ T_98.heap _
        rw [e_98]
        exact ⟨rfl, N_94⟩
      ·
       obtain ⟨cq_99, kq_99, q_99a, q_99b, q_99c⟩ := isOf hZ e_69 I0_
       obtain ⟨_, _, ⟨T_99, L_99, k_99, n_99⟩, -, X_99, ⟨Lc_99, hQ_99, l_99, y_99, z_99⟩, st_99⟩ := X_69.virtualBack hx (y := mn23) (z := mn23) hown (oT hZ hw 54 rfl) (oT hZ hw 55 rfl) (notFace_of_selects (args := #[]) (oT hZ hw 57 rfl)) (oT hZ hw 57 rfl) (oT hZ hw 56 rfl) (by decide) (backOf (W := 0) (rm_inf l Z a0 hw [] b_38 qe qx qy fnx_43 lnx_43 blx_43 fgx_43 nax_49 nbx_49 kkfx_43 kkgx_43 spc fqx fqy fqe lqe (own_next (own_next (own_next (-7046029254386353131 : Int64)))) wqx wqy wqe spv fev u0 u1 ev ra ew rb db v0 v1 h244j n0 Z244j I0_ I1_ I2_ I3_ I4_ I5_ I6_ I7_ I8_ I9_ I10_ I12_ I13_ I14_ I15_ I16_ I17_ I18_ I19_ I28_ I30_ I31_ I33_ I35_ I36_ I23_ I24_ I25_ I26_ I27_ I11_ I20_ I21_ gn_b_38 I38_ gn_fgx_43 ne_b_38_fnx_43 ne_b_38_nax_49 ne_b_38_nbx_49 (Ne.symm I47_) (Ne.symm I53_) (Ne.symm I41_) ne_b_38_fgx_43 ne_b_38_blx_43 (Ne.symm I42_) p_43_27 (Ne.symm I45_) (Ne.symm ne_fgx_43_nax_49) (Ne.symm I46_) (Ne.symm ne_fgx_43_nbx_49) (Ne.symm I59_) I50_ (Ne.symm I60_) I56_ I44_ I43_ (Ne.symm p_43_30) own_x3 (own_gb0 hc314) (own_gb0 hc314) hDD) hZ (oW hw 58 rfl) (oW hw 19 rfl) (by decide) (by decide)) q_99a q_99c (g := (mkF m 406 (lw xa xb xc ki kj (zr b_1::zr b_5::zr b_9::zr b_38::zr qa::zr qb::zr qc::t15::t16::zr qe::zr qx::zr qy::zr qe::zr qe::zr qx::zr qy::uu3)) [(.ref qe), (.ref b_38)])) rfl (by rw [hml]; rfl) (Steps.refl _) (argsL := [(.ref qe)]) (rest := []) (lenOf pd12 rfl) rfl (oQ rfl) (B at_406) (fun _ _ => ⟨rfl, e_69, (by decide : 12 + 0 ≤ _), (by decide : 90 + 0 ≤ _)⟩)
       dsimp only [Pt.U, Pt.locs, Pt.cells, Pt.slots] at X_99 l_99 y_99 z_99 st_99 hQ_99
       subst y_99 z_99
       obtain ⟨rfl, N_99q, p_99_0, p_99_1, p_99_2, p_99_3, p_99_4, p_99_5, p_99_6, p_99_7, p_99_8, p_99_9, p_99_10, p_99_11, p_99_12, p_99_13, p_99_14, p_99_15, p_99_16, p_99_17⟩ := hQ_99
       have N_99 : Fr n0 L_99 := by rw [l_99]; exact Fr.app N_68 N_99q
       clear l_99
       have Z_100 := Nat.le_trans Z244j p_99_0.1
       obtain ⟨cq_102, kq_102, q_102a, q_102b, q_102c⟩ := isOf hZ rfl p_99_1
       obtain ⟨_, _, ⟨T_102, L_102, k_102, n_102⟩, -, X_102, ⟨Lc_102, hQ_102, l_102, y_102, z_102⟩, st_102⟩ := X_99.virtualBack hx (y := mn25) (z := mn25) hown (oT hZ hw 161 rfl) (oT hZ hw 162 rfl) (notFace_of_selects (args := #[]) (oT hZ hw 164 rfl)) (oT hZ hw 164 rfl) (oT hZ hw 163 rfl) (by decide) (backOf (W := 0) (rm_fst l Z a0 hw [] b_38 qe T_99.heap n0 Z_100 p_99_2) hZ (oW hw 165 rfl) (oW hw 19 rfl) (by decide) (by decide)) q_102a q_102c (g := (mkF m 411 (lw xa xb xc ki kj (zr b_1::zr b_5::zr b_9::zr b_38::zr qa::zr qb::zr qc::t15::t16::zr qe::zr qx::zr qy::zr qe::zr qe::zr qx::zr qy::uu3)) [(.ref b_38)])) rfl (by rw [hml]; rfl) (Steps.refl _) (argsL := []) (rest := []) (lenOf pd17 rfl) rfl (oQ rfl) (B at_411) (fun _ _ => ⟨rfl, rfl, (by decide : 12 + 0 ≤ _), (by decide : 90 + 0 ≤ _)⟩)
       dsimp only [Pt.U, Pt.locs, Pt.cells, Pt.slots] at X_102 l_102 y_102 z_102 st_102 hQ_102
       subst y_102 z_102
       obtain ⟨rfl, N_102q, p_102_0⟩ := hQ_102
       have N_102 : Fr n0 L_102 := by rw [l_102]; exact Fr.app N_99 N_102q
       clear l_102
       obtain ⟨T_103, X_103, e_103, st_103⟩ := getF X_102 hx hZ hown (oV hw 166 rfl) Via.refl p_102_0 p_99_13 (g := (mkF m 427 (lw xa xb xc ki kj (zr b_1::zr b_5::zr b_9::zr b_38::zr qa::zr qb::zr qc::t15::t16::zr qe::zr qx::zr qy::zr qe::zr qe::zr qx::zr qy::zr qe::uu2)) [(.ref qe)])) rfl rfl (B at_427)
       have f_104 := (I29_.keep p_99_0 (oN1 I47_ (oN1 (Ne.symm I59_) (oN1 I50_ oN))))
       obtain ⟨T_105, X_105, e_105, st_105⟩ := getF X_103 hx hZ hown (oV hw 166 rfl) Via.refl e_103 f_104 (g := (mkF m 443 (lw xa xb xc ki kj (zr b_1::zr b_5::zr b_9::zr b_38::zr qa::zr qb::zr qc::t15::t16::zr qe::zr qx::zr qy::zr qe::zr qe::zr qx::zr qy::zr qe::zr qx::uu1)) [(.ref qx)])) rfl rfl (B at_443)
       have f_106 := (I34_.keep p_99_0 (oN1 I53_ (oN1 (Ne.symm I60_) (oN1 I56_ oN))))
       obtain ⟨T_107, X_107, e_107, st_107⟩ := getF X_105 hx hZ hown (oV hw 166 rfl) Via.refl e_105 f_106 (g := (mkF m 457 (lw xa xb xc ki kj (zr b_1::zr b_5::zr b_9::zr b_38::zr qa::zr qb::zr qc::t15::t16::zr qe::zr qx::zr qy::zr qe::zr qe::zr qx::zr qy::zr qe::zr qx::zr qy::[])) [(.ref qy)])) rfl rfl (B at_457)
       refine own_go (S' := T_107.setTop (mkF m 468 (lw xa xb xc ki kj (zr b_1::zr b_5::zr b_9::zr b_38::zr qa::zr qb::zr qc::t15::t16::zr qe::zr qx::zr qy::zr qe::zr qe::zr qx::zr qy::zr qe::zr qx::zr qy::[])) [(.int (1 : Int32))])) (fun target kt => ?_) ?_
       ·
        show oSt p e below T_69 m 314 (lw xa xb xc ki kj (zr b_1::zr b_5::zr b_9::zr b_38::zr qa::zr qb::zr qc::t15::t16::zr qe::zr qx::zr qy::zr qe::uu6)) [(.int fqe)] target
        refine XS.ifNo X_69.here hx rfl (B at_314) rfl ((if0 _ _).trans (feq hc314).1) ?_
        refine XS.aload X_69.here hx rfl (B at_317) rfl rfl ?_
        refine XS.astore X_69.here hx rfl (B at_319) rfl rfl (l' := (lw xa xb xc ki kj (zr b_1::zr b_5::zr b_9::zr b_38::zr qa::zr qb::zr qc::t15::t16::zr qe::zr qx::zr qy::zr qe::zr qe::uu5))) rfl ?_
        refine XS.aload X_69.here hx rfl (B at_321) rfl rfl ?_
        refine XS.astore X_69.here hx rfl (B at_323) rfl rfl (l' := (lw xa xb xc ki kj (zr b_1::zr b_5::zr b_9::zr b_38::zr qa::zr qb::zr qc::t15::t16::zr qe::zr qx::zr qy::zr qe::zr qe::zr qx::uu4))) rfl ?_
        refine XS.aload X_69.here hx rfl (B at_325) rfl rfl ?_
        refine XS.astore X_69.here hx rfl (B at_327) rfl rfl (l' := (lw xa xb xc ki kj (zr b_1::zr b_5::zr b_9::zr b_38::zr qa::zr qb::zr qc::t15::t16::zr qe::zr qx::zr qy::zr qe::zr qe::zr qx::zr qy::uu3))) rfl ?_
        refine XS.goto X_69.here hx rfl (pc0 := 329) (pc' := 402) rfl (B at_329) (by decide) (by decide) ?_
        refine XS.aload X_69.here hx rfl (B at_402) rfl rfl ?_
        refine XS.aload X_69.here hx rfl (B at_404) rfl rfl ?_
        refine st_99.trans ?_
        refine XS.aload X_99.here hx rfl (B at_409) rfl rfl ?_
        refine st_102.trans ?_
        refine XS.astore X_102.here hx rfl (B at_414) rfl rfl (l' := (lw xa xb xc ki kj (zr b_1::zr b_5::zr b_9::zr b_38::zr qa::zr qb::zr qc::t15::t16::zr qe::zr qx::zr qy::zr qe::zr qe::zr qx::zr qy::zr qe::uu2))) rfl ?_
        refine XS.aload X_102.here hx rfl (B at_416) rfl rfl ?_
        refine XS.aload X_102.here hx rfl (B at_418) rfl rfl ?_
        refine Jvm.RoadKit.acmp (g := (mkF m 420 (lw xa xb xc ki kj (zr b_1::zr b_5::zr b_9::zr b_38::zr qa::zr qb::zr qc::t15::t16::zr qe::zr qx::zr qy::zr qe::zr qe::zr qx::zr qy::zr qe::uu2)) [(.ref qe), (.ref qe)])) X_102 hx rfl rfl rfl (pc0 := 420) (pc' := 425) (same := true) rfl (B at_420) rfl (decide_eq_true rfl) (by decide) (by decide) ?_
        show oSt p e below T_102 m 425 (lw xa xb xc ki kj (zr b_1::zr b_5::zr b_9::zr b_38::zr qa::zr qb::zr qc::t15::t16::zr qe::zr qx::zr qy::zr qe::zr qe::zr qx::zr qy::zr qe::uu2)) [] target
        refine XS.aload X_102.here hx rfl (B at_425) rfl rfl ?_
        refine st_103 _ ?_
        refine XS.astore X_103.here hx rfl (B at_430) rfl rfl (l' := (lw xa xb xc ki kj (zr b_1::zr b_5::zr b_9::zr b_38::zr qa::zr qb::zr qc::t15::t16::zr qe::zr qx::zr qy::zr qe::zr qe::zr qx::zr qy::zr qe::zr qx::uu1))) rfl ?_
        refine XS.aload X_103.here hx rfl (B at_432) rfl rfl ?_
        refine XS.aload X_103.here hx rfl (B at_434) rfl rfl ?_
        refine Jvm.RoadKit.acmp (g := (mkF m 436 (lw xa xb xc ki kj (zr b_1::zr b_5::zr b_9::zr b_38::zr qa::zr qb::zr qc::t15::t16::zr qe::zr qx::zr qy::zr qe::zr qe::zr qx::zr qy::zr qe::zr qx::uu1)) [(.ref qx), (.ref qx)])) X_103 hx rfl rfl rfl (pc0 := 436) (pc' := 441) (same := true) rfl (B at_436) rfl (decide_eq_true rfl) (by decide) (by decide) ?_
        refine XS.aload X_103.here hx rfl (B at_441) rfl rfl ?_
        refine st_105 _ ?_
        refine XS.astore X_105.here hx rfl (B at_446) rfl rfl (l' := (lw xa xb xc ki kj (zr b_1::zr b_5::zr b_9::zr b_38::zr qa::zr qb::zr qc::t15::t16::zr qe::zr qx::zr qy::zr qe::zr qe::zr qx::zr qy::zr qe::zr qx::zr qy::[]))) rfl ?_
        refine XS.aload X_105.here hx rfl (B at_448) rfl rfl ?_
        refine XS.aload X_105.here hx rfl (B at_450) rfl rfl ?_
        refine Jvm.RoadKit.acmp (g := (mkF m 452 (lw xa xb xc ki kj (zr b_1::zr b_5::zr b_9::zr b_38::zr qa::zr qb::zr qc::t15::t16::zr qe::zr qx::zr qy::zr qe::zr qe::zr qx::zr qy::zr qe::zr qx::zr qy::[])) [(.ref qy), (.ref qy)])) X_105 hx rfl rfl rfl (pc0 := 452) (pc' := 455) (same := true) rfl (B at_452) rfl (decide_eq_true rfl) (by decide) (by decide) ?_
        refine XS.aload X_105.here hx rfl (B at_455) rfl rfl ?_
        refine st_107 _ ?_
        refine XS.ifnonnullNo X_107.here hx rfl (B at_460) rfl ?_
        refine XS.iconst X_107.here hx rfl (B at_463) ?_
        refine XS.goto X_107.here hx rfl (pc0 := 464) (pc' := 468) rfl (B at_464) (by decide) (by decide) ?_
        show oSt p e below T_107 m 468 (lw xa xb xc ki kj (zr b_1::zr b_5::zr b_9::zr b_38::zr qa::zr qb::zr qc::t15::t16::zr qe::zr qx::zr qy::zr qe::zr qe::zr qx::zr qy::zr qe::zr qx::zr qy::[])) [(.int (1 : Int32))] target
        exact kt
       obtain ⟨fs, hr, hrun, hended, hW, hsame⟩ := X_107.leave (v := some (.int (1 : Int32))) (fun h => by rw [Bd.returns] at h; cases h)
       refine ⟨_, _, retN X_107 hx (t := .boolean) Bd.returns (by simp) (B at_468) hr, hrun, hended, _, _, rfl, ?_, ⟨_, rfl⟩, hW, hsame.mono (by decide) (by decide)⟩
       show Q_law Z xa xb xc ki kj h0 n0 _ T_107.heap _
       rw [e_107]
       exact ⟨rfl, N_102⟩
     ·
      intro J244
      refine own_go (S' := T_62.setTop (mkF m 173 (lw xa xb xc ki kj (zr b_1::zr b_5::zr b_9::zr b_38::zr qa::zr qb::zr qc::.val (.int ((kj &&& (2147483647 : Int32)) % (3 : Int32)))::uu11)) [(.int ((kj &&& (2147483647 : Int32)) % (3 : Int32)))])) (fun target kt => ?_) ?_
      ·
       show oSt p e below T_62 m 171 (lw xa xb xc ki kj (zr b_1::zr b_5::zr b_9::zr b_38::zr qa::zr qb::zr qc::.val (.int ((kj &&& (2147483647 : Int32)) % (3 : Int32)))::uu11)) [] target
       refine XS.iload X_62.here hx rfl (B at_171) rfl ?_
       exact kt
      by_cases hc173 : ((kj &&& (2147483647 : Int32)) % (3 : Int32)) = (0 : Int32)
      ·
       obtain ⟨cq_108, kq_108, q_108a, q_108b, q_108c⟩ := isOf hZ e_62 H0_
       obtain ⟨_, _, ⟨T_108, L_108, k_108, n_108⟩, -, X_108, ⟨Lc_108, hQ_108, l_108, y_108, z_108⟩, st_108⟩ := X_62.virtualBack hx (y := mn31) (z := mn31) hown (oT hZ hw 168 rfl) (oT hZ hw 169 rfl) (notFace_of_selects (args := #[]) (oT hZ hw 171 rfl)) (oT hZ hw 171 rfl) (oT hZ hw 170 rfl) (by decide) (backOf (W := 0) (rm_take0 l Z a0 hw [] b_38 qa qc fnx_43 lnx_43 blx_43 fgx_43 qb nax_49 nbx_49 b_1 kkfx_43 kklx_43 fqa lqa (own_next (own_next (own_next (-7046029254386353131 : Int64)))) wqa fev h112j n0 Z112j H0_ H1_ H2_ H3_ H4_ H5_ H6_ H7_ H8_ H9_ H10_ H25_ H26_ H27_ H28_ H29_ H35_ H12_ H13_ H14_ H15_ H16_ H17_ H18_ H19_ H20_ H21_ p_43_18 p_43_19 gn_b_38 gn_fnx_43 gn_lnx_43 gn_nax_49 gn_nbx_49 H40_ (Ne.symm H43_) (Ne.symm H57_) ne_b_38_fnx_43 ne_b_38_lnx_43 ne_b_38_nax_49 ne_b_38_nbx_49 H65_ H44_ H45_ H48_ H49_ H58_ H59_ H62_ H63_ p_43_25 ne_fnx_43_nax_49 ne_fnx_43_nbx_49 ne_lnx_43_nax_49 ne_lnx_43_nbx_49 p_49_29 (own_HT hHa)) hZ (oW hw 172 rfl) (oW hw 19 rfl) (by decide) (by decide)) q_108a q_108c (g := (mkF m 241 (lw xa xb xc ki kj (zr b_1::zr b_5::zr b_9::zr b_38::zr qa::zr qb::zr qc::.val (.int ((kj &&& (2147483647 : Int32)) % (3 : Int32)))::zn::zr qa::zr qb::zr qc::uu7)) [(.ref qa), .null, (.ref b_38)])) rfl (by rw [hml]; rfl) (Steps.refl _) (argsL := [.null, (.ref qa)]) (rest := []) (lenOf pd18 rfl) rfl (oQ rfl) (B at_241) (fun _ _ => ⟨rfl, e_62, (by decide : 12 + 0 ≤ _), (by decide : 90 + 0 ≤ _)⟩)
       dsimp only [Pt.U, Pt.locs, Pt.cells, Pt.slots] at X_108 l_108 y_108 z_108 st_108 hQ_108
       subst y_108 z_108
       obtain ⟨u0x_108, u1x_108, evx_108, ewx_108, rax_108, rbx_108, dbx_108, spvx_108, spcx_108, rfl, N_108q, p_108_0, p_108_1, p_108_2, p_108_3, p_108_4, p_108_5, p_108_6, p_108_7, p_108_8, p_108_9, p_108_10, p_108_11, p_108_12, p_108_13, p_108_14, p_108_15, p_108_16, p_108_17, p_108_18, p_108_19, p_108_20, p_108_21, p_108_22, p_108_23, p_108_24, p_108_25⟩ := hQ_108
       have N_108 : Fr n0 L_108 := by rw [l_108]; exact Fr.app N_59 N_108q
       clear l_108
       have Z_109 := Nat.le_trans Z112j p_108_0.1
       have f_111 := (H11_.keep p_108_0 (oN1 (Ne.symm ne_b_38_fgx_43) (oN1 (Ne.symm p_43_27) (oN1 (Ne.symm p_43_29) (oN1 ne_fgx_43_nax_49 (oN1 ne_fgx_43_nbx_49 (oN1 (Ne.symm H47_) oN)))))))
       have f_112 := (H22_.keep p_108_0)
       have f_113 := (H23_.keep p_108_0 (oN1 (Ne.symm ne_b_38_blx_43) (oN1 (Ne.symm p_43_26) (oN1 (Ne.symm p_43_28) (oN1 ne_blx_43_nax_49 (oN1 ne_blx_43_nbx_49 (oN1 (Ne.symm H46_) oN)))))))
       have f_114 := (H24_.keep p_108_0 (oN1 (Ne.symm ne_b_38_blx_43) (oN1 (Ne.symm p_43_26) (oN1 (Ne.symm p_43_28) (oN1 ne_blx_43_nax_49 (oN1 ne_blx_43_nbx_49 (oN1 (Ne.symm H46_) oN)))))))
       have f_115 := (H30_.keep p_108_0)
       have f_116 := (H31_.keep p_108_0 (oN1 H50_ (oN1 H51_ (oN1 H52_ (oN1 H55_ (oN1 H56_ (oN1 (Ne.symm H64_) oN)))))))
       have f_117 := (H32_.keep p_108_0 (oN1 H50_ (oN1 H51_ (oN1 H52_ (oN1 H55_ (oN1 H56_ (oN1 (Ne.symm H64_) oN)))))))
       have f_118 := (H33_.keep p_108_0 (oN1 H50_ (oN1 H51_ (oN1 H52_ (oN1 H55_ (oN1 H56_ (oN1 (Ne.symm H64_) oN)))))))
       have f_119 := (H34_.keep p_108_0 (oN1 H50_ (oN1 H51_ (oN1 H52_ (oN1 H55_ (oN1 H56_ (oN1 (Ne.symm H64_) oN)))))))
       have f_120 := (H35_.keep p_108_0)
       have f_121 := (H36_.keep p_108_0 (oN1 H57_ (oN1 H58_ (oN1 H59_ (oN1 H62_ (oN1 H63_ (oN1 (Ne.symm H65_) oN)))))))
       have f_122 := (H37_.keep p_108_0 (oN1 H57_ (oN1 H58_ (oN1 H59_ (oN1 H62_ (oN1 H63_ (oN1 (Ne.symm H65_) oN)))))))
       have f_123 := (H38_.keep p_108_0 (oN1 H57_ (oN1 H58_ (oN1 H59_ (oN1 H62_ (oN1 H63_ (oN1 (Ne.symm H65_) oN)))))))
       have f_124 := (H39_.keep p_108_0 (oN1 H57_ (oN1 H58_ (oN1 H59_ (oN1 H62_ (oN1 H63_ (oN1 (Ne.symm H65_) oN)))))))
       refine own_go (S' := T_108.setTop (mkF m 244 (lw xa xb xc ki kj (zr b_1::zr b_5::zr b_9::zr b_38::zr qa::zr qb::zr qc::.val (.int ((kj &&& (2147483647 : Int32)) % (3 : Int32)))::zn::zr qa::zr qb::zr qc::uu7)) [(.ref qa)])) (fun target kt => ?_) ?_
       ·
        show oSt p e below T_62 m 173 (lw xa xb xc ki kj (zr b_1::zr b_5::zr b_9::zr b_38::zr qa::zr qb::zr qc::.val (.int ((kj &&& (2147483647 : Int32)) % (3 : Int32)))::uu11)) [(.int ((kj &&& (2147483647 : Int32)) % (3 : Int32)))] target
        refine XS.ifNo X_62.here hx rfl (B at_173) rfl ((if0 _ _).trans (teq hc173).2) ?_
        refine XS.aconstNull X_62.here hx rfl (B at_176) ?_
        refine XS.astore X_62.here hx rfl (B at_177) rfl rfl (l' := (lw xa xb xc ki kj (zr b_1::zr b_5::zr b_9::zr b_38::zr qa::zr qb::zr qc::.val (.int ((kj &&& (2147483647 : Int32)) % (3 : Int32)))::zn::uu10))) rfl ?_
        refine XS.aload X_62.here hx rfl (B at_179) rfl rfl ?_
        refine XS.astore X_62.here hx rfl (B at_181) rfl rfl (l' := (lw xa xb xc ki kj (zr b_1::zr b_5::zr b_9::zr b_38::zr qa::zr qb::zr qc::.val (.int ((kj &&& (2147483647 : Int32)) % (3 : Int32)))::zn::zr qa::uu9))) rfl ?_
        refine XS.aload X_62.here hx rfl (B at_183) rfl rfl ?_
        refine XS.astore X_62.here hx rfl (B at_185) rfl rfl (l' := (lw xa xb xc ki kj (zr b_1::zr b_5::zr b_9::zr b_38::zr qa::zr qb::zr qc::.val (.int ((kj &&& (2147483647 : Int32)) % (3 : Int32)))::zn::zr qa::zr qb::uu8))) rfl ?_
        refine XS.aload X_62.here hx rfl (B at_187) rfl rfl ?_
        refine XS.astore X_62.here hx rfl (B at_189) rfl rfl (l' := (lw xa xb xc ki kj (zr b_1::zr b_5::zr b_9::zr b_38::zr qa::zr qb::zr qc::.val (.int ((kj &&& (2147483647 : Int32)) % (3 : Int32)))::zn::zr qa::zr qb::zr qc::uu7))) rfl ?_
        refine XS.goto X_62.here hx rfl (pc0 := 191) (pc' := 235) rfl (B at_191) (by decide) (by decide) ?_
        refine XS.aload X_62.here hx rfl (B at_235) rfl rfl ?_
        refine XS.aload X_62.here hx rfl (B at_237) rfl rfl ?_
        refine XS.aload X_62.here hx rfl (B at_239) rfl rfl ?_
        refine st_108.trans ?_
        exact kt
       exact J244 T_108 T_108.heap _ (.val (.int ((kj &&& (2147483647 : Int32)) % (3 : Int32)))) (.val .null) qa qb qc lqa lqb lqc fqa fqb fqc wqa wqb wqc spvx_108 spcx_108 u0x_108 u1x_108 evx_108 ewx_108 rax_108 rbx_108 dbx_108 X_108 rfl N_108 Z_109 p_108_2 p_108_3 p_108_4 p_108_5 p_108_6 p_108_7 p_108_8 p_108_9 p_108_10 p_108_11 p_108_12 f_111 p_108_18 p_108_19 p_108_20 p_108_21 p_108_22 p_108_23 p_108_24 p_108_25 f_112 f_113 f_114 p_108_13 p_108_14 p_108_15 p_108_16 p_108_17 f_115 f_116 f_117 f_118 f_119 f_120 f_121 f_122 f_123 f_124 H40_ H41_ H42_ H43_ H44_ H46_ H47_ H48_ H49_ H50_ H51_ H53_ H54_ H55_ H56_ H57_ H58_ H60_ H61_ H62_ H63_ H64_ H65_ H66_ (own_HD p_108_1 hHa)
      ·
       refine own_go (S' := T_62.setTop (mkF m 197 (lw xa xb xc ki kj (zr b_1::zr b_5::zr b_9::zr b_38::zr qa::zr qb::zr qc::.val (.int ((kj &&& (2147483647 : Int32)) % (3 : Int32)))::uu11)) [(.int (1 : Int32)), (.int ((kj &&& (2147483647 : Int32)) % (3 : Int32)))])) (fun target kt => ?_) ?_
       ·
        show oSt p e below T_62 m 173 (lw xa xb xc ki kj (zr b_1::zr b_5::zr b_9::zr b_38::zr qa::zr qb::zr qc::.val (.int ((kj &&& (2147483647 : Int32)) % (3 : Int32)))::uu11)) [(.int ((kj &&& (2147483647 : Int32)) % (3 : Int32)))] target
        refine XS.ifYes X_62.here hx rfl (pc0 := 173) (pc' := 194) rfl (B at_173) rfl ((if0 _ _).trans (feq hc173).2) (by decide) (by decide) ?_
        refine XS.iload X_62.here hx rfl (B at_194) rfl ?_
        refine XS.iconst X_62.here hx rfl (B at_196) ?_
        exact kt
       by_cases hc197 : ((kj &&& (2147483647 : Int32)) % (3 : Int32)) = (1 : Int32)
       ·
        obtain ⟨cq_125, kq_125, q_125a, q_125b, q_125c⟩ := isOf hZ e_62 H0_
        obtain ⟨_, _, ⟨T_125, L_125, k_125, n_125⟩, -, X_125, ⟨Lc_125, hQ_125, l_125, y_125, z_125⟩, st_125⟩ := X_62.virtualBack hx (y := mn31) (z := mn31) hown (oT hZ hw 168 rfl) (oT hZ hw 169 rfl) (notFace_of_selects (args := #[]) (oT hZ hw 171 rfl)) (oT hZ hw 171 rfl) (oT hZ hw 170 rfl) (by decide) (backOf (W := 0) (rm_take1 l Z a0 hw [] b_38 qa qb qc fnx_43 lnx_43 blx_43 fgx_43 nax_49 nbx_49 b_1 kkfx_43 kklx_43 fqb lqb fqa lqa (own_next (own_next (own_next (-7046029254386353131 : Int64)))) wqb wqa (.ref qa) fev h112j n0 Z112j H0_ H1_ H2_ H3_ H4_ H5_ H6_ H7_ H8_ H9_ H10_ H30_ H31_ H32_ H33_ H34_ H25_ H26_ H27_ H28_ H29_ H35_ H12_ H13_ H14_ H15_ H16_ H17_ H18_ H19_ H20_ H21_ p_43_18 p_43_19 gn_b_38 gn_fnx_43 gn_lnx_43 gn_nax_49 gn_nbx_49 H41_ H40_ (Ne.symm H50_) (Ne.symm H43_) (Ne.symm H57_) ne_b_38_fnx_43 ne_b_38_lnx_43 ne_b_38_nax_49 ne_b_38_nbx_49 (Ne.symm H64_) H66_ H51_ H52_ H55_ H56_ H65_ H44_ H45_ H48_ H49_ H58_ H59_ H62_ H63_ p_43_25 ne_fnx_43_nax_49 ne_fnx_43_nbx_49 ne_lnx_43_nax_49 ne_lnx_43_nbx_49 p_49_29 (own_HT hHb)) hZ (oW hw 172 rfl) (oW hw 19 rfl) (by decide) (by decide)) q_125a q_125c (g := (mkF m 241 (lw xa xb xc ki kj (zr b_1::zr b_5::zr b_9::zr b_38::zr qa::zr qb::zr qc::.val (.int ((kj &&& (2147483647 : Int32)) % (3 : Int32)))::zr qa::zr qb::zr qa::zr qc::uu7)) [(.ref qb), (.ref qa), (.ref b_38)])) rfl (by rw [hml]; rfl) (Steps.refl _) (argsL := [(.ref qa), (.ref qb)]) (rest := []) (lenOf pd18 rfl) rfl (oQ rfl) (B at_241) (fun _ _ => ⟨rfl, e_62, (by decide : 12 + 0 ≤ _), (by decide : 90 + 0 ≤ _)⟩)
        dsimp only [Pt.U, Pt.locs, Pt.cells, Pt.slots] at X_125 l_125 y_125 z_125 st_125 hQ_125
        subst y_125 z_125
        obtain ⟨u0x_125, u1x_125, evx_125, ewx_125, rax_125, rbx_125, dbx_125, spvx_125, spcx_125, rfl, N_125q, p_125_0, p_125_1, p_125_2, p_125_3, p_125_4, p_125_5, p_125_6, p_125_7, p_125_8, p_125_9, p_125_10, p_125_11, p_125_12, p_125_13, p_125_14, p_125_15, p_125_16, p_125_17, p_125_18, p_125_19, p_125_20, p_125_21, p_125_22, p_125_23, p_125_24, p_125_25, p_125_26, p_125_27, p_125_28, p_125_29, p_125_30⟩ := hQ_125
        have N_125 : Fr n0 L_125 := by rw [l_125]; exact Fr.app N_59 N_125q
        clear l_125
        have Z_126 := Nat.le_trans Z112j p_125_0.1
        have f_128 := (H11_.keep p_125_0 (oN1 (Ne.symm ne_b_38_fgx_43) (oN1 (Ne.symm p_43_27) (oN1 (Ne.symm p_43_29) (oN1 ne_fgx_43_nax_49 (oN1 ne_fgx_43_nbx_49 (oN1 (Ne.symm H54_) (oN1 (Ne.symm H47_) oN))))))))
        have f_129 := (H22_.keep p_125_0)
        have f_130 := (H23_.keep p_125_0 (oN1 (Ne.symm ne_b_38_blx_43) (oN1 (Ne.symm p_43_26) (oN1 (Ne.symm p_43_28) (oN1 ne_blx_43_nax_49 (oN1 ne_blx_43_nbx_49 (oN1 (Ne.symm H53_) (oN1 (Ne.symm H46_) oN))))))))
        have f_131 := (H24_.keep p_125_0 (oN1 (Ne.symm ne_b_38_blx_43) (oN1 (Ne.symm p_43_26) (oN1 (Ne.symm p_43_28) (oN1 ne_blx_43_nax_49 (oN1 ne_blx_43_nbx_49 (oN1 (Ne.symm H53_) (oN1 (Ne.symm H46_) oN))))))))
        have f_132 := (H35_.keep p_125_0)
        have f_133 := (H36_.keep p_125_0 (oN1 H57_ (oN1 H58_ (oN1 H59_ (oN1 H62_ (oN1 H63_ (oN1 (Ne.symm H66_) (oN1 (Ne.symm H65_) oN))))))))
        have f_134 := (H37_.keep p_125_0 (oN1 H57_ (oN1 H58_ (oN1 H59_ (oN1 H62_ (oN1 H63_ (oN1 (Ne.symm H66_) (oN1 (Ne.symm H65_) oN))))))))
        have f_135 := (H38_.keep p_125_0 (oN1 H57_ (oN1 H58_ (oN1 H59_ (oN1 H62_ (oN1 H63_ (oN1 (Ne.symm H66_) (oN1 (Ne.symm H65_) oN))))))))
        have f_136 := (H39_.keep p_125_0 (oN1 H57_ (oN1 H58_ (oN1 H59_ (oN1 H62_ (oN1 H63_ (oN1 (Ne.symm H66_) (oN1 (Ne.symm H65_) oN))))))))
        refine own_go (S' := T_125.setTop (mkF m 244 (lw xa xb xc ki kj (zr b_1::zr b_5::zr b_9::zr b_38::zr qa::zr qb::zr qc::.val (.int ((kj &&& (2147483647 : Int32)) % (3 : Int32)))::zr qa::zr qb::zr qa::zr qc::uu7)) [(.ref qb)])) (fun target kt => ?_) ?_
        ·
         show oSt p e below T_62 m 197 (lw xa xb xc ki kj (zr b_1::zr b_5::zr b_9::zr b_38::zr qa::zr qb::zr qc::.val (.int ((kj &&& (2147483647 : Int32)) % (3 : Int32)))::uu11)) [(.int (1 : Int32)), (.int ((kj &&& (2147483647 : Int32)) % (3 : Int32)))] target
         refine XS.icmpNo X_62.here hx rfl (B at_197) rfl (teq hc197).2 ?_
         refine XS.aload X_62.here hx rfl (B at_200) rfl rfl ?_
         refine XS.astore X_62.here hx rfl (B at_202) rfl rfl (l' := (lw xa xb xc ki kj (zr b_1::zr b_5::zr b_9::zr b_38::zr qa::zr qb::zr qc::.val (.int ((kj &&& (2147483647 : Int32)) % (3 : Int32)))::zr qa::uu10))) rfl ?_
         refine XS.aload X_62.here hx rfl (B at_204) rfl rfl ?_
         refine XS.astore X_62.here hx rfl (B at_206) rfl rfl (l' := (lw xa xb xc ki kj (zr b_1::zr b_5::zr b_9::zr b_38::zr qa::zr qb::zr qc::.val (.int ((kj &&& (2147483647 : Int32)) % (3 : Int32)))::zr qa::zr qb::uu9))) rfl ?_
         refine XS.aload X_62.here hx rfl (B at_208) rfl rfl ?_
         refine XS.astore X_62.here hx rfl (B at_210) rfl rfl (l' := (lw xa xb xc ki kj (zr b_1::zr b_5::zr b_9::zr b_38::zr qa::zr qb::zr qc::.val (.int ((kj &&& (2147483647 : Int32)) % (3 : Int32)))::zr qa::zr qb::zr qa::uu8))) rfl ?_
         refine XS.aload X_62.here hx rfl (B at_212) rfl rfl ?_
         refine XS.astore X_62.here hx rfl (B at_214) rfl rfl (l' := (lw xa xb xc ki kj (zr b_1::zr b_5::zr b_9::zr b_38::zr qa::zr qb::zr qc::.val (.int ((kj &&& (2147483647 : Int32)) % (3 : Int32)))::zr qa::zr qb::zr qa::zr qc::uu7))) rfl ?_
         refine XS.goto X_62.here hx rfl (pc0 := 216) (pc' := 235) rfl (B at_216) (by decide) (by decide) ?_
         refine XS.aload X_62.here hx rfl (B at_235) rfl rfl ?_
         refine XS.aload X_62.here hx rfl (B at_237) rfl rfl ?_
         refine XS.aload X_62.here hx rfl (B at_239) rfl rfl ?_
         refine st_125.trans ?_
         exact kt
        exact J244 T_125 T_125.heap _ (.val (.int ((kj &&& (2147483647 : Int32)) % (3 : Int32)))) (.val (.ref qa)) qb qa qc lqb lqa lqc fqb fqa fqc wqb wqa wqc spvx_125 spcx_125 u0x_125 u1x_125 evx_125 ewx_125 rax_125 rbx_125 dbx_125 X_125 rfl N_125 Z_126 p_125_2 p_125_3 p_125_4 p_125_5 p_125_6 p_125_7 p_125_8 p_125_9 p_125_10 p_125_11 p_125_12 f_128 p_125_23 p_125_24 p_125_25 p_125_26 p_125_27 p_125_28 p_125_29 p_125_30 f_129 f_130 f_131 p_125_13 p_125_14 p_125_15 p_125_16 p_125_17 p_125_18 p_125_19 p_125_20 p_125_21 p_125_22 f_132 f_133 f_134 f_135 f_136 H41_ H40_ H42_ H50_ H51_ H53_ H54_ H55_ H56_ H43_ H44_ H46_ H47_ H48_ H49_ H57_ H58_ H60_ H61_ H62_ H63_ (Ne.symm H64_) H66_ H65_ (own_HD p_125_1 hHb)
       ·
        obtain ⟨cq_137, kq_137, q_137a, q_137b, q_137c⟩ := isOf hZ e_62 H0_
        obtain ⟨_, _, ⟨T_137, L_137, k_137, n_137⟩, -, X_137, ⟨Lc_137, hQ_137, l_137, y_137, z_137⟩, st_137⟩ := X_62.virtualBack hx (y := mn31) (z := mn31) hown (oT hZ hw 168 rfl) (oT hZ hw 169 rfl) (notFace_of_selects (args := #[]) (oT hZ hw 171 rfl)) (oT hZ hw 171 rfl) (oT hZ hw 170 rfl) (by decide) (backOf (W := 0) (rm_take2 l Z a0 hw [] b_38 qb qc fnx_43 lnx_43 blx_43 fgx_43 nax_49 nbx_49 b_1 kkfx_43 kklx_43 fqc lqc fqb lqb (own_next (own_next (own_next (-7046029254386353131 : Int64)))) wqc wqb (.ref qa) fev h112j n0 Z112j H0_ H1_ H2_ H3_ H4_ H5_ H6_ H7_ H8_ H9_ H10_ H35_ H36_ H37_ H38_ H39_ H30_ H31_ H32_ H33_ H34_ H12_ H13_ H14_ H15_ H16_ H17_ H18_ H19_ H20_ H21_ p_43_18 p_43_19 gn_b_38 gn_fnx_43 gn_lnx_43 gn_nax_49 gn_nbx_49 H42_ H41_ (Ne.symm H57_) (Ne.symm H50_) ne_b_38_fnx_43 ne_b_38_lnx_43 ne_b_38_nax_49 ne_b_38_nbx_49 (Ne.symm H66_) H58_ H59_ H62_ H63_ H51_ H52_ H55_ H56_ p_43_25 ne_fnx_43_nax_49 ne_fnx_43_nbx_49 ne_lnx_43_nax_49 ne_lnx_43_nbx_49 p_49_29 (own_HT hHc)) hZ (oW hw 172 rfl) (oW hw 19 rfl) (by decide) (by decide)) q_137a q_137c (g := (mkF m 241 (lw xa xb xc ki kj (zr b_1::zr b_5::zr b_9::zr b_38::zr qa::zr qb::zr qc::.val (.int ((kj &&& (2147483647 : Int32)) % (3 : Int32)))::zr qb::zr qc::zr qa::zr qb::uu7)) [(.ref qc), (.ref qb), (.ref b_38)])) rfl (by rw [hml]; rfl) (Steps.refl _) (argsL := [(.ref qb), (.ref qc)]) (rest := []) (lenOf pd18 rfl) rfl (oQ rfl) (B at_241) (fun _ _ => ⟨rfl, e_62, (by decide : 12 + 0 ≤ _), (by decide : 90 + 0 ≤ _)⟩)
        dsimp only [Pt.U, Pt.locs, Pt.cells, Pt.slots] at X_137 l_137 y_137 z_137 st_137 hQ_137
        subst y_137 z_137
        obtain ⟨u0x_137, u1x_137, evx_137, ewx_137, rax_137, rbx_137, dbx_137, spvx_137, spcx_137, rfl, N_137q, p_137_0, p_137_1, p_137_2, p_137_3, p_137_4, p_137_5, p_137_6, p_137_7, p_137_8, p_137_9, p_137_10, p_137_11, p_137_12, p_137_13, p_137_14, p_137_15, p_137_16, p_137_17, p_137_18, p_137_19, p_137_20, p_137_21, p_137_22, p_137_23, p_137_24, p_137_25, p_137_26, p_137_27, p_137_28, p_137_29, p_137_30⟩ := hQ_137
        have N_137 : Fr n0 L_137 := by rw [l_137]; exact Fr.app N_59 N_137q
        clear l_137
        have Z_138 := Nat.le_trans Z112j p_137_0.1
        have f_140 := (H11_.keep p_137_0 (oN1 (Ne.symm ne_b_38_fgx_43) (oN1 (Ne.symm p_43_27) (oN1 (Ne.symm p_43_29) (oN1 ne_fgx_43_nax_49 (oN1 ne_fgx_43_nbx_49 (oN1 (Ne.symm H61_) (oN1 (Ne.symm H54_) oN))))))))
        have f_141 := (H22_.keep p_137_0)
        have f_142 := (H23_.keep p_137_0 (oN1 (Ne.symm ne_b_38_blx_43) (oN1 (Ne.symm p_43_26) (oN1 (Ne.symm p_43_28) (oN1 ne_blx_43_nax_49 (oN1 ne_blx_43_nbx_49 (oN1 (Ne.symm H60_) (oN1 (Ne.symm H53_) oN))))))))
        have f_143 := (H24_.keep p_137_0 (oN1 (Ne.symm ne_b_38_blx_43) (oN1 (Ne.symm p_43_26) (oN1 (Ne.symm p_43_28) (oN1 ne_blx_43_nax_49 (oN1 ne_blx_43_nbx_49 (oN1 (Ne.symm H60_) (oN1 (Ne.symm H53_) oN))))))))
        have f_144 := (H25_.keep p_137_0)
        have f_145 := (H26_.keep p_137_0 (oN1 H43_ (oN1 H44_ (oN1 H45_ (oN1 H48_ (oN1 H49_ (oN1 H65_ (oN1 H64_ oN))))))))
        have f_146 := (H27_.keep p_137_0 (oN1 H43_ (oN1 H44_ (oN1 H45_ (oN1 H48_ (oN1 H49_ (oN1 H65_ (oN1 H64_ oN))))))))
        have f_147 := (H28_.keep p_137_0 (oN1 H43_ (oN1 H44_ (oN1 H45_ (oN1 H48_ (oN1 H49_ (oN1 H65_ (oN1 H64_ oN))))))))
        have f_148 := (H29_.keep p_137_0 (oN1 H43_ (oN1 H44_ (oN1 H45_ (oN1 H48_ (oN1 H49_ (oN1 H65_ (oN1 H64_ oN))))))))
        refine own_go (S' := T_137.setTop (mkF m 244 (lw xa xb xc ki kj (zr b_1::zr b_5::zr b_9::zr b_38::zr qa::zr qb::zr qc::.val (.int ((kj &&& (2147483647 : Int32)) % (3 : Int32)))::zr qb::zr qc::zr qa::zr qb::uu7)) [(.ref qc)])) (fun target kt => ?_) ?_
        ·
         show oSt p e below T_62 m 197 (lw xa xb xc ki kj (zr b_1::zr b_5::zr b_9::zr b_38::zr qa::zr qb::zr qc::.val (.int ((kj &&& (2147483647 : Int32)) % (3 : Int32)))::uu11)) [(.int (1 : Int32)), (.int ((kj &&& (2147483647 : Int32)) % (3 : Int32)))] target
         refine XS.icmpYes X_62.here hx rfl (pc0 := 197) (pc' := 219) rfl (B at_197) rfl (feq hc197).2 (by decide) (by decide) ?_
         refine XS.aload X_62.here hx rfl (B at_219) rfl rfl ?_
         refine XS.astore X_62.here hx rfl (B at_221) rfl rfl (l' := (lw xa xb xc ki kj (zr b_1::zr b_5::zr b_9::zr b_38::zr qa::zr qb::zr qc::.val (.int ((kj &&& (2147483647 : Int32)) % (3 : Int32)))::zr qb::uu10))) rfl ?_
         refine XS.aload X_62.here hx rfl (B at_223) rfl rfl ?_
         refine XS.astore X_62.here hx rfl (B at_225) rfl rfl (l' := (lw xa xb xc ki kj (zr b_1::zr b_5::zr b_9::zr b_38::zr qa::zr qb::zr qc::.val (.int ((kj &&& (2147483647 : Int32)) % (3 : Int32)))::zr qb::zr qc::uu9))) rfl ?_
         refine XS.aload X_62.here hx rfl (B at_227) rfl rfl ?_
         refine XS.astore X_62.here hx rfl (B at_229) rfl rfl (l' := (lw xa xb xc ki kj (zr b_1::zr b_5::zr b_9::zr b_38::zr qa::zr qb::zr qc::.val (.int ((kj &&& (2147483647 : Int32)) % (3 : Int32)))::zr qb::zr qc::zr qa::uu8))) rfl ?_
         refine XS.aload X_62.here hx rfl (B at_231) rfl rfl ?_
         refine XS.astore X_62.here hx rfl (B at_233) rfl rfl (l' := (lw xa xb xc ki kj (zr b_1::zr b_5::zr b_9::zr b_38::zr qa::zr qb::zr qc::.val (.int ((kj &&& (2147483647 : Int32)) % (3 : Int32)))::zr qb::zr qc::zr qa::zr qb::uu7))) rfl ?_
         refine XS.aload X_62.here hx rfl (B at_235) rfl rfl ?_
         refine XS.aload X_62.here hx rfl (B at_237) rfl rfl ?_
         refine XS.aload X_62.here hx rfl (B at_239) rfl rfl ?_
         refine st_137.trans ?_
         exact kt
        exact J244 T_137 T_137.heap _ (.val (.int ((kj &&& (2147483647 : Int32)) % (3 : Int32)))) (.val (.ref qb)) qc qa qb lqc lqa lqb fqc fqa fqb wqc wqa wqb spvx_137 spcx_137 u0x_137 u1x_137 evx_137 ewx_137 rax_137 rbx_137 dbx_137 X_137 rfl N_137 Z_138 p_137_2 p_137_3 p_137_4 p_137_5 p_137_6 p_137_7 p_137_8 p_137_9 p_137_10 p_137_11 p_137_12 f_140 p_137_23 p_137_24 p_137_25 p_137_26 p_137_27 p_137_28 p_137_29 p_137_30 f_141 f_142 f_143 p_137_13 p_137_14 p_137_15 p_137_16 p_137_17 f_144 f_145 f_146 f_147 f_148 p_137_18 p_137_19 p_137_20 p_137_21 p_137_22 H42_ H40_ H41_ H57_ H58_ H60_ H61_ H62_ H63_ H43_ H44_ H46_ H47_ H48_ H49_ H50_ H51_ H53_ H54_ H55_ H56_ (Ne.symm H65_) (Ne.symm H66_) H64_ (own_HD p_137_1 hHc)
    ·
     intro J112
     rcases Decidable.em ((own_gb fzx_22 qzx_22 fzx_14 qzx_14) = (0 : Int32)) with hg1 | hg1
     ·
      skip
      have f_150 := (f_55.keep p_49_0)
      have f_151 := ((((p_22_2.keep p_30_0 (oN1 ne_b_5_b_9 oN)).ext E_38).keep p_43_0 (oN1 ne_b_5_b_38 oN)).keep p_49_0 (oN1 ne_b_5_b_38 (oN1 (Ne.symm ne_b_1_b_5) (oN1 ne_b_5_fnx_43 (oN1 ne_b_5_lnx_43 (oN1 ne_b_5_fgx_43 oN))))))
      have f_152 := ((((p_22_3.keep p_30_0 (oN1 ne_b_5_b_9 oN)).ext E_38).keep p_43_0 (oN1 ne_b_5_b_38 oN)).keep p_49_0 (oN1 ne_b_5_b_38 (oN1 (Ne.symm ne_b_1_b_5) (oN1 ne_b_5_fnx_43 (oN1 ne_b_5_lnx_43 (oN1 ne_b_5_fgx_43 oN))))))
      have f_153 := ((((p_22_4.keep p_30_0 (oN1 ne_b_5_b_9 oN)).ext E_38).keep p_43_0 (oN1 ne_b_5_b_38 oN)).keep p_49_0 (oN1 ne_b_5_b_38 (oN1 (Ne.symm ne_b_1_b_5) (oN1 ne_b_5_fnx_43 (oN1 ne_b_5_lnx_43 (oN1 ne_b_5_fgx_43 oN))))))
      have f_154 := ((((p_22_5.keep p_30_0 (oN1 ne_b_5_b_9 oN)).ext E_38).keep p_43_0 (oN1 ne_b_5_b_38 oN)).keep p_49_0 (oN1 ne_b_5_b_38 (oN1 (Ne.symm ne_b_1_b_5) (oN1 ne_b_5_fnx_43 (oN1 ne_b_5_lnx_43 (oN1 ne_b_5_fgx_43 oN))))))
      have f_155 := (p_43_15.keep p_49_0)
      have f_156 := (p_43_16.keep p_49_0 (oN1 (Ne.symm ne_b_38_blx_43) (oN1 (Ne.symm ne_b_1_blx_43) (oN1 (Ne.symm p_43_26) (oN1 (Ne.symm p_43_28) (oN1 p_43_30 oN))))))
      obtain ⟨cq_149, kq_149, q_149a, q_149b, q_149c⟩ := isOf hZ rfl p_49_1
      obtain ⟨_, _, ⟨T_149, L_149, k_149, n_149⟩, -, X_149, ⟨Lc_149, hQ_149, l_149, y_149, z_149⟩, st_149⟩ := X_49.virtualBack hx (y := mn23) (z := mn23) hown (oT hZ hw 54 rfl) (oT hZ hw 55 rfl) (notFace_of_selects (args := #[]) (oT hZ hw 57 rfl)) (oT hZ hw 57 rfl) (oT hZ hw 56 rfl) (by decide) (backOf (W := 0) (rm_inf l Z a0 hw [] b_38 b_5 b_1 b_1 fnx_43 lnx_43 blx_43 fgx_43 nax_49 nbx_49 kkfx_43 kkgx_43 (0 : Int32) fzx_14 fzx_14 fzx_22 (0 : Int32) (own_next (-7046029254386353131 : Int64)) qzx_14 qzx_14 qzx_22 .null .null (.ref nax_49) (.ref nbx_49) (.ref b_1) .null (.ref b_1) .null (.ref nax_49) .null .null T_49.heap n0 Z_57 p_49_1 p_49_2 p_49_3 p_49_4 p_49_5 p_49_6 p_49_7 p_49_8 p_49_9 p_49_10 p_49_11 p_49_25 p_49_17 p_49_18 p_49_19 p_49_21 p_49_22 p_49_23 p_49_24 p_49_12 p_49_14 p_49_15 p_49_12 p_49_14 p_49_15 f_150 f_151 f_152 f_153 f_154 p_49_30 f_155 f_156 gn_b_38 gn_b_5 gn_fgx_43 ne_b_38_fnx_43 ne_b_38_nax_49 ne_b_38_nbx_49 (Ne.symm ne_b_1_b_38) (Ne.symm ne_b_1_b_38) (Ne.symm ne_b_5_b_38) ne_b_38_fgx_43 ne_b_38_blx_43 (Ne.symm ne_b_5_fnx_43) p_43_27 (Ne.symm ne_b_5_nax_49) (Ne.symm ne_fgx_43_nax_49) (Ne.symm ne_b_5_nbx_49) (Ne.symm ne_fgx_43_nbx_49) ne_b_1_b_5 ne_b_1_fgx_43 ne_b_1_b_5 ne_b_1_fgx_43 ne_b_5_fgx_43 ne_b_5_blx_43 (Ne.symm p_43_30) own_x1 hg1 hg1 (Or.inr (Or.inr ⟨rfl, rfl, rfl, rfl, rfl, rfl, rfl⟩))) hZ (oW hw 58 rfl) (oW hw 19 rfl) (by decide) (by decide)) q_149a q_149c (g := (mkF m 102 (lw xa xb xc ki kj (zr b_1::zr b_5::zr b_9::zr b_38::uu15)) [(.ref b_5), (.ref b_38)])) rfl (by rw [hml]; rfl) (Steps.refl _) (argsL := [(.ref b_5)]) (rest := []) (lenOf pd12 rfl) rfl (oQ rfl) (B at_102) (fun _ _ => ⟨rfl, rfl, (by decide : 12 + 0 ≤ _), (by decide : 90 + 0 ≤ _)⟩)
      dsimp only [Pt.U, Pt.locs, Pt.cells, Pt.slots] at X_149 l_149 y_149 z_149 st_149 hQ_149
      subst y_149 z_149
      obtain ⟨rfl, N_149q, p_149_0, p_149_1, p_149_2, p_149_3, p_149_4, p_149_5, p_149_6, p_149_7, p_149_8, p_149_9, p_149_10, p_149_11, p_149_12, p_149_13, p_149_14, p_149_15, p_149_16, p_149_17⟩ := hQ_149
      have N_149 : Fr n0 L_149 := by rw [l_149]; exact Fr.app N_49 N_149q
      clear l_149
      have Z_157 := Nat.le_trans Z_57 p_149_0.1
      refine own_go (S' := T_149.setTop (mkF m 105 (lw xa xb xc ki kj (zr b_1::zr b_5::zr b_9::zr b_38::uu15)) [])) (fun target kt => ?_) ?_
      ·
       show oSt p e below T_49 m 98 (lw xa xb xc ki kj (zr b_1::zr b_5::zr b_9::zr b_38::uu15)) [] target
       refine XS.aload X_49.here hx rfl (B at_98) rfl rfl ?_
       refine XS.aload X_49.here hx rfl (B at_100) rfl rfl ?_
       refine st_149.trans ?_
       exact kt
      rcases Decidable.em ((own_gb fzx_30 qzx_30 fzx_14 qzx_14) = (0 : Int32)) with hg2y | hg2y
      ·
       skip
       rcases Decidable.em ((own_gb fzx_30 qzx_30 fzx_22 qzx_22) = (0 : Int32)) with hg2x | hg2x
       ·
        skip
        have f_160 := (p_49_25.keep p_149_0 (oN1 (Ne.symm ne_b_38_fnx_43) (oN1 (Ne.symm ne_b_5_fnx_43) (oN1 p_43_27 oN))))
        have f_161 := (p_49_17.keep p_149_0)
        have f_162 := (p_49_18.keep p_149_0 (oN1 (Ne.symm ne_b_38_nax_49) (oN1 (Ne.symm ne_b_5_nax_49) (oN1 (Ne.symm ne_fgx_43_nax_49) oN))))
        have f_163 := (p_49_19.keep p_149_0 (oN1 (Ne.symm ne_b_38_nax_49) (oN1 (Ne.symm ne_b_5_nax_49) (oN1 (Ne.symm ne_fgx_43_nax_49) oN))))
        have f_164 := (p_49_21.keep p_149_0)
        have f_165 := (p_49_22.keep p_149_0 (oN1 (Ne.symm ne_b_38_nbx_49) (oN1 (Ne.symm ne_b_5_nbx_49) (oN1 (Ne.symm ne_fgx_43_nbx_49) oN))))
        have f_166 := (p_49_23.keep p_149_0 (oN1 (Ne.symm ne_b_38_nbx_49) (oN1 (Ne.symm ne_b_5_nbx_49) (oN1 (Ne.symm ne_fgx_43_nbx_49) oN))))
        have f_167 := (p_49_24.keep p_149_0 (oN1 (Ne.symm ne_b_38_nbx_49) (oN1 (Ne.symm ne_b_5_nbx_49) (oN1 (Ne.symm ne_fgx_43_nbx_49) oN))))
        have f_168 := (p_49_12.keep p_149_0)
        have f_169 := (p_49_14.keep p_149_0 (oN1 ne_b_1_b_38 (oN1 ne_b_1_b_5 (oN1 ne_b_1_fgx_43 oN))))
        have f_170 := (p_49_15.keep p_149_0 (oN1 ne_b_1_b_38 (oN1 ne_b_1_b_5 (oN1 ne_b_1_fgx_43 oN))))
        have f_171 := ((f_56.keep p_49_0).keep p_149_0)
        have f_172 := ((((p_30_2.ext E_38).keep p_43_0 (oN1 ne_b_9_b_38 oN)).keep p_49_0 (oN1 ne_b_9_b_38 (oN1 (Ne.symm ne_b_1_b_9) (oN1 ne_b_9_fnx_43 (oN1 ne_b_9_lnx_43 (oN1 ne_b_9_fgx_43 oN)))))).keep p_149_0 (oN1 ne_b_9_b_38 (oN1 (Ne.symm ne_b_5_b_9) (oN1 ne_b_9_fgx_43 oN))))
        have f_173 := ((((p_30_3.ext E_38).keep p_43_0 (oN1 ne_b_9_b_38 oN)).keep p_49_0 (oN1 ne_b_9_b_38 (oN1 (Ne.symm ne_b_1_b_9) (oN1 ne_b_9_fnx_43 (oN1 ne_b_9_lnx_43 (oN1 ne_b_9_fgx_43 oN)))))).keep p_149_0 (oN1 ne_b_9_b_38 (oN1 (Ne.symm ne_b_5_b_9) (oN1 ne_b_9_fgx_43 oN))))
        have f_174 := ((((p_30_4.ext E_38).keep p_43_0 (oN1 ne_b_9_b_38 oN)).keep p_49_0 (oN1 ne_b_9_b_38 (oN1 (Ne.symm ne_b_1_b_9) (oN1 ne_b_9_fnx_43 (oN1 ne_b_9_lnx_43 (oN1 ne_b_9_fgx_43 oN)))))).keep p_149_0 (oN1 ne_b_9_b_38 (oN1 (Ne.symm ne_b_5_b_9) (oN1 ne_b_9_fgx_43 oN))))
        have f_175 := ((((p_30_5.ext E_38).keep p_43_0 (oN1 ne_b_9_b_38 oN)).keep p_49_0 (oN1 ne_b_9_b_38 (oN1 (Ne.symm ne_b_1_b_9) (oN1 ne_b_9_fnx_43 (oN1 ne_b_9_lnx_43 (oN1 ne_b_9_fgx_43 oN)))))).keep p_149_0 (oN1 ne_b_9_b_38 (oN1 (Ne.symm ne_b_5_b_9) (oN1 ne_b_9_fgx_43 oN))))
        have f_176 := (f_155.keep p_149_0)
        have f_177 := (f_156.keep p_149_0 (oN1 (Ne.symm ne_b_38_blx_43) (oN1 (Ne.symm ne_b_5_blx_43) (oN1 p_43_30 oN))))
        obtain ⟨cq_159, kq_159, q_159a, q_159b, q_159c⟩ := isOf hZ rfl p_149_1
        obtain ⟨_, _, ⟨T_159, L_159, k_159, n_159⟩, -, X_159, ⟨Lc_159, hQ_159, l_159, y_159, z_159⟩, st_159⟩ := X_149.virtualBack hx (y := mn23) (z := mn23) hown (oT hZ hw 54 rfl) (oT hZ hw 55 rfl) (notFace_of_selects (args := #[]) (oT hZ hw 57 rfl)) (oT hZ hw 57 rfl) (oT hZ hw 56 rfl) (by decide) (backOf (W := 0) (rm_inf l Z a0 hw [] b_38 b_9 b_5 b_1 fnx_43 lnx_43 blx_43 fgx_43 nax_49 nbx_49 kkfx_43 kkgx_43 (0 : Int32) fzx_22 fzx_14 fzx_30 (0 : Int32) (own_next (own_next (-7046029254386353131 : Int64))) qzx_22 qzx_14 qzx_30 .null (.ref b_5) (.ref nax_49) (.ref nbx_49) (.ref b_1) .null (.ref b_1) .null (.ref nax_49) .null .null T_149.heap n0 Z_157 p_149_1 p_149_2 p_149_3 p_149_4 p_149_5 p_149_6 p_149_7 p_149_8 p_149_9 p_149_10 p_149_11 f_160 f_161 f_162 f_163 f_164 f_165 f_166 f_167 p_149_12 p_149_14 p_149_15 f_168 f_169 f_170 f_171 f_172 f_173 f_174 f_175 p_149_17 f_176 f_177 gn_b_38 gn_b_9 gn_fgx_43 ne_b_38_fnx_43 ne_b_38_nax_49 ne_b_38_nbx_49 (Ne.symm ne_b_5_b_38) (Ne.symm ne_b_1_b_38) (Ne.symm ne_b_9_b_38) ne_b_38_fgx_43 ne_b_38_blx_43 (Ne.symm ne_b_9_fnx_43) p_43_27 (Ne.symm ne_b_9_nax_49) (Ne.symm ne_fgx_43_nax_49) (Ne.symm ne_b_9_nbx_49) (Ne.symm ne_fgx_43_nbx_49) ne_b_5_b_9 ne_b_5_fgx_43 ne_b_1_b_9 ne_b_1_fgx_43 ne_b_9_fgx_43 ne_b_9_blx_43 (Ne.symm p_43_30) own_x2 hg2x hg2y (Or.inr (Or.inl ⟨rfl, rfl⟩))) hZ (oW hw 58 rfl) (oW hw 19 rfl) (by decide) (by decide)) q_159a q_159c (g := (mkF m 109 (lw xa xb xc ki kj (zr b_1::zr b_5::zr b_9::zr b_38::uu15)) [(.ref b_9), (.ref b_38)])) rfl (by rw [hml]; rfl) (Steps.refl _) (argsL := [(.ref b_9)]) (rest := []) (lenOf pd12 rfl) rfl (oQ rfl) (B at_109) (fun _ _ => ⟨rfl, rfl, (by decide : 12 + 0 ≤ _), (by decide : 90 + 0 ≤ _)⟩)
        dsimp only [Pt.U, Pt.locs, Pt.cells, Pt.slots] at X_159 l_159 y_159 z_159 st_159 hQ_159
        subst y_159 z_159
        obtain ⟨rfl, N_159q, p_159_0, p_159_1, p_159_2, p_159_3, p_159_4, p_159_5, p_159_6, p_159_7, p_159_8, p_159_9, p_159_10, p_159_11, p_159_12, p_159_13, p_159_14, p_159_15, p_159_16, p_159_17⟩ := hQ_159
        have N_159 : Fr n0 L_159 := by rw [l_159]; exact Fr.app N_149 N_159q
        clear l_159
        have Z_178 := Nat.le_trans Z_157 p_159_0.1
        have f_180 := (f_160.keep p_159_0 (oN1 (Ne.symm ne_b_38_fnx_43) (oN1 (Ne.symm ne_b_9_fnx_43) (oN1 p_43_27 oN))))
        have f_181 := ((p_49_26.keep p_149_0 (oN1 (Ne.symm ne_b_38_lnx_43) (oN1 (Ne.symm ne_b_5_lnx_43) (oN1 p_43_29 oN)))).keep p_159_0 (oN1 (Ne.symm ne_b_38_lnx_43) (oN1 (Ne.symm ne_b_9_lnx_43) (oN1 p_43_29 oN))))
        have f_182 := (f_161.keep p_159_0)
        have f_183 := (f_162.keep p_159_0 (oN1 (Ne.symm ne_b_38_nax_49) (oN1 (Ne.symm ne_b_9_nax_49) (oN1 (Ne.symm ne_fgx_43_nax_49) oN))))
        have f_184 := (f_163.keep p_159_0 (oN1 (Ne.symm ne_b_38_nax_49) (oN1 (Ne.symm ne_b_9_nax_49) (oN1 (Ne.symm ne_fgx_43_nax_49) oN))))
        have f_185 := ((p_49_20.keep p_149_0 (oN1 (Ne.symm ne_b_38_nax_49) (oN1 (Ne.symm ne_b_5_nax_49) (oN1 (Ne.symm ne_fgx_43_nax_49) oN)))).keep p_159_0 (oN1 (Ne.symm ne_b_38_nax_49) (oN1 (Ne.symm ne_b_9_nax_49) (oN1 (Ne.symm ne_fgx_43_nax_49) oN))))
        have f_186 := (f_164.keep p_159_0)
        have f_187 := (f_165.keep p_159_0 (oN1 (Ne.symm ne_b_38_nbx_49) (oN1 (Ne.symm ne_b_9_nbx_49) (oN1 (Ne.symm ne_fgx_43_nbx_49) oN))))
        have f_188 := (f_166.keep p_159_0 (oN1 (Ne.symm ne_b_38_nbx_49) (oN1 (Ne.symm ne_b_9_nbx_49) (oN1 (Ne.symm ne_fgx_43_nbx_49) oN))))
        have f_189 := (f_167.keep p_159_0 (oN1 (Ne.symm ne_b_38_nbx_49) (oN1 (Ne.symm ne_b_9_nbx_49) (oN1 (Ne.symm ne_fgx_43_nbx_49) oN))))
        have f_190 := (f_176.keep p_159_0)
        have f_191 := (f_177.keep p_159_0 (oN1 (Ne.symm ne_b_38_blx_43) (oN1 (Ne.symm ne_b_9_blx_43) (oN1 p_43_30 oN))))
        have f_192 := (((p_43_17.keep p_49_0 (oN1 (Ne.symm ne_b_38_blx_43) (oN1 (Ne.symm ne_b_1_blx_43) (oN1 (Ne.symm p_43_26) (oN1 (Ne.symm p_43_28) (oN1 p_43_30 oN)))))).keep p_149_0 (oN1 (Ne.symm ne_b_38_blx_43) (oN1 (Ne.symm ne_b_5_blx_43) (oN1 p_43_30 oN)))).keep p_159_0 (oN1 (Ne.symm ne_b_38_blx_43) (oN1 (Ne.symm ne_b_9_blx_43) (oN1 p_43_30 oN))))
        have f_193 := (p_149_12.keep p_159_0)
        have f_194 := (p_149_13.keep p_159_0 (oN1 ne_b_5_b_38 (oN1 ne_b_5_b_9 (oN1 ne_b_5_fgx_43 oN))))
        have f_195 := (p_149_14.keep p_159_0 (oN1 ne_b_5_b_38 (oN1 ne_b_5_b_9 (oN1 ne_b_5_fgx_43 oN))))
        have f_196 := (p_149_15.keep p_159_0 (oN1 ne_b_5_b_38 (oN1 ne_b_5_b_9 (oN1 ne_b_5_fgx_43 oN))))
        have f_197 := (p_149_16.keep p_159_0 (oN1 ne_b_5_b_38 (oN1 ne_b_5_b_9 (oN1 ne_b_5_fgx_43 oN))))
        have f_198 := (f_168.keep p_159_0)
        have f_199 := ((p_49_13.keep p_149_0 (oN1 ne_b_1_b_38 (oN1 ne_b_1_b_5 (oN1 ne_b_1_fgx_43 oN)))).keep p_159_0 (oN1 ne_b_1_b_38 (oN1 ne_b_1_b_9 (oN1 ne_b_1_fgx_43 oN))))
        have f_200 := (f_169.keep p_159_0 (oN1 ne_b_1_b_38 (oN1 ne_b_1_b_9 (oN1 ne_b_1_fgx_43 oN))))
        have f_201 := (f_170.keep p_159_0 (oN1 ne_b_1_b_38 (oN1 ne_b_1_b_9 (oN1 ne_b_1_fgx_43 oN))))
        have f_202 := ((p_49_16.keep p_149_0 (oN1 ne_b_1_b_38 (oN1 ne_b_1_b_5 (oN1 ne_b_1_fgx_43 oN)))).keep p_159_0 (oN1 ne_b_1_b_38 (oN1 ne_b_1_b_9 (oN1 ne_b_1_fgx_43 oN))))
        refine own_go (S' := T_159.setTop (mkF m 112 (lw xa xb xc ki kj (zr b_1::zr b_5::zr b_9::zr b_38::uu15)) [])) (fun target kt => ?_) ?_
        ·
         show oSt p e below T_149 m 105 (lw xa xb xc ki kj (zr b_1::zr b_5::zr b_9::zr b_38::uu15)) [] target
         refine XS.aload X_149.here hx rfl (B at_105) rfl rfl ?_
         refine XS.aload X_149.here hx rfl (B at_107) rfl rfl ?_
         refine st_159.trans ?_
         exact kt
        exact J112 T_159 T_159.heap _ b_9 b_5 b_1 (1 : Int32) (1 : Int32) (3 : Int32) fzx_30 fzx_22 fzx_14 qzx_30 qzx_22 qzx_14 (.ref b_9) .null .null X_159 rfl N_159 Z_178 p_159_1 p_159_2 p_159_3 p_159_4 p_159_5 p_159_6 p_159_7 p_159_8 p_159_9 p_159_10 p_159_11 p_159_17 f_180 f_181 f_182 f_183 f_184 f_185 f_186 f_187 f_188 f_189 f_190 f_191 f_192 p_159_12 p_159_13 p_159_14 p_159_15 p_159_16 f_193 f_194 f_195 f_196 f_197 f_198 f_199 f_200 f_201 f_202 gn_b_9 gn_b_5 gn_b_1 ne_b_9_b_38 ne_b_9_fnx_43 ne_b_9_lnx_43 ne_b_9_blx_43 ne_b_9_fgx_43 ne_b_9_nax_49 ne_b_9_nbx_49 ne_b_5_b_38 ne_b_5_fnx_43 ne_b_5_lnx_43 ne_b_5_blx_43 ne_b_5_fgx_43 ne_b_5_nax_49 ne_b_5_nbx_49 ne_b_1_b_38 ne_b_1_fnx_43 ne_b_1_lnx_43 ne_b_1_blx_43 ne_b_1_fgx_43 ne_b_1_nax_49 ne_b_1_nbx_49 (Ne.symm ne_b_5_b_9) (Ne.symm ne_b_1_b_9) (Ne.symm ne_b_1_b_5) (Or.inr ⟨rfl, Or.inr rfl⟩) (Or.inr ⟨rfl, Or.inr rfl⟩) (Or.inl ⟨rfl, rfl⟩)
       ·
        skip
        have f_204 := (p_49_25.keep p_149_0 (oN1 (Ne.symm ne_b_38_fnx_43) (oN1 (Ne.symm ne_b_5_fnx_43) (oN1 p_43_27 oN))))
        have f_205 := (p_49_17.keep p_149_0)
        have f_206 := (p_49_18.keep p_149_0 (oN1 (Ne.symm ne_b_38_nax_49) (oN1 (Ne.symm ne_b_5_nax_49) (oN1 (Ne.symm ne_fgx_43_nax_49) oN))))
        have f_207 := (p_49_19.keep p_149_0 (oN1 (Ne.symm ne_b_38_nax_49) (oN1 (Ne.symm ne_b_5_nax_49) (oN1 (Ne.symm ne_fgx_43_nax_49) oN))))
        have f_208 := (p_49_21.keep p_149_0)
        have f_209 := (p_49_22.keep p_149_0 (oN1 (Ne.symm ne_b_38_nbx_49) (oN1 (Ne.symm ne_b_5_nbx_49) (oN1 (Ne.symm ne_fgx_43_nbx_49) oN))))
        have f_210 := (p_49_23.keep p_149_0 (oN1 (Ne.symm ne_b_38_nbx_49) (oN1 (Ne.symm ne_b_5_nbx_49) (oN1 (Ne.symm ne_fgx_43_nbx_49) oN))))
        have f_211 := (p_49_24.keep p_149_0 (oN1 (Ne.symm ne_b_38_nbx_49) (oN1 (Ne.symm ne_b_5_nbx_49) (oN1 (Ne.symm ne_fgx_43_nbx_49) oN))))
        have f_212 := (p_49_12.keep p_149_0)
        have f_213 := (p_49_14.keep p_149_0 (oN1 ne_b_1_b_38 (oN1 ne_b_1_b_5 (oN1 ne_b_1_fgx_43 oN))))
        have f_214 := (p_49_15.keep p_149_0 (oN1 ne_b_1_b_38 (oN1 ne_b_1_b_5 (oN1 ne_b_1_fgx_43 oN))))
        have f_215 := ((f_56.keep p_49_0).keep p_149_0)
        have f_216 := ((((p_30_2.ext E_38).keep p_43_0 (oN1 ne_b_9_b_38 oN)).keep p_49_0 (oN1 ne_b_9_b_38 (oN1 (Ne.symm ne_b_1_b_9) (oN1 ne_b_9_fnx_43 (oN1 ne_b_9_lnx_43 (oN1 ne_b_9_fgx_43 oN)))))).keep p_149_0 (oN1 ne_b_9_b_38 (oN1 (Ne.symm ne_b_5_b_9) (oN1 ne_b_9_fgx_43 oN))))
        have f_217 := ((((p_30_3.ext E_38).keep p_43_0 (oN1 ne_b_9_b_38 oN)).keep p_49_0 (oN1 ne_b_9_b_38 (oN1 (Ne.symm ne_b_1_b_9) (oN1 ne_b_9_fnx_43 (oN1 ne_b_9_lnx_43 (oN1 ne_b_9_fgx_43 oN)))))).keep p_149_0 (oN1 ne_b_9_b_38 (oN1 (Ne.symm ne_b_5_b_9) (oN1 ne_b_9_fgx_43 oN))))
        have f_218 := ((((p_30_4.ext E_38).keep p_43_0 (oN1 ne_b_9_b_38 oN)).keep p_49_0 (oN1 ne_b_9_b_38 (oN1 (Ne.symm ne_b_1_b_9) (oN1 ne_b_9_fnx_43 (oN1 ne_b_9_lnx_43 (oN1 ne_b_9_fgx_43 oN)))))).keep p_149_0 (oN1 ne_b_9_b_38 (oN1 (Ne.symm ne_b_5_b_9) (oN1 ne_b_9_fgx_43 oN))))
        have f_219 := ((((p_30_5.ext E_38).keep p_43_0 (oN1 ne_b_9_b_38 oN)).keep p_49_0 (oN1 ne_b_9_b_38 (oN1 (Ne.symm ne_b_1_b_9) (oN1 ne_b_9_fnx_43 (oN1 ne_b_9_lnx_43 (oN1 ne_b_9_fgx_43 oN)))))).keep p_149_0 (oN1 ne_b_9_b_38 (oN1 (Ne.symm ne_b_5_b_9) (oN1 ne_b_9_fgx_43 oN))))
        have f_220 := (f_155.keep p_149_0)
        have f_221 := (f_156.keep p_149_0 (oN1 (Ne.symm ne_b_38_blx_43) (oN1 (Ne.symm ne_b_5_blx_43) (oN1 p_43_30 oN))))
        obtain ⟨cq_203, kq_203, q_203a, q_203b, q_203c⟩ := isOf hZ rfl p_149_1
        obtain ⟨_, _, ⟨T_203, L_203, k_203, n_203⟩, -, X_203, ⟨Lc_203, hQ_203, l_203, y_203, z_203⟩, st_203⟩ := X_149.virtualBack hx (y := mn23) (z := mn23) hown (oT hZ hw 54 rfl) (oT hZ hw 55 rfl) (notFace_of_selects (args := #[]) (oT hZ hw 57 rfl)) (oT hZ hw 57 rfl) (oT hZ hw 56 rfl) (by decide) (backOf (W := 0) (rm_inm l Z a0 hw [] b_38 b_9 b_5 b_1 fnx_43 lnx_43 blx_43 fgx_43 nax_49 nbx_49 kkfx_43 kkgx_43 (0 : Int32) fzx_22 (1 : Int32) fzx_14 fzx_30 (0 : Int32) (own_next (own_next (-7046029254386353131 : Int64))) qzx_22 qzx_14 qzx_30 .null (.ref b_5) (.ref nax_49) (.ref nbx_49) (.ref b_1) .null (.ref b_1) .null (.ref nax_49) .null .null T_149.heap n0 Z_157 p_149_1 p_149_2 p_149_3 p_149_4 p_149_5 p_149_6 p_149_7 p_149_8 p_149_9 p_149_10 p_149_11 f_204 f_205 f_206 f_207 f_208 f_209 f_210 f_211 p_149_12 p_149_13 p_149_14 p_149_15 p_149_16 f_212 f_213 f_214 f_215 f_216 f_217 f_218 f_219 p_149_17 f_220 f_221 p_43_20 gn_b_38 gn_b_9 gn_b_5 gn_fgx_43 ne_b_38_fnx_43 ne_b_38_nax_49 ne_b_38_nbx_49 (Ne.symm ne_b_5_b_38) (Ne.symm ne_b_1_b_38) (Ne.symm ne_b_9_b_38) ne_b_38_fgx_43 ne_b_38_blx_43 (Ne.symm ne_b_5_fnx_43) (Ne.symm ne_b_9_fnx_43) p_43_27 (Ne.symm ne_b_5_nax_49) (Ne.symm ne_b_9_nax_49) (Ne.symm ne_fgx_43_nax_49) (Ne.symm ne_b_5_nbx_49) (Ne.symm ne_b_9_nbx_49) (Ne.symm ne_fgx_43_nbx_49) (Ne.symm ne_b_1_b_5) ne_b_5_b_9 ne_b_5_fgx_43 ne_b_5_blx_43 ne_b_1_b_9 ne_b_1_fgx_43 ne_b_9_fgx_43 ne_b_9_blx_43 (Ne.symm p_43_30) own_x2 hg2x hg2y (Or.inr (Or.inl ⟨rfl, rfl⟩))) hZ (oW hw 58 rfl) (oW hw 19 rfl) (by decide) (by decide)) q_203a q_203c (g := (mkF m 109 (lw xa xb xc ki kj (zr b_1::zr b_5::zr b_9::zr b_38::uu15)) [(.ref b_9), (.ref b_38)])) rfl (by rw [hml]; rfl) (Steps.refl _) (argsL := [(.ref b_9)]) (rest := []) (lenOf pd12 rfl) rfl (oQ rfl) (B at_109) (fun _ _ => ⟨rfl, rfl, (by decide : 12 + 0 ≤ _), (by decide : 90 + 0 ≤ _)⟩)
        dsimp only [Pt.U, Pt.locs, Pt.cells, Pt.slots] at X_203 l_203 y_203 z_203 st_203 hQ_203
        subst y_203 z_203
        obtain ⟨g0x_203, g1x_203, rfl, N_203q, p_203_0, p_203_1, p_203_2, p_203_3, p_203_4, p_203_5, p_203_6, p_203_7, p_203_8, p_203_9, p_203_10, p_203_11, p_203_12, p_203_13, p_203_14, p_203_15, p_203_16, p_203_17, p_203_18, p_203_19, p_203_20, p_203_21, p_203_22⟩ := hQ_203
        have N_203 : Fr n0 L_203 := by rw [l_203]; exact Fr.app N_149 N_203q
        clear l_203
        have Z_222 := Nat.le_trans Z_157 p_203_0.1
        have f_224 := (f_204.keep p_203_0 (oN1 (Ne.symm ne_b_38_fnx_43) (oN1 (Ne.symm ne_b_9_fnx_43) (oN1 (Ne.symm ne_b_5_fnx_43) (oN1 p_43_27 oN)))))
        have f_225 := ((p_49_26.keep p_149_0 (oN1 (Ne.symm ne_b_38_lnx_43) (oN1 (Ne.symm ne_b_5_lnx_43) (oN1 p_43_29 oN)))).keep p_203_0 (oN1 (Ne.symm ne_b_38_lnx_43) (oN1 (Ne.symm ne_b_9_lnx_43) (oN1 (Ne.symm ne_b_5_lnx_43) (oN1 p_43_29 oN)))))
        have f_226 := (f_205.keep p_203_0)
        have f_227 := (f_206.keep p_203_0 (oN1 (Ne.symm ne_b_38_nax_49) (oN1 (Ne.symm ne_b_9_nax_49) (oN1 (Ne.symm ne_b_5_nax_49) (oN1 (Ne.symm ne_fgx_43_nax_49) oN)))))
        have f_228 := (f_207.keep p_203_0 (oN1 (Ne.symm ne_b_38_nax_49) (oN1 (Ne.symm ne_b_9_nax_49) (oN1 (Ne.symm ne_b_5_nax_49) (oN1 (Ne.symm ne_fgx_43_nax_49) oN)))))
        have f_229 := ((p_49_20.keep p_149_0 (oN1 (Ne.symm ne_b_38_nax_49) (oN1 (Ne.symm ne_b_5_nax_49) (oN1 (Ne.symm ne_fgx_43_nax_49) oN)))).keep p_203_0 (oN1 (Ne.symm ne_b_38_nax_49) (oN1 (Ne.symm ne_b_9_nax_49) (oN1 (Ne.symm ne_b_5_nax_49) (oN1 (Ne.symm ne_fgx_43_nax_49) oN)))))
        have f_230 := (f_208.keep p_203_0)
        have f_231 := (f_209.keep p_203_0 (oN1 (Ne.symm ne_b_38_nbx_49) (oN1 (Ne.symm ne_b_9_nbx_49) (oN1 (Ne.symm ne_b_5_nbx_49) (oN1 (Ne.symm ne_fgx_43_nbx_49) oN)))))
        have f_232 := (f_210.keep p_203_0 (oN1 (Ne.symm ne_b_38_nbx_49) (oN1 (Ne.symm ne_b_9_nbx_49) (oN1 (Ne.symm ne_b_5_nbx_49) (oN1 (Ne.symm ne_fgx_43_nbx_49) oN)))))
        have f_233 := (f_211.keep p_203_0 (oN1 (Ne.symm ne_b_38_nbx_49) (oN1 (Ne.symm ne_b_9_nbx_49) (oN1 (Ne.symm ne_b_5_nbx_49) (oN1 (Ne.symm ne_fgx_43_nbx_49) oN)))))
        have f_234 := (f_220.keep p_203_0)
        have f_235 := (f_221.keep p_203_0 (oN1 (Ne.symm ne_b_38_blx_43) (oN1 (Ne.symm ne_b_9_blx_43) (oN1 (Ne.symm ne_b_5_blx_43) (oN1 p_43_30 oN)))))
        have f_236 := (((p_43_17.keep p_49_0 (oN1 (Ne.symm ne_b_38_blx_43) (oN1 (Ne.symm ne_b_1_blx_43) (oN1 (Ne.symm p_43_26) (oN1 (Ne.symm p_43_28) (oN1 p_43_30 oN)))))).keep p_149_0 (oN1 (Ne.symm ne_b_38_blx_43) (oN1 (Ne.symm ne_b_5_blx_43) (oN1 p_43_30 oN)))).keep p_203_0 (oN1 (Ne.symm ne_b_38_blx_43) (oN1 (Ne.symm ne_b_9_blx_43) (oN1 (Ne.symm ne_b_5_blx_43) (oN1 p_43_30 oN)))))
        have f_237 := (f_212.keep p_203_0)
        have f_238 := ((p_49_13.keep p_149_0 (oN1 ne_b_1_b_38 (oN1 ne_b_1_b_5 (oN1 ne_b_1_fgx_43 oN)))).keep p_203_0 (oN1 ne_b_1_b_38 (oN1 ne_b_1_b_9 (oN1 ne_b_1_b_5 (oN1 ne_b_1_fgx_43 oN)))))
        have f_239 := (f_213.keep p_203_0 (oN1 ne_b_1_b_38 (oN1 ne_b_1_b_9 (oN1 ne_b_1_b_5 (oN1 ne_b_1_fgx_43 oN)))))
        have f_240 := (f_214.keep p_203_0 (oN1 ne_b_1_b_38 (oN1 ne_b_1_b_9 (oN1 ne_b_1_b_5 (oN1 ne_b_1_fgx_43 oN)))))
        have f_241 := ((p_49_16.keep p_149_0 (oN1 ne_b_1_b_38 (oN1 ne_b_1_b_5 (oN1 ne_b_1_fgx_43 oN)))).keep p_203_0 (oN1 ne_b_1_b_38 (oN1 ne_b_1_b_9 (oN1 ne_b_1_b_5 (oN1 ne_b_1_fgx_43 oN)))))
        refine own_go (S' := T_203.setTop (mkF m 112 (lw xa xb xc ki kj (zr b_1::zr b_5::zr b_9::zr b_38::uu15)) [])) (fun target kt => ?_) ?_
        ·
         show oSt p e below T_149 m 105 (lw xa xb xc ki kj (zr b_1::zr b_5::zr b_9::zr b_38::uu15)) [] target
         refine XS.aload X_149.here hx rfl (B at_105) rfl rfl ?_
         refine XS.aload X_149.here hx rfl (B at_107) rfl rfl ?_
         refine st_203.trans ?_
         exact kt
        exact J112 T_203 T_203.heap _ b_5 b_9 b_1 (1 : Int32) (1 : Int32) (3 : Int32) fzx_22 fzx_30 fzx_14 qzx_22 qzx_30 qzx_14 (.ref b_9) g0x_203 g1x_203 X_203 rfl N_203 Z_222 p_203_1 p_203_2 p_203_3 p_203_4 p_203_5 p_203_6 p_203_7 p_203_8 p_203_9 p_203_10 p_203_11 p_203_12 f_224 f_225 f_226 f_227 f_228 f_229 f_230 f_231 f_232 f_233 f_234 f_235 f_236 p_203_13 p_203_14 p_203_15 p_203_16 p_203_17 p_203_18 p_203_19 p_203_20 p_203_21 p_203_22 f_237 f_238 f_239 f_240 f_241 gn_b_5 gn_b_9 gn_b_1 ne_b_5_b_38 ne_b_5_fnx_43 ne_b_5_lnx_43 ne_b_5_blx_43 ne_b_5_fgx_43 ne_b_5_nax_49 ne_b_5_nbx_49 ne_b_9_b_38 ne_b_9_fnx_43 ne_b_9_lnx_43 ne_b_9_blx_43 ne_b_9_fgx_43 ne_b_9_nax_49 ne_b_9_nbx_49 ne_b_1_b_38 ne_b_1_fnx_43 ne_b_1_lnx_43 ne_b_1_blx_43 ne_b_1_fgx_43 ne_b_1_nax_49 ne_b_1_nbx_49 ne_b_5_b_9 (Ne.symm ne_b_1_b_5) (Ne.symm ne_b_1_b_9) (Or.inr ⟨rfl, Or.inr rfl⟩) (Or.inr ⟨rfl, Or.inr rfl⟩) (Or.inl ⟨rfl, rfl⟩)
      ·
       skip
       have f_243 := (p_49_12.keep p_149_0)
       have f_244 := (p_49_13.keep p_149_0 (oN1 ne_b_1_b_38 (oN1 ne_b_1_b_5 (oN1 ne_b_1_fgx_43 oN))))
       have f_245 := (p_49_14.keep p_149_0 (oN1 ne_b_1_b_38 (oN1 ne_b_1_b_5 (oN1 ne_b_1_fgx_43 oN))))
       have f_246 := (p_49_15.keep p_149_0 (oN1 ne_b_1_b_38 (oN1 ne_b_1_b_5 (oN1 ne_b_1_fgx_43 oN))))
       have f_247 := (p_49_16.keep p_149_0 (oN1 ne_b_1_b_38 (oN1 ne_b_1_b_5 (oN1 ne_b_1_fgx_43 oN))))
       have f_248 := ((f_56.keep p_49_0).keep p_149_0)
       have f_249 := ((((p_30_2.ext E_38).keep p_43_0 (oN1 ne_b_9_b_38 oN)).keep p_49_0 (oN1 ne_b_9_b_38 (oN1 (Ne.symm ne_b_1_b_9) (oN1 ne_b_9_fnx_43 (oN1 ne_b_9_lnx_43 (oN1 ne_b_9_fgx_43 oN)))))).keep p_149_0 (oN1 ne_b_9_b_38 (oN1 (Ne.symm ne_b_5_b_9) (oN1 ne_b_9_fgx_43 oN))))
       have f_250 := ((((p_30_3.ext E_38).keep p_43_0 (oN1 ne_b_9_b_38 oN)).keep p_49_0 (oN1 ne_b_9_b_38 (oN1 (Ne.symm ne_b_1_b_9) (oN1 ne_b_9_fnx_43 (oN1 ne_b_9_lnx_43 (oN1 ne_b_9_fgx_43 oN)))))).keep p_149_0 (oN1 ne_b_9_b_38 (oN1 (Ne.symm ne_b_5_b_9) (oN1 ne_b_9_fgx_43 oN))))
       have f_251 := ((((p_30_4.ext E_38).keep p_43_0 (oN1 ne_b_9_b_38 oN)).keep p_49_0 (oN1 ne_b_9_b_38 (oN1 (Ne.symm ne_b_1_b_9) (oN1 ne_b_9_fnx_43 (oN1 ne_b_9_lnx_43 (oN1 ne_b_9_fgx_43 oN)))))).keep p_149_0 (oN1 ne_b_9_b_38 (oN1 (Ne.symm ne_b_5_b_9) (oN1 ne_b_9_fgx_43 oN))))
       have f_252 := ((((p_30_5.ext E_38).keep p_43_0 (oN1 ne_b_9_b_38 oN)).keep p_49_0 (oN1 ne_b_9_b_38 (oN1 (Ne.symm ne_b_1_b_9) (oN1 ne_b_9_fnx_43 (oN1 ne_b_9_lnx_43 (oN1 ne_b_9_fgx_43 oN)))))).keep p_149_0 (oN1 ne_b_9_b_38 (oN1 (Ne.symm ne_b_5_b_9) (oN1 ne_b_9_fgx_43 oN))))
       have f_253 := (f_155.keep p_149_0)
       have f_254 := (f_156.keep p_149_0 (oN1 (Ne.symm ne_b_38_blx_43) (oN1 (Ne.symm ne_b_5_blx_43) (oN1 p_43_30 oN))))
       obtain ⟨cq_242, kq_242, q_242a, q_242b, q_242c⟩ := isOf hZ rfl p_149_1
       obtain ⟨_, _, ⟨T_242, L_242, k_242, n_242⟩, -, X_242, ⟨Lc_242, hQ_242, l_242, y_242, z_242⟩, st_242⟩ := X_149.virtualBack hx (y := mn23) (z := mn23) hown (oT hZ hw 54 rfl) (oT hZ hw 55 rfl) (notFace_of_selects (args := #[]) (oT hZ hw 57 rfl)) (oT hZ hw 57 rfl) (oT hZ hw 56 rfl) (by decide) (backOf (W := 0) (rm_ine l Z a0 hw [] b_38 b_9 b_1 fnx_43 lnx_43 blx_43 fgx_43 kkgx_43 (0 : Int32) fzx_14 (3 : Int32) fzx_30 (0 : Int32) (own_next (own_next (-7046029254386353131 : Int64))) qzx_14 qzx_30 (.ref b_5) .null (.ref b_5) .null .null T_149.heap n0 Z_157 p_149_1 p_149_2 p_149_3 p_149_4 p_149_5 p_149_6 p_149_7 p_149_8 p_149_9 p_149_10 p_149_11 f_243 f_244 f_245 f_246 f_247 f_248 f_249 f_250 f_251 f_252 p_149_17 f_253 f_254 gn_b_38 gn_b_9 gn_b_1 gn_fgx_43 (Ne.symm ne_b_1_b_38) (Ne.symm ne_b_9_b_38) ne_b_38_fgx_43 ne_b_38_blx_43 ne_b_1_b_9 ne_b_1_fgx_43 ne_b_1_blx_43 ne_b_9_fgx_43 ne_b_9_blx_43 (Ne.symm p_43_30) own_x2 hg2y) hZ (oW hw 58 rfl) (oW hw 19 rfl) (by decide) (by decide)) q_242a q_242c (g := (mkF m 109 (lw xa xb xc ki kj (zr b_1::zr b_5::zr b_9::zr b_38::uu15)) [(.ref b_9), (.ref b_38)])) rfl (by rw [hml]; rfl) (Steps.refl _) (argsL := [(.ref b_9)]) (rest := []) (lenOf pd12 rfl) rfl (oQ rfl) (B at_109) (fun _ _ => ⟨rfl, rfl, (by decide : 12 + 0 ≤ _), (by decide : 90 + 0 ≤ _)⟩)
       dsimp only [Pt.U, Pt.locs, Pt.cells, Pt.slots] at X_242 l_242 y_242 z_242 st_242 hQ_242
       subst y_242 z_242
       obtain ⟨rfl, N_242q, p_242_0, p_242_1, p_242_2, p_242_3, p_242_4, p_242_5, p_242_6, p_242_7, p_242_8, p_242_9, p_242_10, p_242_11, p_242_12, p_242_13, p_242_14, p_242_15, p_242_16, p_242_17, p_242_18, p_242_19, p_242_20, p_242_21, p_242_22⟩ := hQ_242
       have N_242 : Fr n0 L_242 := by rw [l_242]; exact Fr.app N_149 N_242q
       clear l_242
       have Z_255 := Nat.le_trans Z_157 p_242_0.1
       have f_257 := ((p_49_25.keep p_149_0 (oN1 (Ne.symm ne_b_38_fnx_43) (oN1 (Ne.symm ne_b_5_fnx_43) (oN1 p_43_27 oN)))).keep p_242_0 (oN1 (Ne.symm ne_b_38_fnx_43) (oN1 (Ne.symm ne_b_9_fnx_43) (oN1 (Ne.symm ne_b_1_fnx_43) (oN1 p_43_27 oN)))))
       have f_258 := ((p_49_26.keep p_149_0 (oN1 (Ne.symm ne_b_38_lnx_43) (oN1 (Ne.symm ne_b_5_lnx_43) (oN1 p_43_29 oN)))).keep p_242_0 (oN1 (Ne.symm ne_b_38_lnx_43) (oN1 (Ne.symm ne_b_9_lnx_43) (oN1 (Ne.symm ne_b_1_lnx_43) (oN1 p_43_29 oN)))))
       have f_259 := ((p_49_17.keep p_149_0).keep p_242_0)
       have f_260 := ((p_49_18.keep p_149_0 (oN1 (Ne.symm ne_b_38_nax_49) (oN1 (Ne.symm ne_b_5_nax_49) (oN1 (Ne.symm ne_fgx_43_nax_49) oN)))).keep p_242_0 (oN1 (Ne.symm ne_b_38_nax_49) (oN1 (Ne.symm ne_b_9_nax_49) (oN1 (Ne.symm ne_b_1_nax_49) (oN1 (Ne.symm ne_fgx_43_nax_49) oN)))))
       have f_261 := ((p_49_19.keep p_149_0 (oN1 (Ne.symm ne_b_38_nax_49) (oN1 (Ne.symm ne_b_5_nax_49) (oN1 (Ne.symm ne_fgx_43_nax_49) oN)))).keep p_242_0 (oN1 (Ne.symm ne_b_38_nax_49) (oN1 (Ne.symm ne_b_9_nax_49) (oN1 (Ne.symm ne_b_1_nax_49) (oN1 (Ne.symm ne_fgx_43_nax_49) oN)))))
       have f_262 := ((p_49_20.keep p_149_0 (oN1 (Ne.symm ne_b_38_nax_49) (oN1 (Ne.symm ne_b_5_nax_49) (oN1 (Ne.symm ne_fgx_43_nax_49) oN)))).keep p_242_0 (oN1 (Ne.symm ne_b_38_nax_49) (oN1 (Ne.symm ne_b_9_nax_49) (oN1 (Ne.symm ne_b_1_nax_49) (oN1 (Ne.symm ne_fgx_43_nax_49) oN)))))
       have f_263 := ((p_49_21.keep p_149_0).keep p_242_0)
       have f_264 := ((p_49_22.keep p_149_0 (oN1 (Ne.symm ne_b_38_nbx_49) (oN1 (Ne.symm ne_b_5_nbx_49) (oN1 (Ne.symm ne_fgx_43_nbx_49) oN)))).keep p_242_0 (oN1 (Ne.symm ne_b_38_nbx_49) (oN1 (Ne.symm ne_b_9_nbx_49) (oN1 (Ne.symm ne_b_1_nbx_49) (oN1 (Ne.symm ne_fgx_43_nbx_49) oN)))))
       have f_265 := ((p_49_23.keep p_149_0 (oN1 (Ne.symm ne_b_38_nbx_49) (oN1 (Ne.symm ne_b_5_nbx_49) (oN1 (Ne.symm ne_fgx_43_nbx_49) oN)))).keep p_242_0 (oN1 (Ne.symm ne_b_38_nbx_49) (oN1 (Ne.symm ne_b_9_nbx_49) (oN1 (Ne.symm ne_b_1_nbx_49) (oN1 (Ne.symm ne_fgx_43_nbx_49) oN)))))
       have f_266 := ((p_49_24.keep p_149_0 (oN1 (Ne.symm ne_b_38_nbx_49) (oN1 (Ne.symm ne_b_5_nbx_49) (oN1 (Ne.symm ne_fgx_43_nbx_49) oN)))).keep p_242_0 (oN1 (Ne.symm ne_b_38_nbx_49) (oN1 (Ne.symm ne_b_9_nbx_49) (oN1 (Ne.symm ne_b_1_nbx_49) (oN1 (Ne.symm ne_fgx_43_nbx_49) oN)))))
       have f_267 := (f_253.keep p_242_0)
       have f_268 := (f_254.keep p_242_0 (oN1 (Ne.symm ne_b_38_blx_43) (oN1 (Ne.symm ne_b_9_blx_43) (oN1 (Ne.symm ne_b_1_blx_43) (oN1 p_43_30 oN)))))
       have f_269 := (((p_43_17.keep p_49_0 (oN1 (Ne.symm ne_b_38_blx_43) (oN1 (Ne.symm ne_b_1_blx_43) (oN1 (Ne.symm p_43_26) (oN1 (Ne.symm p_43_28) (oN1 p_43_30 oN)))))).keep p_149_0 (oN1 (Ne.symm ne_b_38_blx_43) (oN1 (Ne.symm ne_b_5_blx_43) (oN1 p_43_30 oN)))).keep p_242_0 (oN1 (Ne.symm ne_b_38_blx_43) (oN1 (Ne.symm ne_b_9_blx_43) (oN1 (Ne.symm ne_b_1_blx_43) (oN1 p_43_30 oN)))))
       have f_270 := (p_149_12.keep p_242_0)
       have f_271 := (p_149_13.keep p_242_0 (oN1 ne_b_5_b_38 (oN1 ne_b_5_b_9 (oN1 (Ne.symm ne_b_1_b_5) (oN1 ne_b_5_fgx_43 oN)))))
       have f_272 := (p_149_14.keep p_242_0 (oN1 ne_b_5_b_38 (oN1 ne_b_5_b_9 (oN1 (Ne.symm ne_b_1_b_5) (oN1 ne_b_5_fgx_43 oN)))))
       have f_273 := (p_149_15.keep p_242_0 (oN1 ne_b_5_b_38 (oN1 ne_b_5_b_9 (oN1 (Ne.symm ne_b_1_b_5) (oN1 ne_b_5_fgx_43 oN)))))
       have f_274 := (p_149_16.keep p_242_0 (oN1 ne_b_5_b_38 (oN1 ne_b_5_b_9 (oN1 (Ne.symm ne_b_1_b_5) (oN1 ne_b_5_fgx_43 oN)))))
       refine own_go (S' := T_242.setTop (mkF m 112 (lw xa xb xc ki kj (zr b_1::zr b_5::zr b_9::zr b_38::uu15)) [])) (fun target kt => ?_) ?_
       ·
        show oSt p e below T_149 m 105 (lw xa xb xc ki kj (zr b_1::zr b_5::zr b_9::zr b_38::uu15)) [] target
        refine XS.aload X_149.here hx rfl (B at_105) rfl rfl ?_
        refine XS.aload X_149.here hx rfl (B at_107) rfl rfl ?_
        refine st_242.trans ?_
        exact kt
       exact J112 T_242 T_242.heap _ b_5 b_1 b_9 (1 : Int32) (3 : Int32) (1 : Int32) fzx_22 fzx_14 fzx_30 qzx_22 qzx_14 qzx_30 .null .null .null X_242 rfl N_242 Z_255 p_242_1 p_242_2 p_242_3 p_242_4 p_242_5 p_242_6 p_242_7 p_242_8 p_242_9 p_242_10 p_242_11 p_242_22 f_257 f_258 f_259 f_260 f_261 f_262 f_263 f_264 f_265 f_266 f_267 f_268 f_269 f_270 f_271 f_272 f_273 f_274 p_242_12 p_242_13 p_242_14 p_242_15 p_242_16 p_242_17 p_242_18 p_242_19 p_242_20 p_242_21 gn_b_5 gn_b_1 gn_b_9 ne_b_5_b_38 ne_b_5_fnx_43 ne_b_5_lnx_43 ne_b_5_blx_43 ne_b_5_fgx_43 ne_b_5_nax_49 ne_b_5_nbx_49 ne_b_1_b_38 ne_b_1_fnx_43 ne_b_1_lnx_43 ne_b_1_blx_43 ne_b_1_fgx_43 ne_b_1_nax_49 ne_b_1_nbx_49 ne_b_9_b_38 ne_b_9_fnx_43 ne_b_9_lnx_43 ne_b_9_blx_43 ne_b_9_fgx_43 ne_b_9_nax_49 ne_b_9_nbx_49 (Ne.symm ne_b_1_b_5) ne_b_5_b_9 ne_b_1_b_9 (Or.inr ⟨rfl, Or.inl rfl⟩) (Or.inl ⟨rfl, rfl⟩) (Or.inr ⟨rfl, Or.inr rfl⟩)
     ·
      skip
      have f_276 := (f_55.keep p_49_0)
      have f_277 := ((((p_22_2.keep p_30_0 (oN1 ne_b_5_b_9 oN)).ext E_38).keep p_43_0 (oN1 ne_b_5_b_38 oN)).keep p_49_0 (oN1 ne_b_5_b_38 (oN1 (Ne.symm ne_b_1_b_5) (oN1 ne_b_5_fnx_43 (oN1 ne_b_5_lnx_43 (oN1 ne_b_5_fgx_43 oN))))))
      have f_278 := ((((p_22_3.keep p_30_0 (oN1 ne_b_5_b_9 oN)).ext E_38).keep p_43_0 (oN1 ne_b_5_b_38 oN)).keep p_49_0 (oN1 ne_b_5_b_38 (oN1 (Ne.symm ne_b_1_b_5) (oN1 ne_b_5_fnx_43 (oN1 ne_b_5_lnx_43 (oN1 ne_b_5_fgx_43 oN))))))
      have f_279 := ((((p_22_4.keep p_30_0 (oN1 ne_b_5_b_9 oN)).ext E_38).keep p_43_0 (oN1 ne_b_5_b_38 oN)).keep p_49_0 (oN1 ne_b_5_b_38 (oN1 (Ne.symm ne_b_1_b_5) (oN1 ne_b_5_fnx_43 (oN1 ne_b_5_lnx_43 (oN1 ne_b_5_fgx_43 oN))))))
      have f_280 := ((((p_22_5.keep p_30_0 (oN1 ne_b_5_b_9 oN)).ext E_38).keep p_43_0 (oN1 ne_b_5_b_38 oN)).keep p_49_0 (oN1 ne_b_5_b_38 (oN1 (Ne.symm ne_b_1_b_5) (oN1 ne_b_5_fnx_43 (oN1 ne_b_5_lnx_43 (oN1 ne_b_5_fgx_43 oN))))))
      have f_281 := (p_43_15.keep p_49_0)
      have f_282 := (p_43_16.keep p_49_0 (oN1 (Ne.symm ne_b_38_blx_43) (oN1 (Ne.symm ne_b_1_blx_43) (oN1 (Ne.symm p_43_26) (oN1 (Ne.symm p_43_28) (oN1 p_43_30 oN))))))
      obtain ⟨cq_275, kq_275, q_275a, q_275b, q_275c⟩ := isOf hZ rfl p_49_1
      obtain ⟨_, _, ⟨T_275, L_275, k_275, n_275⟩, -, X_275, ⟨Lc_275, hQ_275, l_275, y_275, z_275⟩, st_275⟩ := X_49.virtualBack hx (y := mn23) (z := mn23) hown (oT hZ hw 54 rfl) (oT hZ hw 55 rfl) (notFace_of_selects (args := #[]) (oT hZ hw 57 rfl)) (oT hZ hw 57 rfl) (oT hZ hw 56 rfl) (by decide) (backOf (W := 0) (rm_ine l Z a0 hw [] b_38 b_5 b_1 fnx_43 lnx_43 blx_43 fgx_43 kkgx_43 (0 : Int32) fzx_14 (3 : Int32) fzx_22 (0 : Int32) (own_next (-7046029254386353131 : Int64)) qzx_14 qzx_22 (.ref b_1) .null .null .null .null T_49.heap n0 Z_57 p_49_1 p_49_2 p_49_3 p_49_4 p_49_5 p_49_6 p_49_7 p_49_8 p_49_9 p_49_10 p_49_11 p_49_12 p_49_13 p_49_14 p_49_15 p_49_16 f_276 f_277 f_278 f_279 f_280 p_49_30 f_281 f_282 gn_b_38 gn_b_5 gn_b_1 gn_fgx_43 (Ne.symm ne_b_1_b_38) (Ne.symm ne_b_5_b_38) ne_b_38_fgx_43 ne_b_38_blx_43 ne_b_1_b_5 ne_b_1_fgx_43 ne_b_1_blx_43 ne_b_5_fgx_43 ne_b_5_blx_43 (Ne.symm p_43_30) own_x1 hg1) hZ (oW hw 58 rfl) (oW hw 19 rfl) (by decide) (by decide)) q_275a q_275c (g := (mkF m 102 (lw xa xb xc ki kj (zr b_1::zr b_5::zr b_9::zr b_38::uu15)) [(.ref b_5), (.ref b_38)])) rfl (by rw [hml]; rfl) (Steps.refl _) (argsL := [(.ref b_5)]) (rest := []) (lenOf pd12 rfl) rfl (oQ rfl) (B at_102) (fun _ _ => ⟨rfl, rfl, (by decide : 12 + 0 ≤ _), (by decide : 90 + 0 ≤ _)⟩)
      dsimp only [Pt.U, Pt.locs, Pt.cells, Pt.slots] at X_275 l_275 y_275 z_275 st_275 hQ_275
      subst y_275 z_275
      obtain ⟨rfl, N_275q, p_275_0, p_275_1, p_275_2, p_275_3, p_275_4, p_275_5, p_275_6, p_275_7, p_275_8, p_275_9, p_275_10, p_275_11, p_275_12, p_275_13, p_275_14, p_275_15, p_275_16, p_275_17, p_275_18, p_275_19, p_275_20, p_275_21, p_275_22⟩ := hQ_275
      have N_275 : Fr n0 L_275 := by rw [l_275]; exact Fr.app N_49 N_275q
      clear l_275
      have Z_283 := Nat.le_trans Z_57 p_275_0.1
      refine own_go (S' := T_275.setTop (mkF m 105 (lw xa xb xc ki kj (zr b_1::zr b_5::zr b_9::zr b_38::uu15)) [])) (fun target kt => ?_) ?_
      ·
       show oSt p e below T_49 m 98 (lw xa xb xc ki kj (zr b_1::zr b_5::zr b_9::zr b_38::uu15)) [] target
       refine XS.aload X_49.here hx rfl (B at_98) rfl rfl ?_
       refine XS.aload X_49.here hx rfl (B at_100) rfl rfl ?_
       refine st_275.trans ?_
       exact kt
      rcases Decidable.em ((own_gb fzx_30 qzx_30 fzx_22 qzx_22) = (0 : Int32)) with hg2y | hg2y
      ·
       skip
       rcases Decidable.em ((own_gb fzx_30 qzx_30 fzx_14 qzx_14) = (0 : Int32)) with hg2x | hg2x
       ·
        skip
        have f_286 := (p_49_25.keep p_275_0 (oN1 (Ne.symm ne_b_38_fnx_43) (oN1 (Ne.symm ne_b_5_fnx_43) (oN1 (Ne.symm ne_b_1_fnx_43) (oN1 p_43_27 oN)))))
        have f_287 := (p_49_17.keep p_275_0)
        have f_288 := (p_49_18.keep p_275_0 (oN1 (Ne.symm ne_b_38_nax_49) (oN1 (Ne.symm ne_b_5_nax_49) (oN1 (Ne.symm ne_b_1_nax_49) (oN1 (Ne.symm ne_fgx_43_nax_49) oN)))))
        have f_289 := (p_49_19.keep p_275_0 (oN1 (Ne.symm ne_b_38_nax_49) (oN1 (Ne.symm ne_b_5_nax_49) (oN1 (Ne.symm ne_b_1_nax_49) (oN1 (Ne.symm ne_fgx_43_nax_49) oN)))))
        have f_290 := (p_49_21.keep p_275_0)
        have f_291 := (p_49_22.keep p_275_0 (oN1 (Ne.symm ne_b_38_nbx_49) (oN1 (Ne.symm ne_b_5_nbx_49) (oN1 (Ne.symm ne_b_1_nbx_49) (oN1 (Ne.symm ne_fgx_43_nbx_49) oN)))))
        have f_292 := (p_49_23.keep p_275_0 (oN1 (Ne.symm ne_b_38_nbx_49) (oN1 (Ne.symm ne_b_5_nbx_49) (oN1 (Ne.symm ne_b_1_nbx_49) (oN1 (Ne.symm ne_fgx_43_nbx_49) oN)))))
        have f_293 := (p_49_24.keep p_275_0 (oN1 (Ne.symm ne_b_38_nbx_49) (oN1 (Ne.symm ne_b_5_nbx_49) (oN1 (Ne.symm ne_b_1_nbx_49) (oN1 (Ne.symm ne_fgx_43_nbx_49) oN)))))
        have f_294 := ((f_56.keep p_49_0).keep p_275_0)
        have f_295 := ((((p_30_2.ext E_38).keep p_43_0 (oN1 ne_b_9_b_38 oN)).keep p_49_0 (oN1 ne_b_9_b_38 (oN1 (Ne.symm ne_b_1_b_9) (oN1 ne_b_9_fnx_43 (oN1 ne_b_9_lnx_43 (oN1 ne_b_9_fgx_43 oN)))))).keep p_275_0 (oN1 ne_b_9_b_38 (oN1 (Ne.symm ne_b_5_b_9) (oN1 (Ne.symm ne_b_1_b_9) (oN1 ne_b_9_fgx_43 oN)))))
        have f_296 := ((((p_30_3.ext E_38).keep p_43_0 (oN1 ne_b_9_b_38 oN)).keep p_49_0 (oN1 ne_b_9_b_38 (oN1 (Ne.symm ne_b_1_b_9) (oN1 ne_b_9_fnx_43 (oN1 ne_b_9_lnx_43 (oN1 ne_b_9_fgx_43 oN)))))).keep p_275_0 (oN1 ne_b_9_b_38 (oN1 (Ne.symm ne_b_5_b_9) (oN1 (Ne.symm ne_b_1_b_9) (oN1 ne_b_9_fgx_43 oN)))))
        have f_297 := ((((p_30_4.ext E_38).keep p_43_0 (oN1 ne_b_9_b_38 oN)).keep p_49_0 (oN1 ne_b_9_b_38 (oN1 (Ne.symm ne_b_1_b_9) (oN1 ne_b_9_fnx_43 (oN1 ne_b_9_lnx_43 (oN1 ne_b_9_fgx_43 oN)))))).keep p_275_0 (oN1 ne_b_9_b_38 (oN1 (Ne.symm ne_b_5_b_9) (oN1 (Ne.symm ne_b_1_b_9) (oN1 ne_b_9_fgx_43 oN)))))
        have f_298 := ((((p_30_5.ext E_38).keep p_43_0 (oN1 ne_b_9_b_38 oN)).keep p_49_0 (oN1 ne_b_9_b_38 (oN1 (Ne.symm ne_b_1_b_9) (oN1 ne_b_9_fnx_43 (oN1 ne_b_9_lnx_43 (oN1 ne_b_9_fgx_43 oN)))))).keep p_275_0 (oN1 ne_b_9_b_38 (oN1 (Ne.symm ne_b_5_b_9) (oN1 (Ne.symm ne_b_1_b_9) (oN1 ne_b_9_fgx_43 oN)))))
        have f_299 := (f_281.keep p_275_0)
        have f_300 := (f_282.keep p_275_0 (oN1 (Ne.symm ne_b_38_blx_43) (oN1 (Ne.symm ne_b_5_blx_43) (oN1 (Ne.symm ne_b_1_blx_43) (oN1 p_43_30 oN)))))
        obtain ⟨cq_285, kq_285, q_285a, q_285b, q_285c⟩ := isOf hZ rfl p_275_1
        obtain ⟨_, _, ⟨T_285, L_285, k_285, n_285⟩, -, X_285, ⟨Lc_285, hQ_285, l_285, y_285, z_285⟩, st_285⟩ := X_275.virtualBack hx (y := mn23) (z := mn23) hown (oT hZ hw 54 rfl) (oT hZ hw 55 rfl) (notFace_of_selects (args := #[]) (oT hZ hw 57 rfl)) (oT hZ hw 57 rfl) (oT hZ hw 56 rfl) (by decide) (backOf (W := 0) (rm_inf l Z a0 hw [] b_38 b_9 b_1 b_5 fnx_43 lnx_43 blx_43 fgx_43 nax_49 nbx_49 kkfx_43 kkgx_43 (0 : Int32) fzx_14 fzx_22 fzx_30 (0 : Int32) (own_next (own_next (-7046029254386353131 : Int64))) qzx_14 qzx_22 qzx_30 .null .null (.ref nax_49) (.ref nbx_49) (.ref b_1) .null (.ref b_1) .null (.ref nax_49) .null .null T_275.heap n0 Z_283 p_275_1 p_275_2 p_275_3 p_275_4 p_275_5 p_275_6 p_275_7 p_275_8 p_275_9 p_275_10 p_275_11 f_286 f_287 f_288 f_289 f_290 f_291 f_292 f_293 p_275_12 p_275_14 p_275_15 p_275_17 p_275_19 p_275_20 f_294 f_295 f_296 f_297 f_298 p_275_22 f_299 f_300 gn_b_38 gn_b_9 gn_fgx_43 ne_b_38_fnx_43 ne_b_38_nax_49 ne_b_38_nbx_49 (Ne.symm ne_b_1_b_38) (Ne.symm ne_b_5_b_38) (Ne.symm ne_b_9_b_38) ne_b_38_fgx_43 ne_b_38_blx_43 (Ne.symm ne_b_9_fnx_43) p_43_27 (Ne.symm ne_b_9_nax_49) (Ne.symm ne_fgx_43_nax_49) (Ne.symm ne_b_9_nbx_49) (Ne.symm ne_fgx_43_nbx_49) ne_b_1_b_9 ne_b_1_fgx_43 ne_b_5_b_9 ne_b_5_fgx_43 ne_b_9_fgx_43 ne_b_9_blx_43 (Ne.symm p_43_30) own_x2 hg2x hg2y (Or.inr (Or.inr ⟨rfl, rfl, rfl, rfl, rfl, rfl, rfl⟩))) hZ (oW hw 58 rfl) (oW hw 19 rfl) (by decide) (by decide)) q_285a q_285c (g := (mkF m 109 (lw xa xb xc ki kj (zr b_1::zr b_5::zr b_9::zr b_38::uu15)) [(.ref b_9), (.ref b_38)])) rfl (by rw [hml]; rfl) (Steps.refl _) (argsL := [(.ref b_9)]) (rest := []) (lenOf pd12 rfl) rfl (oQ rfl) (B at_109) (fun _ _ => ⟨rfl, rfl, (by decide : 12 + 0 ≤ _), (by decide : 90 + 0 ≤ _)⟩)
        dsimp only [Pt.U, Pt.locs, Pt.cells, Pt.slots] at X_285 l_285 y_285 z_285 st_285 hQ_285
        subst y_285 z_285
        obtain ⟨rfl, N_285q, p_285_0, p_285_1, p_285_2, p_285_3, p_285_4, p_285_5, p_285_6, p_285_7, p_285_8, p_285_9, p_285_10, p_285_11, p_285_12, p_285_13, p_285_14, p_285_15, p_285_16, p_285_17⟩ := hQ_285
        have N_285 : Fr n0 L_285 := by rw [l_285]; exact Fr.app N_275 N_285q
        clear l_285
        have Z_301 := Nat.le_trans Z_283 p_285_0.1
        have f_303 := (f_286.keep p_285_0 (oN1 (Ne.symm ne_b_38_fnx_43) (oN1 (Ne.symm ne_b_9_fnx_43) (oN1 p_43_27 oN))))
        have f_304 := ((p_49_26.keep p_275_0 (oN1 (Ne.symm ne_b_38_lnx_43) (oN1 (Ne.symm ne_b_5_lnx_43) (oN1 (Ne.symm ne_b_1_lnx_43) (oN1 p_43_29 oN))))).keep p_285_0 (oN1 (Ne.symm ne_b_38_lnx_43) (oN1 (Ne.symm ne_b_9_lnx_43) (oN1 p_43_29 oN))))
        have f_305 := (f_287.keep p_285_0)
        have f_306 := (f_288.keep p_285_0 (oN1 (Ne.symm ne_b_38_nax_49) (oN1 (Ne.symm ne_b_9_nax_49) (oN1 (Ne.symm ne_fgx_43_nax_49) oN))))
        have f_307 := (f_289.keep p_285_0 (oN1 (Ne.symm ne_b_38_nax_49) (oN1 (Ne.symm ne_b_9_nax_49) (oN1 (Ne.symm ne_fgx_43_nax_49) oN))))
        have f_308 := ((p_49_20.keep p_275_0 (oN1 (Ne.symm ne_b_38_nax_49) (oN1 (Ne.symm ne_b_5_nax_49) (oN1 (Ne.symm ne_b_1_nax_49) (oN1 (Ne.symm ne_fgx_43_nax_49) oN))))).keep p_285_0 (oN1 (Ne.symm ne_b_38_nax_49) (oN1 (Ne.symm ne_b_9_nax_49) (oN1 (Ne.symm ne_fgx_43_nax_49) oN))))
        have f_309 := (f_290.keep p_285_0)
        have f_310 := (f_291.keep p_285_0 (oN1 (Ne.symm ne_b_38_nbx_49) (oN1 (Ne.symm ne_b_9_nbx_49) (oN1 (Ne.symm ne_fgx_43_nbx_49) oN))))
        have f_311 := (f_292.keep p_285_0 (oN1 (Ne.symm ne_b_38_nbx_49) (oN1 (Ne.symm ne_b_9_nbx_49) (oN1 (Ne.symm ne_fgx_43_nbx_49) oN))))
        have f_312 := (f_293.keep p_285_0 (oN1 (Ne.symm ne_b_38_nbx_49) (oN1 (Ne.symm ne_b_9_nbx_49) (oN1 (Ne.symm ne_fgx_43_nbx_49) oN))))
        have f_313 := (f_299.keep p_285_0)
        have f_314 := (f_300.keep p_285_0 (oN1 (Ne.symm ne_b_38_blx_43) (oN1 (Ne.symm ne_b_9_blx_43) (oN1 p_43_30 oN))))
        have f_315 := (((p_43_17.keep p_49_0 (oN1 (Ne.symm ne_b_38_blx_43) (oN1 (Ne.symm ne_b_1_blx_43) (oN1 (Ne.symm p_43_26) (oN1 (Ne.symm p_43_28) (oN1 p_43_30 oN)))))).keep p_275_0 (oN1 (Ne.symm ne_b_38_blx_43) (oN1 (Ne.symm ne_b_5_blx_43) (oN1 (Ne.symm ne_b_1_blx_43) (oN1 p_43_30 oN))))).keep p_285_0 (oN1 (Ne.symm ne_b_38_blx_43) (oN1 (Ne.symm ne_b_9_blx_43) (oN1 p_43_30 oN))))
        have f_316 := (p_275_12.keep p_285_0)
        have f_317 := (p_275_13.keep p_285_0 (oN1 ne_b_1_b_38 (oN1 ne_b_1_b_9 (oN1 ne_b_1_fgx_43 oN))))
        have f_318 := (p_275_14.keep p_285_0 (oN1 ne_b_1_b_38 (oN1 ne_b_1_b_9 (oN1 ne_b_1_fgx_43 oN))))
        have f_319 := (p_275_15.keep p_285_0 (oN1 ne_b_1_b_38 (oN1 ne_b_1_b_9 (oN1 ne_b_1_fgx_43 oN))))
        have f_320 := (p_275_16.keep p_285_0 (oN1 ne_b_1_b_38 (oN1 ne_b_1_b_9 (oN1 ne_b_1_fgx_43 oN))))
        have f_321 := (p_275_17.keep p_285_0)
        have f_322 := (p_275_18.keep p_285_0 (oN1 ne_b_5_b_38 (oN1 ne_b_5_b_9 (oN1 ne_b_5_fgx_43 oN))))
        have f_323 := (p_275_19.keep p_285_0 (oN1 ne_b_5_b_38 (oN1 ne_b_5_b_9 (oN1 ne_b_5_fgx_43 oN))))
        have f_324 := (p_275_20.keep p_285_0 (oN1 ne_b_5_b_38 (oN1 ne_b_5_b_9 (oN1 ne_b_5_fgx_43 oN))))
        have f_325 := (p_275_21.keep p_285_0 (oN1 ne_b_5_b_38 (oN1 ne_b_5_b_9 (oN1 ne_b_5_fgx_43 oN))))
        refine own_go (S' := T_285.setTop (mkF m 112 (lw xa xb xc ki kj (zr b_1::zr b_5::zr b_9::zr b_38::uu15)) [])) (fun target kt => ?_) ?_
        ·
         show oSt p e below T_275 m 105 (lw xa xb xc ki kj (zr b_1::zr b_5::zr b_9::zr b_38::uu15)) [] target
         refine XS.aload X_275.here hx rfl (B at_105) rfl rfl ?_
         refine XS.aload X_275.here hx rfl (B at_107) rfl rfl ?_
         refine st_285.trans ?_
         exact kt
        exact J112 T_285 T_285.heap _ b_9 b_1 b_5 (1 : Int32) (3 : Int32) (1 : Int32) fzx_30 fzx_14 fzx_22 qzx_30 qzx_14 qzx_22 (.ref b_9) .null .null X_285 rfl N_285 Z_301 p_285_1 p_285_2 p_285_3 p_285_4 p_285_5 p_285_6 p_285_7 p_285_8 p_285_9 p_285_10 p_285_11 p_285_17 f_303 f_304 f_305 f_306 f_307 f_308 f_309 f_310 f_311 f_312 f_313 f_314 f_315 p_285_12 p_285_13 p_285_14 p_285_15 p_285_16 f_316 f_317 f_318 f_319 f_320 f_321 f_322 f_323 f_324 f_325 gn_b_9 gn_b_1 gn_b_5 ne_b_9_b_38 ne_b_9_fnx_43 ne_b_9_lnx_43 ne_b_9_blx_43 ne_b_9_fgx_43 ne_b_9_nax_49 ne_b_9_nbx_49 ne_b_1_b_38 ne_b_1_fnx_43 ne_b_1_lnx_43 ne_b_1_blx_43 ne_b_1_fgx_43 ne_b_1_nax_49 ne_b_1_nbx_49 ne_b_5_b_38 ne_b_5_fnx_43 ne_b_5_lnx_43 ne_b_5_blx_43 ne_b_5_fgx_43 ne_b_5_nax_49 ne_b_5_nbx_49 (Ne.symm ne_b_1_b_9) (Ne.symm ne_b_5_b_9) ne_b_1_b_5 (Or.inr ⟨rfl, Or.inl rfl⟩) (Or.inl ⟨rfl, rfl⟩) (Or.inr ⟨rfl, Or.inr rfl⟩)
       ·
        skip
        have f_327 := (p_49_25.keep p_275_0 (oN1 (Ne.symm ne_b_38_fnx_43) (oN1 (Ne.symm ne_b_5_fnx_43) (oN1 (Ne.symm ne_b_1_fnx_43) (oN1 p_43_27 oN)))))
        have f_328 := (p_49_17.keep p_275_0)
        have f_329 := (p_49_18.keep p_275_0 (oN1 (Ne.symm ne_b_38_nax_49) (oN1 (Ne.symm ne_b_5_nax_49) (oN1 (Ne.symm ne_b_1_nax_49) (oN1 (Ne.symm ne_fgx_43_nax_49) oN)))))
        have f_330 := (p_49_19.keep p_275_0 (oN1 (Ne.symm ne_b_38_nax_49) (oN1 (Ne.symm ne_b_5_nax_49) (oN1 (Ne.symm ne_b_1_nax_49) (oN1 (Ne.symm ne_fgx_43_nax_49) oN)))))
        have f_331 := (p_49_21.keep p_275_0)
        have f_332 := (p_49_22.keep p_275_0 (oN1 (Ne.symm ne_b_38_nbx_49) (oN1 (Ne.symm ne_b_5_nbx_49) (oN1 (Ne.symm ne_b_1_nbx_49) (oN1 (Ne.symm ne_fgx_43_nbx_49) oN)))))
        have f_333 := (p_49_23.keep p_275_0 (oN1 (Ne.symm ne_b_38_nbx_49) (oN1 (Ne.symm ne_b_5_nbx_49) (oN1 (Ne.symm ne_b_1_nbx_49) (oN1 (Ne.symm ne_fgx_43_nbx_49) oN)))))
        have f_334 := (p_49_24.keep p_275_0 (oN1 (Ne.symm ne_b_38_nbx_49) (oN1 (Ne.symm ne_b_5_nbx_49) (oN1 (Ne.symm ne_b_1_nbx_49) (oN1 (Ne.symm ne_fgx_43_nbx_49) oN)))))
        have f_335 := ((f_56.keep p_49_0).keep p_275_0)
        have f_336 := ((((p_30_2.ext E_38).keep p_43_0 (oN1 ne_b_9_b_38 oN)).keep p_49_0 (oN1 ne_b_9_b_38 (oN1 (Ne.symm ne_b_1_b_9) (oN1 ne_b_9_fnx_43 (oN1 ne_b_9_lnx_43 (oN1 ne_b_9_fgx_43 oN)))))).keep p_275_0 (oN1 ne_b_9_b_38 (oN1 (Ne.symm ne_b_5_b_9) (oN1 (Ne.symm ne_b_1_b_9) (oN1 ne_b_9_fgx_43 oN)))))
        have f_337 := ((((p_30_3.ext E_38).keep p_43_0 (oN1 ne_b_9_b_38 oN)).keep p_49_0 (oN1 ne_b_9_b_38 (oN1 (Ne.symm ne_b_1_b_9) (oN1 ne_b_9_fnx_43 (oN1 ne_b_9_lnx_43 (oN1 ne_b_9_fgx_43 oN)))))).keep p_275_0 (oN1 ne_b_9_b_38 (oN1 (Ne.symm ne_b_5_b_9) (oN1 (Ne.symm ne_b_1_b_9) (oN1 ne_b_9_fgx_43 oN)))))
        have f_338 := ((((p_30_4.ext E_38).keep p_43_0 (oN1 ne_b_9_b_38 oN)).keep p_49_0 (oN1 ne_b_9_b_38 (oN1 (Ne.symm ne_b_1_b_9) (oN1 ne_b_9_fnx_43 (oN1 ne_b_9_lnx_43 (oN1 ne_b_9_fgx_43 oN)))))).keep p_275_0 (oN1 ne_b_9_b_38 (oN1 (Ne.symm ne_b_5_b_9) (oN1 (Ne.symm ne_b_1_b_9) (oN1 ne_b_9_fgx_43 oN)))))
        have f_339 := ((((p_30_5.ext E_38).keep p_43_0 (oN1 ne_b_9_b_38 oN)).keep p_49_0 (oN1 ne_b_9_b_38 (oN1 (Ne.symm ne_b_1_b_9) (oN1 ne_b_9_fnx_43 (oN1 ne_b_9_lnx_43 (oN1 ne_b_9_fgx_43 oN)))))).keep p_275_0 (oN1 ne_b_9_b_38 (oN1 (Ne.symm ne_b_5_b_9) (oN1 (Ne.symm ne_b_1_b_9) (oN1 ne_b_9_fgx_43 oN)))))
        have f_340 := (f_281.keep p_275_0)
        have f_341 := (f_282.keep p_275_0 (oN1 (Ne.symm ne_b_38_blx_43) (oN1 (Ne.symm ne_b_5_blx_43) (oN1 (Ne.symm ne_b_1_blx_43) (oN1 p_43_30 oN)))))
        obtain ⟨cq_326, kq_326, q_326a, q_326b, q_326c⟩ := isOf hZ rfl p_275_1
        obtain ⟨_, _, ⟨T_326, L_326, k_326, n_326⟩, -, X_326, ⟨Lc_326, hQ_326, l_326, y_326, z_326⟩, st_326⟩ := X_275.virtualBack hx (y := mn23) (z := mn23) hown (oT hZ hw 54 rfl) (oT hZ hw 55 rfl) (notFace_of_selects (args := #[]) (oT hZ hw 57 rfl)) (oT hZ hw 57 rfl) (oT hZ hw 56 rfl) (by decide) (backOf (W := 0) (rm_inm l Z a0 hw [] b_38 b_9 b_1 b_5 fnx_43 lnx_43 blx_43 fgx_43 nax_49 nbx_49 kkfx_43 kkgx_43 (0 : Int32) fzx_14 (3 : Int32) fzx_22 fzx_30 (0 : Int32) (own_next (own_next (-7046029254386353131 : Int64))) qzx_14 qzx_22 qzx_30 .null .null (.ref nax_49) (.ref nbx_49) (.ref b_1) .null (.ref b_1) .null (.ref nax_49) .null .null T_275.heap n0 Z_283 p_275_1 p_275_2 p_275_3 p_275_4 p_275_5 p_275_6 p_275_7 p_275_8 p_275_9 p_275_10 p_275_11 f_327 f_328 f_329 f_330 f_331 f_332 f_333 f_334 p_275_12 p_275_13 p_275_14 p_275_15 p_275_16 p_275_17 p_275_19 p_275_20 f_335 f_336 f_337 f_338 f_339 p_275_22 f_340 f_341 p_43_20 gn_b_38 gn_b_9 gn_b_1 gn_fgx_43 ne_b_38_fnx_43 ne_b_38_nax_49 ne_b_38_nbx_49 (Ne.symm ne_b_1_b_38) (Ne.symm ne_b_5_b_38) (Ne.symm ne_b_9_b_38) ne_b_38_fgx_43 ne_b_38_blx_43 (Ne.symm ne_b_1_fnx_43) (Ne.symm ne_b_9_fnx_43) p_43_27 (Ne.symm ne_b_1_nax_49) (Ne.symm ne_b_9_nax_49) (Ne.symm ne_fgx_43_nax_49) (Ne.symm ne_b_1_nbx_49) (Ne.symm ne_b_9_nbx_49) (Ne.symm ne_fgx_43_nbx_49) ne_b_1_b_5 ne_b_1_b_9 ne_b_1_fgx_43 ne_b_1_blx_43 ne_b_5_b_9 ne_b_5_fgx_43 ne_b_9_fgx_43 ne_b_9_blx_43 (Ne.symm p_43_30) own_x2 hg2x hg2y (Or.inr (Or.inr ⟨rfl, rfl, rfl, rfl, rfl, rfl, rfl⟩))) hZ (oW hw 58 rfl) (oW hw 19 rfl) (by decide) (by decide)) q_326a q_326c (g := (mkF m 109 (lw xa xb xc ki kj (zr b_1::zr b_5::zr b_9::zr b_38::uu15)) [(.ref b_9), (.ref b_38)])) rfl (by rw [hml]; rfl) (Steps.refl _) (argsL := [(.ref b_9)]) (rest := []) (lenOf pd12 rfl) rfl (oQ rfl) (B at_109) (fun _ _ => ⟨rfl, rfl, (by decide : 12 + 0 ≤ _), (by decide : 90 + 0 ≤ _)⟩)
        dsimp only [Pt.U, Pt.locs, Pt.cells, Pt.slots] at X_326 l_326 y_326 z_326 st_326 hQ_326
        subst y_326 z_326
        obtain ⟨g0x_326, g1x_326, rfl, N_326q, p_326_0, p_326_1, p_326_2, p_326_3, p_326_4, p_326_5, p_326_6, p_326_7, p_326_8, p_326_9, p_326_10, p_326_11, p_326_12, p_326_13, p_326_14, p_326_15, p_326_16, p_326_17, p_326_18, p_326_19, p_326_20, p_326_21, p_326_22⟩ := hQ_326
        have N_326 : Fr n0 L_326 := by rw [l_326]; exact Fr.app N_275 N_326q
        clear l_326
        have Z_342 := Nat.le_trans Z_283 p_326_0.1
        have f_344 := (f_327.keep p_326_0 (oN1 (Ne.symm ne_b_38_fnx_43) (oN1 (Ne.symm ne_b_9_fnx_43) (oN1 (Ne.symm ne_b_1_fnx_43) (oN1 p_43_27 oN)))))
        have f_345 := ((p_49_26.keep p_275_0 (oN1 (Ne.symm ne_b_38_lnx_43) (oN1 (Ne.symm ne_b_5_lnx_43) (oN1 (Ne.symm ne_b_1_lnx_43) (oN1 p_43_29 oN))))).keep p_326_0 (oN1 (Ne.symm ne_b_38_lnx_43) (oN1 (Ne.symm ne_b_9_lnx_43) (oN1 (Ne.symm ne_b_1_lnx_43) (oN1 p_43_29 oN)))))
        have f_346 := (f_328.keep p_326_0)
        have f_347 := (f_329.keep p_326_0 (oN1 (Ne.symm ne_b_38_nax_49) (oN1 (Ne.symm ne_b_9_nax_49) (oN1 (Ne.symm ne_b_1_nax_49) (oN1 (Ne.symm ne_fgx_43_nax_49) oN)))))
        have f_348 := (f_330.keep p_326_0 (oN1 (Ne.symm ne_b_38_nax_49) (oN1 (Ne.symm ne_b_9_nax_49) (oN1 (Ne.symm ne_b_1_nax_49) (oN1 (Ne.symm ne_fgx_43_nax_49) oN)))))
        have f_349 := ((p_49_20.keep p_275_0 (oN1 (Ne.symm ne_b_38_nax_49) (oN1 (Ne.symm ne_b_5_nax_49) (oN1 (Ne.symm ne_b_1_nax_49) (oN1 (Ne.symm ne_fgx_43_nax_49) oN))))).keep p_326_0 (oN1 (Ne.symm ne_b_38_nax_49) (oN1 (Ne.symm ne_b_9_nax_49) (oN1 (Ne.symm ne_b_1_nax_49) (oN1 (Ne.symm ne_fgx_43_nax_49) oN)))))
        have f_350 := (f_331.keep p_326_0)
        have f_351 := (f_332.keep p_326_0 (oN1 (Ne.symm ne_b_38_nbx_49) (oN1 (Ne.symm ne_b_9_nbx_49) (oN1 (Ne.symm ne_b_1_nbx_49) (oN1 (Ne.symm ne_fgx_43_nbx_49) oN)))))
        have f_352 := (f_333.keep p_326_0 (oN1 (Ne.symm ne_b_38_nbx_49) (oN1 (Ne.symm ne_b_9_nbx_49) (oN1 (Ne.symm ne_b_1_nbx_49) (oN1 (Ne.symm ne_fgx_43_nbx_49) oN)))))
        have f_353 := (f_334.keep p_326_0 (oN1 (Ne.symm ne_b_38_nbx_49) (oN1 (Ne.symm ne_b_9_nbx_49) (oN1 (Ne.symm ne_b_1_nbx_49) (oN1 (Ne.symm ne_fgx_43_nbx_49) oN)))))
        have f_354 := (f_340.keep p_326_0)
        have f_355 := (f_341.keep p_326_0 (oN1 (Ne.symm ne_b_38_blx_43) (oN1 (Ne.symm ne_b_9_blx_43) (oN1 (Ne.symm ne_b_1_blx_43) (oN1 p_43_30 oN)))))
        have f_356 := (((p_43_17.keep p_49_0 (oN1 (Ne.symm ne_b_38_blx_43) (oN1 (Ne.symm ne_b_1_blx_43) (oN1 (Ne.symm p_43_26) (oN1 (Ne.symm p_43_28) (oN1 p_43_30 oN)))))).keep p_275_0 (oN1 (Ne.symm ne_b_38_blx_43) (oN1 (Ne.symm ne_b_5_blx_43) (oN1 (Ne.symm ne_b_1_blx_43) (oN1 p_43_30 oN))))).keep p_326_0 (oN1 (Ne.symm ne_b_38_blx_43) (oN1 (Ne.symm ne_b_9_blx_43) (oN1 (Ne.symm ne_b_1_blx_43) (oN1 p_43_30 oN)))))
        have f_357 := (p_275_17.keep p_326_0)
        have f_358 := (p_275_18.keep p_326_0 (oN1 ne_b_5_b_38 (oN1 ne_b_5_b_9 (oN1 (Ne.symm ne_b_1_b_5) (oN1 ne_b_5_fgx_43 oN)))))
        have f_359 := (p_275_19.keep p_326_0 (oN1 ne_b_5_b_38 (oN1 ne_b_5_b_9 (oN1 (Ne.symm ne_b_1_b_5) (oN1 ne_b_5_fgx_43 oN)))))
        have f_360 := (p_275_20.keep p_326_0 (oN1 ne_b_5_b_38 (oN1 ne_b_5_b_9 (oN1 (Ne.symm ne_b_1_b_5) (oN1 ne_b_5_fgx_43 oN)))))
        have f_361 := (p_275_21.keep p_326_0 (oN1 ne_b_5_b_38 (oN1 ne_b_5_b_9 (oN1 (Ne.symm ne_b_1_b_5) (oN1 ne_b_5_fgx_43 oN)))))
        refine own_go (S' := T_326.setTop (mkF m 112 (lw xa xb xc ki kj (zr b_1::zr b_5::zr b_9::zr b_38::uu15)) [])) (fun target kt => ?_) ?_
        ·
         show oSt p e below T_275 m 105 (lw xa xb xc ki kj (zr b_1::zr b_5::zr b_9::zr b_38::uu15)) [] target
         refine XS.aload X_275.here hx rfl (B at_105) rfl rfl ?_
         refine XS.aload X_275.here hx rfl (B at_107) rfl rfl ?_
         refine st_326.trans ?_
         exact kt
        exact J112 T_326 T_326.heap _ b_1 b_9 b_5 (3 : Int32) (1 : Int32) (1 : Int32) fzx_14 fzx_30 fzx_22 qzx_14 qzx_30 qzx_22 (.ref b_9) g0x_326 g1x_326 X_326 rfl N_326 Z_342 p_326_1 p_326_2 p_326_3 p_326_4 p_326_5 p_326_6 p_326_7 p_326_8 p_326_9 p_326_10 p_326_11 p_326_12 f_344 f_345 f_346 f_347 f_348 f_349 f_350 f_351 f_352 f_353 f_354 f_355 f_356 p_326_13 p_326_14 p_326_15 p_326_16 p_326_17 p_326_18 p_326_19 p_326_20 p_326_21 p_326_22 f_357 f_358 f_359 f_360 f_361 gn_b_1 gn_b_9 gn_b_5 ne_b_1_b_38 ne_b_1_fnx_43 ne_b_1_lnx_43 ne_b_1_blx_43 ne_b_1_fgx_43 ne_b_1_nax_49 ne_b_1_nbx_49 ne_b_9_b_38 ne_b_9_fnx_43 ne_b_9_lnx_43 ne_b_9_blx_43 ne_b_9_fgx_43 ne_b_9_nax_49 ne_b_9_nbx_49 ne_b_5_b_38 ne_b_5_fnx_43 ne_b_5_lnx_43 ne_b_5_blx_43 ne_b_5_fgx_43 ne_b_5_nax_49 ne_b_5_nbx_49 ne_b_1_b_9 ne_b_1_b_5 (Ne.symm ne_b_5_b_9) (Or.inl ⟨rfl, rfl⟩) (Or.inr ⟨rfl, Or.inl rfl⟩) (Or.inr ⟨rfl, Or.inl rfl⟩)
      ·
       skip
       have f_363 := ((f_56.keep p_49_0).keep p_275_0)
       have f_364 := ((((p_30_2.ext E_38).keep p_43_0 (oN1 ne_b_9_b_38 oN)).keep p_49_0 (oN1 ne_b_9_b_38 (oN1 (Ne.symm ne_b_1_b_9) (oN1 ne_b_9_fnx_43 (oN1 ne_b_9_lnx_43 (oN1 ne_b_9_fgx_43 oN)))))).keep p_275_0 (oN1 ne_b_9_b_38 (oN1 (Ne.symm ne_b_5_b_9) (oN1 (Ne.symm ne_b_1_b_9) (oN1 ne_b_9_fgx_43 oN)))))
       have f_365 := ((((p_30_3.ext E_38).keep p_43_0 (oN1 ne_b_9_b_38 oN)).keep p_49_0 (oN1 ne_b_9_b_38 (oN1 (Ne.symm ne_b_1_b_9) (oN1 ne_b_9_fnx_43 (oN1 ne_b_9_lnx_43 (oN1 ne_b_9_fgx_43 oN)))))).keep p_275_0 (oN1 ne_b_9_b_38 (oN1 (Ne.symm ne_b_5_b_9) (oN1 (Ne.symm ne_b_1_b_9) (oN1 ne_b_9_fgx_43 oN)))))
       have f_366 := ((((p_30_4.ext E_38).keep p_43_0 (oN1 ne_b_9_b_38 oN)).keep p_49_0 (oN1 ne_b_9_b_38 (oN1 (Ne.symm ne_b_1_b_9) (oN1 ne_b_9_fnx_43 (oN1 ne_b_9_lnx_43 (oN1 ne_b_9_fgx_43 oN)))))).keep p_275_0 (oN1 ne_b_9_b_38 (oN1 (Ne.symm ne_b_5_b_9) (oN1 (Ne.symm ne_b_1_b_9) (oN1 ne_b_9_fgx_43 oN)))))
       have f_367 := ((((p_30_5.ext E_38).keep p_43_0 (oN1 ne_b_9_b_38 oN)).keep p_49_0 (oN1 ne_b_9_b_38 (oN1 (Ne.symm ne_b_1_b_9) (oN1 ne_b_9_fnx_43 (oN1 ne_b_9_lnx_43 (oN1 ne_b_9_fgx_43 oN)))))).keep p_275_0 (oN1 ne_b_9_b_38 (oN1 (Ne.symm ne_b_5_b_9) (oN1 (Ne.symm ne_b_1_b_9) (oN1 ne_b_9_fgx_43 oN)))))
       have f_368 := (f_281.keep p_275_0)
       have f_369 := (f_282.keep p_275_0 (oN1 (Ne.symm ne_b_38_blx_43) (oN1 (Ne.symm ne_b_5_blx_43) (oN1 (Ne.symm ne_b_1_blx_43) (oN1 p_43_30 oN)))))
       obtain ⟨cq_362, kq_362, q_362a, q_362b, q_362c⟩ := isOf hZ rfl p_275_1
       obtain ⟨_, _, ⟨T_362, L_362, k_362, n_362⟩, -, X_362, ⟨Lc_362, hQ_362, l_362, y_362, z_362⟩, st_362⟩ := X_275.virtualBack hx (y := mn23) (z := mn23) hown (oT hZ hw 54 rfl) (oT hZ hw 55 rfl) (notFace_of_selects (args := #[]) (oT hZ hw 57 rfl)) (oT hZ hw 57 rfl) (oT hZ hw 56 rfl) (by decide) (backOf (W := 0) (rm_ine l Z a0 hw [] b_38 b_9 b_5 fnx_43 lnx_43 blx_43 fgx_43 kkgx_43 (0 : Int32) fzx_22 (1 : Int32) fzx_30 (0 : Int32) (own_next (own_next (-7046029254386353131 : Int64))) qzx_22 qzx_30 (.ref b_1) .null .null .null .null T_275.heap n0 Z_283 p_275_1 p_275_2 p_275_3 p_275_4 p_275_5 p_275_6 p_275_7 p_275_8 p_275_9 p_275_10 p_275_11 p_275_17 p_275_18 p_275_19 p_275_20 p_275_21 f_363 f_364 f_365 f_366 f_367 p_275_22 f_368 f_369 gn_b_38 gn_b_9 gn_b_5 gn_fgx_43 (Ne.symm ne_b_5_b_38) (Ne.symm ne_b_9_b_38) ne_b_38_fgx_43 ne_b_38_blx_43 ne_b_5_b_9 ne_b_5_fgx_43 ne_b_5_blx_43 ne_b_9_fgx_43 ne_b_9_blx_43 (Ne.symm p_43_30) own_x2 hg2y) hZ (oW hw 58 rfl) (oW hw 19 rfl) (by decide) (by decide)) q_362a q_362c (g := (mkF m 109 (lw xa xb xc ki kj (zr b_1::zr b_5::zr b_9::zr b_38::uu15)) [(.ref b_9), (.ref b_38)])) rfl (by rw [hml]; rfl) (Steps.refl _) (argsL := [(.ref b_9)]) (rest := []) (lenOf pd12 rfl) rfl (oQ rfl) (B at_109) (fun _ _ => ⟨rfl, rfl, (by decide : 12 + 0 ≤ _), (by decide : 90 + 0 ≤ _)⟩)
       dsimp only [Pt.U, Pt.locs, Pt.cells, Pt.slots] at X_362 l_362 y_362 z_362 st_362 hQ_362
       subst y_362 z_362
       obtain ⟨rfl, N_362q, p_362_0, p_362_1, p_362_2, p_362_3, p_362_4, p_362_5, p_362_6, p_362_7, p_362_8, p_362_9, p_362_10, p_362_11, p_362_12, p_362_13, p_362_14, p_362_15, p_362_16, p_362_17, p_362_18, p_362_19, p_362_20, p_362_21, p_362_22⟩ := hQ_362
       have N_362 : Fr n0 L_362 := by rw [l_362]; exact Fr.app N_275 N_362q
       clear l_362
       have Z_370 := Nat.le_trans Z_283 p_362_0.1
       have f_372 := ((p_49_25.keep p_275_0 (oN1 (Ne.symm ne_b_38_fnx_43) (oN1 (Ne.symm ne_b_5_fnx_43) (oN1 (Ne.symm ne_b_1_fnx_43) (oN1 p_43_27 oN))))).keep p_362_0 (oN1 (Ne.symm ne_b_38_fnx_43) (oN1 (Ne.symm ne_b_9_fnx_43) (oN1 (Ne.symm ne_b_5_fnx_43) (oN1 p_43_27 oN)))))
       have f_373 := ((p_49_26.keep p_275_0 (oN1 (Ne.symm ne_b_38_lnx_43) (oN1 (Ne.symm ne_b_5_lnx_43) (oN1 (Ne.symm ne_b_1_lnx_43) (oN1 p_43_29 oN))))).keep p_362_0 (oN1 (Ne.symm ne_b_38_lnx_43) (oN1 (Ne.symm ne_b_9_lnx_43) (oN1 (Ne.symm ne_b_5_lnx_43) (oN1 p_43_29 oN)))))
       have f_374 := ((p_49_17.keep p_275_0).keep p_362_0)
       have f_375 := ((p_49_18.keep p_275_0 (oN1 (Ne.symm ne_b_38_nax_49) (oN1 (Ne.symm ne_b_5_nax_49) (oN1 (Ne.symm ne_b_1_nax_49) (oN1 (Ne.symm ne_fgx_43_nax_49) oN))))).keep p_362_0 (oN1 (Ne.symm ne_b_38_nax_49) (oN1 (Ne.symm ne_b_9_nax_49) (oN1 (Ne.symm ne_b_5_nax_49) (oN1 (Ne.symm ne_fgx_43_nax_49) oN)))))
       have f_376 := ((p_49_19.keep p_275_0 (oN1 (Ne.symm ne_b_38_nax_49) (oN1 (Ne.symm ne_b_5_nax_49) (oN1 (Ne.symm ne_b_1_nax_49) (oN1 (Ne.symm ne_fgx_43_nax_49) oN))))).keep p_362_0 (oN1 (Ne.symm ne_b_38_nax_49) (oN1 (Ne.symm ne_b_9_nax_49) (oN1 (Ne.symm ne_b_5_nax_49) (oN1 (Ne.symm ne_fgx_43_nax_49) oN)))))
       have f_377 := ((p_49_20.keep p_275_0 (oN1 (Ne.symm ne_b_38_nax_49) (oN1 (Ne.symm ne_b_5_nax_49) (oN1 (Ne.symm ne_b_1_nax_49) (oN1 (Ne.symm ne_fgx_43_nax_49) oN))))).keep p_362_0 (oN1 (Ne.symm ne_b_38_nax_49) (oN1 (Ne.symm ne_b_9_nax_49) (oN1 (Ne.symm ne_b_5_nax_49) (oN1 (Ne.symm ne_fgx_43_nax_49) oN)))))
       have f_378 := ((p_49_21.keep p_275_0).keep p_362_0)
       have f_379 := ((p_49_22.keep p_275_0 (oN1 (Ne.symm ne_b_38_nbx_49) (oN1 (Ne.symm ne_b_5_nbx_49) (oN1 (Ne.symm ne_b_1_nbx_49) (oN1 (Ne.symm ne_fgx_43_nbx_49) oN))))).keep p_362_0 (oN1 (Ne.symm ne_b_38_nbx_49) (oN1 (Ne.symm ne_b_9_nbx_49) (oN1 (Ne.symm ne_b_5_nbx_49) (oN1 (Ne.symm ne_fgx_43_nbx_49) oN)))))
       have f_380 := ((p_49_23.keep p_275_0 (oN1 (Ne.symm ne_b_38_nbx_49) (oN1 (Ne.symm ne_b_5_nbx_49) (oN1 (Ne.symm ne_b_1_nbx_49) (oN1 (Ne.symm ne_fgx_43_nbx_49) oN))))).keep p_362_0 (oN1 (Ne.symm ne_b_38_nbx_49) (oN1 (Ne.symm ne_b_9_nbx_49) (oN1 (Ne.symm ne_b_5_nbx_49) (oN1 (Ne.symm ne_fgx_43_nbx_49) oN)))))
       have f_381 := ((p_49_24.keep p_275_0 (oN1 (Ne.symm ne_b_38_nbx_49) (oN1 (Ne.symm ne_b_5_nbx_49) (oN1 (Ne.symm ne_b_1_nbx_49) (oN1 (Ne.symm ne_fgx_43_nbx_49) oN))))).keep p_362_0 (oN1 (Ne.symm ne_b_38_nbx_49) (oN1 (Ne.symm ne_b_9_nbx_49) (oN1 (Ne.symm ne_b_5_nbx_49) (oN1 (Ne.symm ne_fgx_43_nbx_49) oN)))))
       have f_382 := (f_368.keep p_362_0)
       have f_383 := (f_369.keep p_362_0 (oN1 (Ne.symm ne_b_38_blx_43) (oN1 (Ne.symm ne_b_9_blx_43) (oN1 (Ne.symm ne_b_5_blx_43) (oN1 p_43_30 oN)))))
       have f_384 := (((p_43_17.keep p_49_0 (oN1 (Ne.symm ne_b_38_blx_43) (oN1 (Ne.symm ne_b_1_blx_43) (oN1 (Ne.symm p_43_26) (oN1 (Ne.symm p_43_28) (oN1 p_43_30 oN)))))).keep p_275_0 (oN1 (Ne.symm ne_b_38_blx_43) (oN1 (Ne.symm ne_b_5_blx_43) (oN1 (Ne.symm ne_b_1_blx_43) (oN1 p_43_30 oN))))).keep p_362_0 (oN1 (Ne.symm ne_b_38_blx_43) (oN1 (Ne.symm ne_b_9_blx_43) (oN1 (Ne.symm ne_b_5_blx_43) (oN1 p_43_30 oN)))))
       have f_385 := (p_275_12.keep p_362_0)
       have f_386 := (p_275_13.keep p_362_0 (oN1 ne_b_1_b_38 (oN1 ne_b_1_b_9 (oN1 ne_b_1_b_5 (oN1 ne_b_1_fgx_43 oN)))))
       have f_387 := (p_275_14.keep p_362_0 (oN1 ne_b_1_b_38 (oN1 ne_b_1_b_9 (oN1 ne_b_1_b_5 (oN1 ne_b_1_fgx_43 oN)))))
       have f_388 := (p_275_15.keep p_362_0 (oN1 ne_b_1_b_38 (oN1 ne_b_1_b_9 (oN1 ne_b_1_b_5 (oN1 ne_b_1_fgx_43 oN)))))
       have f_389 := (p_275_16.keep p_362_0 (oN1 ne_b_1_b_38 (oN1 ne_b_1_b_9 (oN1 ne_b_1_b_5 (oN1 ne_b_1_fgx_43 oN)))))
       refine own_go (S' := T_362.setTop (mkF m 112 (lw xa xb xc ki kj (zr b_1::zr b_5::zr b_9::zr b_38::uu15)) [])) (fun target kt => ?_) ?_
       ·
        show oSt p e below T_275 m 105 (lw xa xb xc ki kj (zr b_1::zr b_5::zr b_9::zr b_38::uu15)) [] target
        refine XS.aload X_275.here hx rfl (B at_105) rfl rfl ?_
        refine XS.aload X_275.here hx rfl (B at_107) rfl rfl ?_
        refine st_362.trans ?_
        exact kt
       exact J112 T_362 T_362.heap _ b_1 b_5 b_9 (3 : Int32) (1 : Int32) (1 : Int32) fzx_14 fzx_22 fzx_30 qzx_14 qzx_22 qzx_30 .null .null .null X_362 rfl N_362 Z_370 p_362_1 p_362_2 p_362_3 p_362_4 p_362_5 p_362_6 p_362_7 p_362_8 p_362_9 p_362_10 p_362_11 p_362_22 f_372 f_373 f_374 f_375 f_376 f_377 f_378 f_379 f_380 f_381 f_382 f_383 f_384 f_385 f_386 f_387 f_388 f_389 p_362_12 p_362_13 p_362_14 p_362_15 p_362_16 p_362_17 p_362_18 p_362_19 p_362_20 p_362_21 gn_b_1 gn_b_5 gn_b_9 ne_b_1_b_38 ne_b_1_fnx_43 ne_b_1_lnx_43 ne_b_1_blx_43 ne_b_1_fgx_43 ne_b_1_nax_49 ne_b_1_nbx_49 ne_b_5_b_38 ne_b_5_fnx_43 ne_b_5_lnx_43 ne_b_5_blx_43 ne_b_5_fgx_43 ne_b_5_nax_49 ne_b_5_nbx_49 ne_b_9_b_38 ne_b_9_fnx_43 ne_b_9_lnx_43 ne_b_9_blx_43 ne_b_9_fgx_43 ne_b_9_nax_49 ne_b_9_nbx_49 ne_b_1_b_5 ne_b_1_b_9 ne_b_5_b_9 (Or.inl ⟨rfl, rfl⟩) (Or.inr ⟨rfl, Or.inl rfl⟩) (Or.inr ⟨rfl, Or.inl rfl⟩)
   ·
    intro J79
    refine own_go (S' := T_22.setTop (mkF m 71 (lw xa xb xc ki kj (zr b_1::zr b_5::zr b_9::uu16)) [(.int (ki &&& (4 : Int32))), (.long xc), (.ref b_9)])) (fun target kt => ?_) ?_
    ·
     show oSt p e below T_22 m 63 (lw xa xb xc ki kj (zr b_1::zr b_5::zr b_9::uu16)) [] target
     refine XS.aload X_22.here hx rfl (B at_63) rfl rfl ?_
     refine XS.lload X_22.here hx rfl (B at_65) rfl ?_
     refine XS.iload X_22.here hx rfl (B at_67) rfl ?_
     refine XS.iconst X_22.here hx rfl (B at_69) ?_
     refine XS.iand X_22.here hx rfl (B at_70) rfl ?_
     exact kt
    by_cases hc71 : (ki &&& (4 : Int32)) = (0 : Int32)
    ·
     refine own_go (S' := T_22.setTop (mkF m 79 (lw xa xb xc ki kj (zr b_1::zr b_5::zr b_9::uu16)) [(.int (0 : Int32)), (.long xc), (.ref b_9)])) (fun target kt => ?_) ?_
     ·
      show oSt p e below T_22 m 71 (lw xa xb xc ki kj (zr b_1::zr b_5::zr b_9::uu16)) [(.int (ki &&& (4 : Int32))), (.long xc), (.ref b_9)] target
      refine XS.ifYes X_22.here hx rfl (pc0 := 71) (pc' := 78) rfl (B at_71) rfl ((if0 _ _).trans (teq hc71).1) (by decide) (by decide) ?_
      refine XS.iconst X_22.here hx rfl (B at_78) ?_
      exact kt
     exact J79 (0 : Int32)
    ·
     refine own_go (S' := T_22.setTop (mkF m 79 (lw xa xb xc ki kj (zr b_1::zr b_5::zr b_9::uu16)) [(.int (1 : Int32)), (.long xc), (.ref b_9)])) (fun target kt => ?_) ?_
     ·
      show oSt p e below T_22 m 71 (lw xa xb xc ki kj (zr b_1::zr b_5::zr b_9::uu16)) [(.int (ki &&& (4 : Int32))), (.long xc), (.ref b_9)] target
      refine XS.ifNo X_22.here hx rfl (B at_71) rfl ((if0 _ _).trans (feq hc71).1) ?_
      refine XS.iconst X_22.here hx rfl (B at_74) ?_
      refine XS.goto X_22.here hx rfl (pc0 := 75) (pc' := 79) rfl (B at_75) (by decide) (by decide) ?_
      exact kt
     exact J79 (1 : Int32)
  ·
   intro J60
   refine own_go (S' := T_14.setTop (mkF m 52 (lw xa xb xc ki kj (zr b_1::zr b_5::zr b_9::uu16)) [(.int (ki &&& (2 : Int32))), (.long xb), (.ref b_5)])) (fun target kt => ?_) ?_
   ·
    show oSt p e below T_14 m 45 (lw xa xb xc ki kj (zr b_1::zr b_5::zr b_9::uu16)) [] target
    refine XS.aload X_14.here hx rfl (B at_45) rfl rfl ?_
    refine XS.lloadN X_14.here hx rfl (B at_47) rfl ?_
    refine XS.iload X_14.here hx rfl (B at_48) rfl ?_
    refine XS.iconst X_14.here hx rfl (B at_50) ?_
    refine XS.iand X_14.here hx rfl (B at_51) rfl ?_
    exact kt
   by_cases hc52 : (ki &&& (2 : Int32)) = (0 : Int32)
   ·
    refine own_go (S' := T_14.setTop (mkF m 60 (lw xa xb xc ki kj (zr b_1::zr b_5::zr b_9::uu16)) [(.int (0 : Int32)), (.long xb), (.ref b_5)])) (fun target kt => ?_) ?_
    ·
     show oSt p e below T_14 m 52 (lw xa xb xc ki kj (zr b_1::zr b_5::zr b_9::uu16)) [(.int (ki &&& (2 : Int32))), (.long xb), (.ref b_5)] target
     refine XS.ifYes X_14.here hx rfl (pc0 := 52) (pc' := 59) rfl (B at_52) rfl ((if0 _ _).trans (teq hc52).1) (by decide) (by decide) ?_
     refine XS.iconst X_14.here hx rfl (B at_59) ?_
     exact kt
    exact J60 (0 : Int32)
   ·
    refine own_go (S' := T_14.setTop (mkF m 60 (lw xa xb xc ki kj (zr b_1::zr b_5::zr b_9::uu16)) [(.int (1 : Int32)), (.long xb), (.ref b_5)])) (fun target kt => ?_) ?_
    ·
     show oSt p e below T_14 m 52 (lw xa xb xc ki kj (zr b_1::zr b_5::zr b_9::uu16)) [(.int (ki &&& (2 : Int32))), (.long xb), (.ref b_5)] target
     refine XS.ifNo X_14.here hx rfl (B at_52) rfl ((if0 _ _).trans (feq hc52).1) ?_
     refine XS.iconst X_14.here hx rfl (B at_55) ?_
     refine XS.goto X_14.here hx rfl (pc0 := 56) (pc' := 60) rfl (B at_56) (by decide) (by decide) ?_
     exact kt
    exact J60 (1 : Int32)
 ·
  intro J42
  refine own_go (S' := T_13.setTop (mkF m 34 (lw xa xb xc ki kj (zr b_1::zr b_5::zr b_9::uu16)) [(.int (ki &&& (1 : Int32))), (.long xa), (.ref b_1)])) (fun target kt => ?_) ?_
  ·
   show oSt p e below T_13 m 27 (lw xa xb xc ki kj (zr b_1::zr b_5::zr b_9::uu16)) [] target
   refine XS.aload X_13.here hx rfl (B at_27) rfl rfl ?_
   refine XS.lloadN X_13.here hx rfl (B at_29) rfl ?_
   refine XS.iload X_13.here hx rfl (B at_30) rfl ?_
   refine XS.iconst X_13.here hx rfl (B at_32) ?_
   refine XS.iand X_13.here hx rfl (B at_33) rfl ?_
   exact kt
  by_cases hc34 : (ki &&& (1 : Int32)) = (0 : Int32)
  ·
   refine own_go (S' := T_13.setTop (mkF m 42 (lw xa xb xc ki kj (zr b_1::zr b_5::zr b_9::uu16)) [(.int (0 : Int32)), (.long xa), (.ref b_1)])) (fun target kt => ?_) ?_
   ·
    show oSt p e below T_13 m 34 (lw xa xb xc ki kj (zr b_1::zr b_5::zr b_9::uu16)) [(.int (ki &&& (1 : Int32))), (.long xa), (.ref b_1)] target
    refine XS.ifYes X_13.here hx rfl (pc0 := 34) (pc' := 41) rfl (B at_34) rfl ((if0 _ _).trans (teq hc34).1) (by decide) (by decide) ?_
    refine XS.iconst X_13.here hx rfl (B at_41) ?_
    exact kt
   exact J42 (0 : Int32)
  ·
   refine own_go (S' := T_13.setTop (mkF m 42 (lw xa xb xc ki kj (zr b_1::zr b_5::zr b_9::uu16)) [(.int (1 : Int32)), (.long xa), (.ref b_1)])) (fun target kt => ?_) ?_
   ·
    show oSt p e below T_13 m 34 (lw xa xb xc ki kj (zr b_1::zr b_5::zr b_9::uu16)) [(.int (ki &&& (1 : Int32))), (.long xa), (.ref b_1)] target
    refine XS.ifNo X_13.here hx rfl (B at_34) rfl ((if0 _ _).trans (feq hc34).1) ?_
    refine XS.iconst X_13.here hx rfl (B at_37) ?_
    refine XS.goto X_13.here hx rfl (pc0 := 38) (pc' := 42) rfl (B at_38) (by decide) (by decide) ?_
    exact kt
   exact J42 (1 : Int32)
set_option maxRecDepth 65536 in
set_option maxHeartbeats 40000000 in
theorem comes_1 {Post : Tables → Env → Array Value → State → Outcome → State → Prop} (hpost : ∀ tb e args s v u, (limb_1_1.after args s (.returned v) u = true ∧ limb_1_2.after args s (.returned v) u = true ∧ True) → FrameEnd s (.returned v) u (Jvm.fieldLocs frame_1_writes args s ++ Jvm.arrayLocs frame_1_arrays args s ++ Jvm.staticLocs frame_1_statics s) 32 256 → Post tb e args s (.returned v) u) :
  ArmFor flags0 classFile x code maxLocals ret World_1 tables_1 room_1 Calls_1 rest_1 Pre_1 Post := by
 intro l hfl _ _ p e ha hc hk s m args below hf hA hF happ hP
 obtain ⟨hcalls, hrest, hpre⟩ := hP
 obtain ⟨-, -, -, hnamed, -, -, -, hat⟩ := (Spec.applies_iff hf).mp happ
 obtain ⟨hg, hn⟩ := and_e (Cond.before_iff.mp (show (Jvm.Cond.and given_1 narrow_1).before args s = true from hpre))
 obtain ⟨gc0, gd0⟩ := and_e hg
 obtain ⟨gc1, gd1⟩ := and_e gd0
 obtain ⟨gc2, gd2⟩ := and_e gd1
 obtain ⟨gc3, gd3⟩ := and_e gd2
 obtain ⟨gc4, gd4⟩ := and_e gd3
 obtain ⟨w0, w1, w2, w3, w4, rfl⟩ : ∃ w0 w1 w2 w3 w4 : Value, args = #[w0, w1, w2, w3, w4] := by
  have hs : args.size = 5 := by simpa [Cond.value, given_1] using gc0
  obtain ⟨L⟩ := args
  match L, hs with
  | [w0, w1, w2, w3, w4], _ => exact ⟨w0, w1, w2, w3, w4, rfl⟩
 have hw := fun d (hd : d ∈ tables_1) => atoms_spec (ws := Jvm.Cond.code x code maxLocals ret :: tables_1) hat d (List.mem_cons_of_mem _ hd)
 obtain ⟨i0, ei0⟩ := isL_v gc1
 obtain rfl : w0 = (.long i0) := Option.some.inj ei0
 obtain ⟨i1, ei1⟩ := isL_v gc2
 obtain rfl : w1 = (.long i1) := Option.some.inj ei1
 obtain ⟨i2, ei2⟩ := isL_v gc3
 obtain rfl : w2 = (.long i2) := Option.some.inj ei2
 obtain ⟨i3, ei3⟩ := is_v gc4
 obtain rfl : w3 = (.int i3) := Option.some.inj ei3
 obtain ⟨i4, ei4⟩ := is_v gd4
 obtain rfl : w4 = (.int i4) := Option.some.inj ei4
 obtain ⟨n, o, h1, h2, h3, _, L, rfl, ⟨rfl, N⟩, hq⟩ := rm_law l s _ hw tables_1 i0 i1 i2 i3 i4 s.heap s.heap.size (Nat.le_refl _) p e ha hc hk s m _ below hf ((Spec.applies_iff_loose hf).mp happ).1 ⟨rfl, State.Warmed39.refl s, rfl⟩ trivial
 refine ⟨n, _, h1, h2, h3, hpost _ _ _ _ _ _ ⟨Cond.after_iff.mpr rfl, Cond.after_iff.mpr (eq_i res_at (Term.int_eval (1)) rfl), trivial⟩ ⟨hq.1, hq.2.1, (hq.2.2.sift fun y hy => Or.inr (N y hy)).mono (by decide) (by decide)⟩⟩
theorem main_1_1 : Claimed_1_1 := comes_1 fun _ _ _ _ _ _ h hF => ⟨h.1, hF⟩
theorem main_1_2 : Claimed_1_2 := comes_1 fun _ _ _ _ _ _ h hF => ⟨h.2.1, hF⟩
end Jvm.Pilot.@@N@@
namespace Jvm.Pilot.@@N@@
open Jvm Jvm.ClassFile Sem Op Lib Jvm.Free Jvm.Stand Jvm.Pilot.@@N@@.Jvm.D
/-! MADE BY PROGRAM (witnessworld.py) out of the Statement's table words and the real class files: 24 classes; the members and pool entries that the words name. The judged class is class 1, her method 3. -/
namespace start1
open Jvm.ClassFile
def u (s : String) : CpInfo := .utf8 (stringToUtf16 s)
/-- a pool by its gaps: so many unusable entries, then the entry; so many at the end -/
def gap : Nat → List CpInfo → List CpInfo
  | 0, r => r
  | n + 1, r => .unusable :: gap n r
def poolList (es : List (Nat × CpInfo)) (last : Nat) : List CpInfo := es.foldr (fun e r => gap e.1 (e.2 :: r)) (gap last [])
def pool (es : List (Nat × CpInfo)) (last : Nat) : Array CpInfo := ⟨poolList es last⟩
def fileOf (pool : Array CpInfo) (this : Nat) (attrs : Array Attribute := #[]) (ms : Array MethodInfo := #[]) (fl : Nat := 33) (sup : Nat := 0) (ifs : Array Nat := #[]) (fds : Array FieldInfo := #[]) : ClassFile where
  minorVersion := 0
  majorVersion := 65
  constantPool := pool
  accessFlags := fl
  thisClass := this
  superClass := sup
  interfaces := ifs
  fields := fds
  methods := ms
  attributes := attrs
def plain (name : String) (sup : Option ClassId) : Class where
  name := name
  kind := .ordinary
  loader := none
  accessFlags := 33
  super := sup
  interfaces := #[]
  cf := none
  fields := #[]
  methods := #[]
  instanceTypes := #[]
  staticTypes := #[]
  resolved := #[]
  callSites := []
  init := .initialized
  statics := none
  mirror := none

def pool0 : Array CpInfo := pool [(5, u "<init>"), (0, u "()V"), (1, .class_ 10), (1, u "java/lang/Object")] 113

def k0c0 : Code := { maxStack := 0, maxLocals := 1, code := object_method_1_code, exceptionTable := #[], attributes := #[] }
def k0m0 : Method := { name := "<init>", desc := "()V", sig := { parameters := [], returnType := none }, accessFlags := 1, code := some k0c0 }
/-- java/lang/Object -/
def k0 : Class := { plain "java/lang/Object" none with
  accessFlags := 33
  interfaces := #[]
  cf := some (fileOf pool0 8 #[] #[{ accessFlags := 1, nameIndex := 5, descriptorIndex := 6, attributes := #[] }] 33 0 #[] #[])
  fields := #[]
  methods := #[k0m0]
  instanceTypes := #[]
  staticTypes := #[]
  resolved := Array.replicate 124 none
  statics := none }

def pool1 : Array CpInfo := pool [(2, .class_ 4), (0, .nameAndType 5 6), (0, u "java/lang/Object"), (0, u "<init>"), (0, u "()V"), (0, .fieldref 8 9), (0, .class_ 10), (0, .nameAndType 11 12), (0, u "com/example/carillon/carillon/Message"), (0, u "atFront"), (0, u "Z"), (2, .long 9223372036854775808), (1, .fieldref 8 18), (0, .nameAndType 19 20), (0, u "when"), (0, u "J"), (0, .methodref 8 3), (0, .methodref 23 24), (0, .class_ 25), (0, .nameAndType 26 27), (0, u "com/example/carillon/carillon/ChainTakePinLaw"), (0, u "fill"), (0, u "(Lcom/example/carillon/carillon/Message;JZ)V"), (0, .class_ 29), (0, u "com/example/carillon/carillon/Chain"), (0, .methodref 28 3), (0, .methodref 28 32), (0, .nameAndType 33 34), (0, u "insert"), (0, u "(Lcom/example/carillon/carillon/Message;)V"), (0, .methodref 28 36), (0, .nameAndType 37 38), (0, u "first"), (0, u "()Lcom/example/carillon/carillon/Message;"), (0, .fieldref 8 40), (0, .nameAndType 41 42), (0, u "next"), (0, u "Lcom/example/carillon/carillon/Message;"), (0, .integer 2147483647), (0, .methodref 28 45), (0, .nameAndType 46 47), (0, u "take"), (0, u "(Lcom/example/carillon/carillon/Message;Lcom/example/carillon/carillon/Message;)Lcom/example/carillon/carillon/Message;"), (0, .methodref 28 49), (0, .nameAndType 50 51), (0, u "lastOrder"), (0, u "()J"), (0, .methodref 23 53), (0, .nameAndType 54 55), (0, u "ord"), (0, u "(Lcom/example/carillon/carillon/Message;)J"), (3, u "law"), (0, u "(JJJII)Z")] 2

def k1m0 : Method := { name := "<init>", desc := "()V", sig := { parameters := [], returnType := none }, accessFlags := 1, code := none }
def k1c1 : Code := { maxStack := 2, maxLocals := 1, code := method_2_code, exceptionTable := #[], attributes := #[] }
def k1m1 : Method := { name := "ord", desc := "(Lcom/example/carillon/carillon/Message;)J", sig := { parameters := [(.object "com/example/carillon/carillon/Message")], returnType := some .long }, accessFlags := 10, code := some k1c1 }
def k1c2 : Code := { maxStack := 3, maxLocals := 4, code := method_3_code, exceptionTable := #[], attributes := #[] }
def k1m2 : Method := { name := "fill", desc := "(Lcom/example/carillon/carillon/Message;JZ)V", sig := { parameters := [(.object "com/example/carillon/carillon/Message"), .long, .boolean], returnType := none }, accessFlags := 10, code := some k1c2 }
def k1c3 : Code := { maxStack := 5, maxLocals := 27, code := code, exceptionTable := #[], attributes := #[] }
def k1m3 : Method := { name := "law", desc := "(JJJII)Z", sig := { parameters := [.long, .long, .long, .int, .int], returnType := some .boolean }, accessFlags := 9, code := some k1c3 }
/-- com/example/carillon/carillon/ChainTakePinLaw -/
def k1 : Class := { plain "com/example/carillon/carillon/ChainTakePinLaw" (some 0) with
  accessFlags := 49
  interfaces := #[]
  cf := some (fileOf pool1 23 #[] #[{ accessFlags := 1, nameIndex := 5, descriptorIndex := 6, attributes := #[] }, { accessFlags := 10, nameIndex := 54, descriptorIndex := 55, attributes := #[] }, { accessFlags := 10, nameIndex := 26, descriptorIndex := 27, attributes := #[] }, { accessFlags := 9, nameIndex := 59, descriptorIndex := 60, attributes := #[] }] 49 2 #[] #[])
  fields := #[]
  methods := #[k1m0, k1m1, k1m2, k1m3]
  instanceTypes := #[]
  staticTypes := #[]
  resolved := Array.replicate 63 none
  statics := none }

def pool2 : Array CpInfo := pool [(1, .methodref 2 3), (0, .class_ 4), (0, .nameAndType 5 6), (0, u "java/lang/Object"), (0, u "<init>"), (0, u "()V"), (1, .class_ 10), (1, u "com/example/carillon/carillon/Message"), (0, u "TAKEN_AHEAD"), (0, u "Ljava/lang/ThreadLocal;"), (6, .class_ 20), (0, u "com/example/carillon/carillon/Message$TakenAhead"), (3, u "Lcom/example/carillon/carillon/Message;"), (7, u "next"), (2, u "STATE"), (0, u "Ljava/lang/invoke/VarHandle;"), (8, u "poolHead"), (2, u "POOL_TAKEN"), (9, u "POOL_HEAD"), (5, u "POOL_SIZE"), (9, u "target"), (0, u "Lcom/example/carillon/carillon/Handler;"), (5, u "what"), (0, u "I"), (5, u "obj"), (0, u "Ljava/lang/Object;"), (2, u "arg1"), (2, u "arg2"), (5, u "callback"), (0, u "Ljava/lang/Runnable;"), (12, u "asynchronous"), (0, u "Z"), (24, u "when"), (0, u "J"), (6, u "atFront"), (2, u "poolSize"), (10, u "state"), (18, u "poolTaken"), (17, u "MAX_POOL_SIZE"), (2, u "TAKEN_AT_ONCE"), (1, u "FREE"), (1, u "IN_USE"), (1, u "RECYCLED"), (3, u "lanes"), (0, u "B")] 42

def k2c0 : Code := { maxStack := 1, maxLocals := 1, code := prog_15_method_1_code, exceptionTable := #[], attributes := #[] }
def k2m0 : Method := { name := "<init>", desc := "()V", sig := { parameters := [], returnType := none }, accessFlags := 1, code := some k2c0 }
/-- com/example/carillon/carillon/Message -/
def k2 : Class := { plain "com/example/carillon/carillon/Message" (some 0) with
  accessFlags := 49
  interfaces := #[]
  cf := some (fileOf pool2 8 #[.nestMembers #[19]] #[{ accessFlags := 1, nameIndex := 5, descriptorIndex := 6, attributes := #[] }] 49 2 #[] #[{ accessFlags := 26, nameIndex := 200, descriptorIndex := 82, attributes := #[] }, { accessFlags := 26, nameIndex := 203, descriptorIndex := 82, attributes := #[] }, { accessFlags := 26, nameIndex := 205, descriptorIndex := 82, attributes := #[] }, { accessFlags := 26, nameIndex := 207, descriptorIndex := 82, attributes := #[] }, { accessFlags := 26, nameIndex := 209, descriptorIndex := 82, attributes := #[] }, { accessFlags := 26, nameIndex := 35, descriptorIndex := 36, attributes := #[] }, { accessFlags := 26, nameIndex := 58, descriptorIndex := 36, attributes := #[] }, { accessFlags := 26, nameIndex := 64, descriptorIndex := 36, attributes := #[] }, { accessFlags := 26, nameIndex := 48, descriptorIndex := 36, attributes := #[] }, { accessFlags := 74, nameIndex := 45, descriptorIndex := 24, attributes := #[] }, { accessFlags := 74, nameIndex := 152, descriptorIndex := 82, attributes := #[] }, { accessFlags := 74, nameIndex := 182, descriptorIndex := 116, attributes := #[] }, { accessFlags := 26, nameIndex := 11, descriptorIndex := 12, attributes := #[] }, { accessFlags := 1, nameIndex := 81, descriptorIndex := 82, attributes := #[] }, { accessFlags := 1, nameIndex := 92, descriptorIndex := 82, attributes := #[] }, { accessFlags := 1, nameIndex := 95, descriptorIndex := 82, attributes := #[] }, { accessFlags := 1, nameIndex := 88, descriptorIndex := 89, attributes := #[] }, { accessFlags := 0, nameIndex := 74, descriptorIndex := 75, attributes := #[] }, { accessFlags := 0, nameIndex := 101, descriptorIndex := 102, attributes := #[] }, { accessFlags := 0, nameIndex := 141, descriptorIndex := 142, attributes := #[] }, { accessFlags := 0, nameIndex := 149, descriptorIndex := 116, attributes := #[] }, { accessFlags := 2, nameIndex := 115, descriptorIndex := 116, attributes := #[] }, { accessFlags := 66, nameIndex := 163, descriptorIndex := 82, attributes := #[] }, { accessFlags := 0, nameIndex := 32, descriptorIndex := 24, attributes := #[] }, { accessFlags := 0, nameIndex := 213, descriptorIndex := 214, attributes := #[] }])
  fields := #[{ name := "MAX_POOL_SIZE", type := .int, accessFlags := 26, slot := 0, constantValue := 0 }, { name := "TAKEN_AT_ONCE", type := .int, accessFlags := 26, slot := 1, constantValue := 0 }, { name := "FREE", type := .int, accessFlags := 26, slot := 2, constantValue := 0 }, { name := "IN_USE", type := .int, accessFlags := 26, slot := 3, constantValue := 0 }, { name := "RECYCLED", type := .int, accessFlags := 26, slot := 4, constantValue := 0 }, { name := "STATE", type := (.object "java/lang/invoke/VarHandle"), accessFlags := 26, slot := 5, constantValue := 0 }, { name := "POOL_HEAD", type := (.object "java/lang/invoke/VarHandle"), accessFlags := 26, slot := 6, constantValue := 0 }, { name := "POOL_SIZE", type := (.object "java/lang/invoke/VarHandle"), accessFlags := 26, slot := 7, constantValue := 0 }, { name := "POOL_TAKEN", type := (.object "java/lang/invoke/VarHandle"), accessFlags := 26, slot := 8, constantValue := 0 }, { name := "poolHead", type := (.object "com/example/carillon/carillon/Message"), accessFlags := 74, slot := 9, constantValue := 0 }, { name := "poolSize", type := .int, accessFlags := 74, slot := 10, constantValue := 0 }, { name := "poolTaken", type := .boolean, accessFlags := 74, slot := 11, constantValue := 0 }, { name := "TAKEN_AHEAD", type := (.object "java/lang/ThreadLocal"), accessFlags := 26, slot := 12, constantValue := 0 }, { name := "what", type := .int, accessFlags := 1, slot := 0, constantValue := 0 }, { name := "arg1", type := .int, accessFlags := 1, slot := 1, constantValue := 0 }, { name := "arg2", type := .int, accessFlags := 1, slot := 2, constantValue := 0 }, { name := "obj", type := (.object "java/lang/Object"), accessFlags := 1, slot := 3, constantValue := 0 }, { name := "target", type := (.object "com/example/carillon/carillon/Handler"), accessFlags := 0, slot := 4, constantValue := 0 }, { name := "callback", type := (.object "java/lang/Runnable"), accessFlags := 0, slot := 5, constantValue := 0 }, { name := "when", type := .long, accessFlags := 0, slot := 6, constantValue := 0 }, { name := "atFront", type := .boolean, accessFlags := 0, slot := 7, constantValue := 0 }, { name := "asynchronous", type := .boolean, accessFlags := 2, slot := 8, constantValue := 0 }, { name := "state", type := .int, accessFlags := 66, slot := 9, constantValue := 0 }, { name := "next", type := (.object "com/example/carillon/carillon/Message"), accessFlags := 0, slot := 10, constantValue := 0 }, { name := "lanes", type := .byte, accessFlags := 0, slot := 11, constantValue := 0 }]
  methods := #[k2m0]
  instanceTypes := #[.int, .int, .int, (.object "java/lang/Object"), (.object "com/example/carillon/carillon/Handler"), (.object "java/lang/Runnable"), .long, .boolean, .boolean, .int, (.object "com/example/carillon/carillon/Message"), .byte]
  staticTypes := #[.int, .int, .int, .int, .int, (.object "java/lang/invoke/VarHandle"), (.object "java/lang/invoke/VarHandle"), (.object "java/lang/invoke/VarHandle"), (.object "java/lang/invoke/VarHandle"), (.object "com/example/carillon/carillon/Message"), .int, .boolean, (.object "java/lang/ThreadLocal")]
  resolved := Array.replicate 257 none
  statics := none }

def pool3 : Array CpInfo := pool [(1, .methodref 2 3), (0, .class_ 4), (0, .nameAndType 5 6), (0, u "java/lang/Object"), (0, u "<init>"), (0, u "()V"), (0, .class_ 8), (0, u "com/example/carillon/carillon/Chain"), (0, .class_ 10), (0, u "com/example/carillon/carillon/Chain$Node"), (0, .fieldref 7 12), (0, .nameAndType 13 14), (0, u "firstNodes"), (0, u "[Lcom/example/carillon/carillon/Chain$Node;"), (0, .fieldref 7 16), (0, .nameAndType 17 14), (0, u "lastNodes"), (0, .class_ 19), (0, u "com/example/carillon/carillon/Backlog"), (0, .methodref 18 3), (0, .fieldref 7 22), (0, .nameAndType 23 24), (0, u "backlog"), (0, u "Lcom/example/carillon/carillon/Backlog;"), (0, .long 11400714819323198485), (1, .fieldref 7 28), (0, .nameAndType 29 30), (0, u "laneDraws"), (0, u "J"), (0, .fieldref 7 32), (0, .nameAndType 33 14), (0, u "fingerNodes"), (0, .fieldref 7 35), (0, .nameAndType 36 37), (0, u "head"), (0, u "Lcom/example/carillon/carillon/Message;"), (0, .fieldref 7 39), (0, .nameAndType 40 37), (0, u "tail"), (0, .class_ 42), (0, u "java/lang/Long"), (0, .long 9223372036854775808), (1, .methodref 7 46), (0, .nameAndType 47 48), (0, u "orderOf"), (0, u "(Lcom/example/carillon/carillon/Message;)J"), (0, .methodref 18 50), (0, .nameAndType 51 52), (0, u "highestOrder"), (0, u "()J"), (0, .methodref 54 55), (0, .class_ 56), (0, .nameAndType 57 58), (0, u "java/lang/Math"), (0, u "max"), (0, u "(JJ)J"), (0, .fieldref 60 61), (0, .class_ 62), (0, .nameAndType 63 64), (0, u "com/example/carillon/carillon/Message"), (0, u "atFront"), (0, u "Z"), (0, .fieldref 60 66), (0, .nameAndType 67 30), (0, u "when"), (0, .fieldref 60 69), (0, .nameAndType 70 37), (0, u "next"), (0, .methodref 7 72), (0, .nameAndType 73 74), (0, u "link"), (0, u "(Lcom/example/carillon/carillon/Message;)V"), (0, .methodref 7 76), (0, .nameAndType 77 78), (0, u "goesBehind"), (0, u "(Lcom/example/carillon/carillon/Message;Lcom/example/carillon/carillon/Message;)Z"), (0, .methodref 18 80), (0, .nameAndType 81 82), (0, u "isEmpty"), (0, u "()Z"), (0, .methodref 7 84), (0, .nameAndType 85 74), (0, u "append"), (10, u "()Lcom/example/carillon/carillon/Message;"), (0, .methodref 7 98), (0, .nameAndType 99 6), (0, u "clearFinger"), (0, .methodref 7 101), (0, .nameAndType 102 74), (0, u "insertBehindFinger"), (0, .methodref 7 104), (0, .nameAndType 105 106), (0, u "placeAheadOf"), (0, u "(Lcom/example/carillon/carillon/Message;)Z"), (0, .methodref 7 108), (0, .nameAndType 109 6), (0, u "placeAll"), (0, .methodref 7 111), (0, .nameAndType 112 74), (0, u "linkBySearch"), (0, .methodref 7 114), (0, .nameAndType 115 116), (0, u "drawLanes"), (0, u "()I"), (0, .fieldref 60 118), (0, .nameAndType 119 120), (0, u "lanes"), (0, u "B"), (0, .methodref 7 122), (0, .nameAndType 123 124), (0, u "linkNodes"), (0, u "(Lcom/example/carillon/carillon/Message;I[Lcom/example/carillon/carillon/Chain$Node;)V"), (0, .fieldref 9 126), (0, .nameAndType 127 128), (0, u "right"), (0, u "Lcom/example/carillon/carillon/Chain$Node;"), (0, .fieldref 9 130), (0, .nameAndType 131 37), (0, u "entry"), (0, .fieldref 9 133), (0, .nameAndType 134 128), (0, u "down"), (0, .fieldref 7 136), (0, .nameAndType 137 37), (0, u "fingerEntry"), (0, .methodref 7 139), (0, .nameAndType 140 141), (0, u "newNode"), (0, u "(Lcom/example/carillon/carillon/Message;)Lcom/example/carillon/carillon/Chain$Node;"), (0, .methodref 7 143), (0, .nameAndType 144 145), (0, u "linkAfter"), (0, u "(ILcom/example/carillon/carillon/Chain$Node;Lcom/example/carillon/carillon/Chain$Node;)V"), (0, .methodref 147 148), (0, .class_ 149), (0, .nameAndType 150 151), (0, u "java/util/Arrays"), (0, u "fill"), (0, u "([Ljava/lang/Object;Ljava/lang/Object;)V"), (0, .methodref 7 153), (0, .nameAndType 154 145), (0, u "unlinkNode"), (0, .methodref 7 156), (0, .nameAndType 157 74), (0, u "unlinkNodesBySearch"), (0, .methodref 7 159), (0, .nameAndType 160 161), (0, u "unlinkFromLaneZero"), (0, u "(Lcom/example/carillon/carillon/Message;Lcom/example/carillon/carillon/Message;)V"), (10, .fieldref 7 173), (0, .nameAndType 174 175), (0, u "spareNodeCount"), (0, u "I"), (0, .fieldref 7 177), (0, .nameAndType 178 128), (0, u "spareNodes"), (0, .methodref 9 3), (0, .long 2685821657736338717), (1, .long 2199023255552), (1, .methodref 41 185), (0, .nameAndType 186 187), (0, u "numberOfLeadingZeros"), (0, u "(J)I"), (0, u "LANES"), (2, u "SPARE_NODES_KEPT"), (3, u "first"), (0, u "lastOrder"), (3, u "insert"), (1, u "take"), (0, u "(Lcom/example/carillon/carillon/Message;Lcom/example/carillon/carillon/Message;)Lcom/example/carillon/carillon/Message;")] 9

def k3c0 : Code := { maxStack := 3, maxLocals := 1, code := prog_2_method_1_code, exceptionTable := #[], attributes := #[] }
def k3m0 : Method := { name := "<init>", desc := "()V", sig := { parameters := [], returnType := none }, accessFlags := 0, code := some k3c0 }
def k3c1 : Code := { maxStack := 1, maxLocals := 1, code := prog_2_method_2_code, exceptionTable := #[], attributes := #[] }
def k3m1 : Method := { name := "first", desc := "()Lcom/example/carillon/carillon/Message;", sig := { parameters := [], returnType := some (.object "com/example/carillon/carillon/Message") }, accessFlags := 0, code := some k3c1 }
def k3c2 : Code := { maxStack := 4, maxLocals := 3, code := prog_2_method_3_code, exceptionTable := #[], attributes := #[] }
def k3m2 : Method := { name := "lastOrder", desc := "()J", sig := { parameters := [], returnType := some .long }, accessFlags := 0, code := some k3c2 }
def k3c3 : Code := { maxStack := 2, maxLocals := 1, code := prog_2_method_4_code, exceptionTable := #[], attributes := #[] }
def k3m3 : Method := { name := "orderOf", desc := "(Lcom/example/carillon/carillon/Message;)J", sig := { parameters := [(.object "com/example/carillon/carillon/Message")], returnType := some .long }, accessFlags := 8, code := some k3c3 }
def k3c4 : Code := { maxStack := 4, maxLocals := 2, code := prog_2_method_5_code, exceptionTable := #[], attributes := #[] }
def k3m4 : Method := { name := "goesBehind", desc := "(Lcom/example/carillon/carillon/Message;Lcom/example/carillon/carillon/Message;)Z", sig := { parameters := [(.object "com/example/carillon/carillon/Message"), (.object "com/example/carillon/carillon/Message")], returnType := some .boolean }, accessFlags := 10, code := some k3c4 }
def k3c5 : Code := { maxStack := 4, maxLocals := 3, code := prog_2_method_8_code, exceptionTable := #[], attributes := #[] }
def k3m5 : Method := { name := "placeAheadOf", desc := "(Lcom/example/carillon/carillon/Message;)Z", sig := { parameters := [(.object "com/example/carillon/carillon/Message")], returnType := some .boolean }, accessFlags := 0, code := some k3c5 }
def k3c6 : Code := { maxStack := 2, maxLocals := 1, code := prog_2_method_9_code, exceptionTable := #[], attributes := #[] }
def k3m6 : Method := { name := "placeAll", desc := "()V", sig := { parameters := [], returnType := none }, accessFlags := 0, code := some k3c6 }
def k3c7 : Code := { maxStack := 2, maxLocals := 2, code := prog_2_method_10_code, exceptionTable := #[], attributes := #[] }
def k3m7 : Method := { name := "insert", desc := "(Lcom/example/carillon/carillon/Message;)V", sig := { parameters := [(.object "com/example/carillon/carillon/Message")], returnType := none }, accessFlags := 0, code := some k3c7 }
def k3c8 : Code := { maxStack := 2, maxLocals := 2, code := prog_2_method_11_code, exceptionTable := #[], attributes := #[] }
def k3m8 : Method := { name := "link", desc := "(Lcom/example/carillon/carillon/Message;)V", sig := { parameters := [(.object "com/example/carillon/carillon/Message")], returnType := none }, accessFlags := 2, code := some k3c8 }
def k3c9 : Code := { maxStack := 2, maxLocals := 2, code := prog_2_method_12_code, exceptionTable := #[], attributes := #[] }
def k3m9 : Method := { name := "insertBehindFinger", desc := "(Lcom/example/carillon/carillon/Message;)V", sig := { parameters := [(.object "com/example/carillon/carillon/Message")], returnType := none }, accessFlags := 2, code := some k3c9 }
def k3c10 : Code := { maxStack := 4, maxLocals := 3, code := prog_2_method_13_code, exceptionTable := #[], attributes := #[] }
def k3m10 : Method := { name := "append", desc := "(Lcom/example/carillon/carillon/Message;)V", sig := { parameters := [(.object "com/example/carillon/carillon/Message")], returnType := none }, accessFlags := 2, code := some k3c10 }
def k3c11 : Code := { maxStack := 4, maxLocals := 8, code := prog_2_method_14_code, exceptionTable := #[], attributes := #[] }
def k3m11 : Method := { name := "linkBySearch", desc := "(Lcom/example/carillon/carillon/Message;)V", sig := { parameters := [(.object "com/example/carillon/carillon/Message")], returnType := none }, accessFlags := 2, code := some k3c11 }
def k3c12 : Code := { maxStack := 4, maxLocals := 8, code := prog_2_method_15_code, exceptionTable := #[], attributes := #[] }
def k3m12 : Method := { name := "linkNodes", desc := "(Lcom/example/carillon/carillon/Message;I[Lcom/example/carillon/carillon/Chain$Node;)V", sig := { parameters := [(.object "com/example/carillon/carillon/Message"), .int, (.array (.object "com/example/carillon/carillon/Chain$Node"))], returnType := none }, accessFlags := 2, code := some k3c12 }
def k3c13 : Code := { maxStack := 2, maxLocals := 1, code := prog_2_method_16_code, exceptionTable := #[], attributes := #[] }
def k3m13 : Method := { name := "clearFinger", desc := "()V", sig := { parameters := [], returnType := none }, accessFlags := 2, code := some k3c13 }
def k3c14 : Code := { maxStack := 6, maxLocals := 4, code := prog_2_method_17_code, exceptionTable := #[], attributes := #[] }
def k3m14 : Method := { name := "take", desc := "(Lcom/example/carillon/carillon/Message;Lcom/example/carillon/carillon/Message;)Lcom/example/carillon/carillon/Message;", sig := { parameters := [(.object "com/example/carillon/carillon/Message"), (.object "com/example/carillon/carillon/Message")], returnType := some (.object "com/example/carillon/carillon/Message") }, accessFlags := 0, code := some k3c14 }
def k3c15 : Code := { maxStack := 4, maxLocals := 7, code := prog_2_method_18_code, exceptionTable := #[], attributes := #[] }
def k3m15 : Method := { name := "unlinkNodesBySearch", desc := "(Lcom/example/carillon/carillon/Message;)V", sig := { parameters := [(.object "com/example/carillon/carillon/Message")], returnType := none }, accessFlags := 2, code := some k3c15 }
def k3c16 : Code := { maxStack := 2, maxLocals := 3, code := prog_2_method_19_code, exceptionTable := #[], attributes := #[] }
def k3m16 : Method := { name := "unlinkFromLaneZero", desc := "(Lcom/example/carillon/carillon/Message;Lcom/example/carillon/carillon/Message;)V", sig := { parameters := [(.object "com/example/carillon/carillon/Message"), (.object "com/example/carillon/carillon/Message")], returnType := none }, accessFlags := 2, code := some k3c16 }
def k3c17 : Code := { maxStack := 3, maxLocals := 4, code := prog_2_method_22_code, exceptionTable := #[], attributes := #[] }
def k3m17 : Method := { name := "linkAfter", desc := "(ILcom/example/carillon/carillon/Chain$Node;Lcom/example/carillon/carillon/Chain$Node;)V", sig := { parameters := [.int, (.object "com/example/carillon/carillon/Chain$Node"), (.object "com/example/carillon/carillon/Chain$Node")], returnType := none }, accessFlags := 2, code := some k3c17 }
def k3c18 : Code := { maxStack := 3, maxLocals := 4, code := prog_2_method_23_code, exceptionTable := #[], attributes := #[] }
def k3m18 : Method := { name := "unlinkNode", desc := "(ILcom/example/carillon/carillon/Chain$Node;Lcom/example/carillon/carillon/Chain$Node;)V", sig := { parameters := [.int, (.object "com/example/carillon/carillon/Chain$Node"), (.object "com/example/carillon/carillon/Chain$Node")], returnType := none }, accessFlags := 2, code := some k3c18 }
def k3c19 : Code := { maxStack := 3, maxLocals := 3, code := prog_2_method_24_code, exceptionTable := #[], attributes := #[] }
def k3m19 : Method := { name := "newNode", desc := "(Lcom/example/carillon/carillon/Message;)Lcom/example/carillon/carillon/Chain$Node;", sig := { parameters := [(.object "com/example/carillon/carillon/Message")], returnType := some (.object "com/example/carillon/carillon/Chain$Node") }, accessFlags := 2, code := some k3c19 }
def k3c20 : Code := { maxStack := 6, maxLocals := 3, code := prog_2_method_25_code, exceptionTable := #[], attributes := #[] }
def k3m20 : Method := { name := "drawLanes", desc := "()I", sig := { parameters := [], returnType := some .int }, accessFlags := 2, code := some k3c20 }
/-- com/example/carillon/carillon/Chain -/
def k3 : Class := { plain "com/example/carillon/carillon/Chain" (some 0) with
  accessFlags := 48
  interfaces := #[]
  cf := some (fileOf pool3 7 #[.nestMembers #[9]] #[{ accessFlags := 0, nameIndex := 5, descriptorIndex := 6, attributes := #[] }, { accessFlags := 0, nameIndex := 195, descriptorIndex := 96, attributes := #[] }, { accessFlags := 0, nameIndex := 196, descriptorIndex := 52, attributes := #[] }, { accessFlags := 8, nameIndex := 47, descriptorIndex := 48, attributes := #[] }, { accessFlags := 10, nameIndex := 77, descriptorIndex := 78, attributes := #[] }, { accessFlags := 0, nameIndex := 105, descriptorIndex := 106, attributes := #[] }, { accessFlags := 0, nameIndex := 109, descriptorIndex := 6, attributes := #[] }, { accessFlags := 0, nameIndex := 200, descriptorIndex := 74, attributes := #[] }, { accessFlags := 2, nameIndex := 73, descriptorIndex := 74, attributes := #[] }, { accessFlags := 2, nameIndex := 102, descriptorIndex := 74, attributes := #[] }, { accessFlags := 2, nameIndex := 85, descriptorIndex := 74, attributes := #[] }, { accessFlags := 2, nameIndex := 112, descriptorIndex := 74, attributes := #[] }, { accessFlags := 2, nameIndex := 123, descriptorIndex := 124, attributes := #[] }, { accessFlags := 2, nameIndex := 99, descriptorIndex := 6, attributes := #[] }, { accessFlags := 0, nameIndex := 202, descriptorIndex := 203, attributes := #[] }, { accessFlags := 2, nameIndex := 157, descriptorIndex := 74, attributes := #[] }, { accessFlags := 2, nameIndex := 160, descriptorIndex := 161, attributes := #[] }, { accessFlags := 2, nameIndex := 144, descriptorIndex := 145, attributes := #[] }, { accessFlags := 2, nameIndex := 154, descriptorIndex := 145, attributes := #[] }, { accessFlags := 2, nameIndex := 140, descriptorIndex := 141, attributes := #[] }, { accessFlags := 2, nameIndex := 115, descriptorIndex := 116, attributes := #[] }] 48 2 #[] #[{ accessFlags := 26, nameIndex := 188, descriptorIndex := 175, attributes := #[] }, { accessFlags := 26, nameIndex := 191, descriptorIndex := 175, attributes := #[] }, { accessFlags := 2, nameIndex := 36, descriptorIndex := 37, attributes := #[] }, { accessFlags := 2, nameIndex := 40, descriptorIndex := 37, attributes := #[] }, { accessFlags := 18, nameIndex := 13, descriptorIndex := 14, attributes := #[] }, { accessFlags := 18, nameIndex := 17, descriptorIndex := 14, attributes := #[] }, { accessFlags := 18, nameIndex := 23, descriptorIndex := 24, attributes := #[] }, { accessFlags := 2, nameIndex := 178, descriptorIndex := 128, attributes := #[] }, { accessFlags := 2, nameIndex := 174, descriptorIndex := 175, attributes := #[] }, { accessFlags := 2, nameIndex := 29, descriptorIndex := 30, attributes := #[] }, { accessFlags := 2, nameIndex := 137, descriptorIndex := 37, attributes := #[] }, { accessFlags := 18, nameIndex := 33, descriptorIndex := 14, attributes := #[] }])
  fields := #[{ name := "LANES", type := .int, accessFlags := 26, slot := 0, constantValue := 0 }, { name := "SPARE_NODES_KEPT", type := .int, accessFlags := 26, slot := 1, constantValue := 0 }, { name := "head", type := (.object "com/example/carillon/carillon/Message"), accessFlags := 2, slot := 0, constantValue := 0 }, { name := "tail", type := (.object "com/example/carillon/carillon/Message"), accessFlags := 2, slot := 1, constantValue := 0 }, { name := "firstNodes", type := (.array (.object "com/example/carillon/carillon/Chain$Node")), accessFlags := 18, slot := 2, constantValue := 0 }, { name := "lastNodes", type := (.array (.object "com/example/carillon/carillon/Chain$Node")), accessFlags := 18, slot := 3, constantValue := 0 }, { name := "backlog", type := (.object "com/example/carillon/carillon/Backlog"), accessFlags := 18, slot := 4, constantValue := 0 }, { name := "spareNodes", type := (.object "com/example/carillon/carillon/Chain$Node"), accessFlags := 2, slot := 5, constantValue := 0 }, { name := "spareNodeCount", type := .int, accessFlags := 2, slot := 6, constantValue := 0 }, { name := "laneDraws", type := .long, accessFlags := 2, slot := 7, constantValue := 0 }, { name := "fingerEntry", type := (.object "com/example/carillon/carillon/Message"), accessFlags := 2, slot := 8, constantValue := 0 }, { name := "fingerNodes", type := (.array (.object "com/example/carillon/carillon/Chain$Node")), accessFlags := 18, slot := 9, constantValue := 0 }]
  methods := #[k3m0, k3m1, k3m2, k3m3, k3m4, k3m5, k3m6, k3m7, k3m8, k3m9, k3m10, k3m11, k3m12, k3m13, k3m14, k3m15, k3m16, k3m17, k3m18, k3m19, k3m20]
  instanceTypes := #[(.object "com/example/carillon/carillon/Message"), (.object "com/example/carillon/carillon/Message"), (.array (.object "com/example/carillon/carillon/Chain$Node")), (.array (.object "com/example/carillon/carillon/Chain$Node")), (.object "com/example/carillon/carillon/Backlog"), (.object "com/example/carillon/carillon/Chain$Node"), .int, .long, (.object "com/example/carillon/carillon/Message"), (.array (.object "com/example/carillon/carillon/Chain$Node"))]
  staticTypes := #[.int, .int]
  resolved := ⟨List.replicate 9 none ++ some (.cls 4) :: (List.replicate 169 none ++ some (.method ⟨4, 0⟩) :: List.replicate 33 none)⟩
  statics := none }

def pool4 : Array CpInfo := pool [(1, .methodref 2 3), (0, .class_ 4), (0, .nameAndType 5 6), (0, u "java/lang/Object"), (0, u "<init>"), (0, u "()V"), (0, .class_ 8), (0, u "com/example/carillon/carillon/Chain$Node"), (0, u "entry"), (0, u "Lcom/example/carillon/carillon/Message;"), (0, u "right"), (0, u "Lcom/example/carillon/carillon/Chain$Node;"), (0, u "down"), (5, .class_ 20), (0, u "com/example/carillon/carillon/Chain")] 2

def k4c0 : Code := { maxStack := 1, maxLocals := 1, code := prog_3_method_1_code, exceptionTable := #[], attributes := #[] }
def k4m0 : Method := { name := "<init>", desc := "()V", sig := { parameters := [], returnType := none }, accessFlags := 2, code := some k4c0 }
/-- com/example/carillon/carillon/Chain$Node -/
def k4 : Class := { plain "com/example/carillon/carillon/Chain$Node" (some 0) with
  accessFlags := 48
  interfaces := #[]
  cf := some (fileOf pool4 7 #[.nestHost 19] #[{ accessFlags := 2, nameIndex := 5, descriptorIndex := 6, attributes := #[] }] 48 2 #[] #[{ accessFlags := 0, nameIndex := 9, descriptorIndex := 10, attributes := #[] }, { accessFlags := 0, nameIndex := 11, descriptorIndex := 12, attributes := #[] }, { accessFlags := 0, nameIndex := 13, descriptorIndex := 12, attributes := #[] }])
  fields := #[{ name := "entry", type := (.object "com/example/carillon/carillon/Message"), accessFlags := 0, slot := 0, constantValue := 0 }, { name := "right", type := (.object "com/example/carillon/carillon/Chain$Node"), accessFlags := 0, slot := 1, constantValue := 0 }, { name := "down", type := (.object "com/example/carillon/carillon/Chain$Node"), accessFlags := 0, slot := 2, constantValue := 0 }]
  methods := #[k4m0]
  instanceTypes := #[(.object "com/example/carillon/carillon/Message"), (.object "com/example/carillon/carillon/Chain$Node"), (.object "com/example/carillon/carillon/Chain$Node")]
  staticTypes := #[]
  resolved := Array.replicate 23 none
  statics := none }

def pool5 : Array CpInfo := pool [(1, .methodref 2 3), (0, .class_ 4), (0, .nameAndType 5 6), (0, u "java/lang/Object"), (0, u "<init>"), (0, u "()V"), (0, .class_ 8), (0, u "com/example/carillon/carillon/Message"), (0, .fieldref 10 11), (0, .class_ 12), (0, .nameAndType 13 14), (0, u "com/example/carillon/carillon/Backlog"), (0, u "entries"), (0, u "[Lcom/example/carillon/carillon/Message;"), (0, .fieldref 10 16), (0, .nameAndType 17 18), (0, u "keys"), (0, u "[J"), (2, .long 9223372036854775808), (1, .fieldref 10 24), (0, .nameAndType 25 26), (0, u "highestOrder"), (0, u "J"), (0, .fieldref 10 28), (0, .nameAndType 29 30), (0, u "size"), (0, u "I"), (21, u "nextArrival"), (15, u "KEPT_CAPACITY"), (4, u "isEmpty"), (0, u "()Z"), (4, u "()J")] 4

def k5c0 : Code := { maxStack := 3, maxLocals := 1, code := prog_1_method_1_code, exceptionTable := #[], attributes := #[] }
def k5m0 : Method := { name := "<init>", desc := "()V", sig := { parameters := [], returnType := none }, accessFlags := 0, code := some k5c0 }
def k5c1 : Code := { maxStack := 1, maxLocals := 1, code := prog_1_method_2_code, exceptionTable := #[], attributes := #[] }
def k5m1 : Method := { name := "isEmpty", desc := "()Z", sig := { parameters := [], returnType := some .boolean }, accessFlags := 0, code := some k5c1 }
def k5c2 : Code := { maxStack := 2, maxLocals := 1, code := prog_1_method_5_code, exceptionTable := #[], attributes := #[] }
def k5m2 : Method := { name := "highestOrder", desc := "()J", sig := { parameters := [], returnType := some .long }, accessFlags := 0, code := some k5c2 }
/-- com/example/carillon/carillon/Backlog -/
def k5 : Class := { plain "com/example/carillon/carillon/Backlog" (some 0) with
  accessFlags := 48
  interfaces := #[]
  cf := some (fileOf pool5 10 #[] #[{ accessFlags := 0, nameIndex := 5, descriptorIndex := 6, attributes := #[] }, { accessFlags := 0, nameIndex := 73, descriptorIndex := 74, attributes := #[] }, { accessFlags := 0, nameIndex := 25, descriptorIndex := 79, attributes := #[] }] 48 2 #[] #[{ accessFlags := 26, nameIndex := 68, descriptorIndex := 30, attributes := #[] }, { accessFlags := 2, nameIndex := 13, descriptorIndex := 14, attributes := #[] }, { accessFlags := 2, nameIndex := 17, descriptorIndex := 18, attributes := #[] }, { accessFlags := 2, nameIndex := 29, descriptorIndex := 30, attributes := #[] }, { accessFlags := 2, nameIndex := 52, descriptorIndex := 26, attributes := #[] }, { accessFlags := 2, nameIndex := 25, descriptorIndex := 26, attributes := #[] }])
  fields := #[{ name := "KEPT_CAPACITY", type := .int, accessFlags := 26, slot := 0, constantValue := 0 }, { name := "entries", type := (.array (.object "com/example/carillon/carillon/Message")), accessFlags := 2, slot := 0, constantValue := 0 }, { name := "keys", type := (.array .long), accessFlags := 2, slot := 1, constantValue := 0 }, { name := "size", type := .int, accessFlags := 2, slot := 2, constantValue := 0 }, { name := "nextArrival", type := .long, accessFlags := 2, slot := 3, constantValue := 0 }, { name := "highestOrder", type := .long, accessFlags := 2, slot := 4, constantValue := 0 }]
  methods := #[k5m0, k5m1, k5m2]
  instanceTypes := #[(.array (.object "com/example/carillon/carillon/Message")), (.array .long), .int, .long, .long]
  staticTypes := #[.int]
  resolved := Array.replicate 84 none
  statics := none }

def pool6 : Array CpInfo := pool [(2, .class_ 4), (1, u "java/lang/Object"), (0, u "<init>"), (0, u "()V"), (7, .class_ 16), (1, u "java/util/Arrays"), (57, .class_ 76), (1, u "java/util/Arrays$NaturalOrder"), (36, .class_ 115), (1, u "java/util/Arrays$LegacyMergeSort"), (1, u "Z"), (257, .class_ 376), (0, u "java/util/Arrays$ArrayList"), (68, u "$assertionsDisabled"), (269, u "MIN_ARRAY_SORT_GRAN"), (0, u "I"), (2, u "INSERTIONSORT_THRESHOLD"), (120, u "fill"), (17, u "([Ljava/lang/Object;Ljava/lang/Object;)V"), (116, .class_ 976), (0, u "java/util/Arrays$ArrayItr")] 52

def k6m0 : Method := { name := "<init>", desc := "()V", sig := { parameters := [], returnType := none }, accessFlags := 2, code := none }
def k6c1 : Code := { maxStack := 3, maxLocals := 4, code := jdk_65_method_117_code, exceptionTable := #[], attributes := #[] }
def k6m1 : Method := { name := "fill", desc := "([Ljava/lang/Object;Ljava/lang/Object;)V", sig := { parameters := [(.array (.object "java/lang/Object")), (.object "java/lang/Object")], returnType := none }, accessFlags := 9, code := some k6c1 }
/-- java/util/Arrays -/
def k6 : Class := { plain "java/util/Arrays" (some 0) with
  accessFlags := 49
  interfaces := #[]
  cf := some (fileOf pool6 14 #[.nestMembers #[975, 375, 113, 74]] #[{ accessFlags := 2, nameIndex := 5, descriptorIndex := 6, attributes := #[] }, { accessFlags := 9, nameIndex := 840, descriptorIndex := 858, attributes := #[] }] 49 2 #[] #[{ accessFlags := 26, nameIndex := 715, descriptorIndex := 716, attributes := #[] }, { accessFlags := 26, nameIndex := 719, descriptorIndex := 716, attributes := #[] }, { accessFlags := 4120, nameIndex := 445, descriptorIndex := 117, attributes := #[] }])
  fields := #[{ name := "MIN_ARRAY_SORT_GRAN", type := .int, accessFlags := 26, slot := 0, constantValue := 0 }, { name := "INSERTIONSORT_THRESHOLD", type := .int, accessFlags := 26, slot := 1, constantValue := 0 }, { name := "$assertionsDisabled", type := .boolean, accessFlags := 4120, slot := 2, constantValue := 0 }]
  methods := #[k6m0, k6m1]
  instanceTypes := #[]
  staticTypes := #[.int, .int, .boolean]
  resolved := Array.replicate 1029 none
  statics := none }

def pool7 : Array CpInfo := pool [(1, .class_ 2), (0, u "java/io/Serializable"), (0, .class_ 4), (0, u "java/lang/Object")] 2

/-- java/io/Serializable -/
def k7 : Class := { plain "java/io/Serializable" (some 0) with
  accessFlags := 1537
  interfaces := #[]
  cf := some (fileOf pool7 1 #[] #[] 1537 3 #[] #[])
  fields := #[]
  methods := #[]
  instanceTypes := #[]
  staticTypes := #[]
  resolved := Array.replicate 7 none
  statics := none }

def pool8 : Array CpInfo := pool [(2, .class_ 4), (1, u "java/lang/Object"), (0, u "<init>"), (0, u "()V"), (1, .class_ 10), (1, u "java/lang/Number"), (2, .class_ 14), (0, u "java/io/Serializable"), (0, u "serialVersionUID"), (0, u "J")] 20

def k8m0 : Method := { name := "<init>", desc := "()V", sig := { parameters := [], returnType := none }, accessFlags := 1, code := none }
/-- java/lang/Number -/
def k8 : Class := { plain "java/lang/Number" (some 0) with
  accessFlags := 1057
  interfaces := #[7]
  cf := some (fileOf pool8 8 #[] #[{ accessFlags := 1, nameIndex := 5, descriptorIndex := 6, attributes := #[] }] 1057 2 #[13] #[{ accessFlags := 26, nameIndex := 15, descriptorIndex := 16, attributes := #[] }])
  fields := #[{ name := "serialVersionUID", type := .long, accessFlags := 26, slot := 0, constantValue := 0 }]
  methods := #[k8m0]
  instanceTypes := #[]
  staticTypes := #[.long]
  resolved := Array.replicate 37 none
  statics := none }

def pool9 : Array CpInfo := pool [(1, .class_ 2), (0, u "java/lang/Comparable"), (0, .class_ 4), (0, u "java/lang/Object")] 7

/-- java/lang/Comparable -/
def k9 : Class := { plain "java/lang/Comparable" (some 0) with
  accessFlags := 1537
  interfaces := #[]
  cf := some (fileOf pool9 1 #[] #[] 1537 3 #[] #[])
  fields := #[]
  methods := #[]
  instanceTypes := #[]
  staticTypes := #[]
  resolved := Array.replicate 12 none
  statics := none }

def pool10 : Array CpInfo := pool [(1, .class_ 2), (0, u "java/lang/constant/Constable"), (0, .class_ 4), (0, u "java/lang/Object")] 6

/-- java/lang/constant/Constable -/
def k10 : Class := { plain "java/lang/constant/Constable" (some 0) with
  accessFlags := 1537
  interfaces := #[]
  cf := some (fileOf pool10 1 #[] #[] 1537 3 #[] #[])
  fields := #[]
  methods := #[]
  instanceTypes := #[]
  staticTypes := #[]
  resolved := Array.replicate 11 none
  statics := none }

def pool11 : Array CpInfo := pool [(1, .class_ 2), (0, u "java/lang/constant/ConstantDesc"), (0, .class_ 4), (0, u "java/lang/Object")] 32

/-- java/lang/constant/ConstantDesc -/
def k11 : Class := { plain "java/lang/constant/ConstantDesc" (some 0) with
  accessFlags := 1537
  interfaces := #[]
  cf := some (fileOf pool11 1 #[] #[] 1537 3 #[] #[])
  fields := #[]
  methods := #[]
  instanceTypes := #[]
  staticTypes := #[]
  resolved := Array.replicate 37 none
  statics := none }

def pool12 : Array CpInfo := pool [(1, .class_ 2), (0, u "java/lang/Long"), (15, .class_ 20), (1, u "java/lang/Integer"), (79, u "numberOfLeadingZeros"), (0, u "(J)I"), (133, .class_ 237), (1, u "java/lang/Long$LongCache"), (33, .class_ 272), (0, u "java/lang/Number"), (2, u "value"), (0, u "J"), (31, .methodref 18 309), (0, .nameAndType 100 310), (0, u "(I)I"), (50, u "TYPE"), (0, u "Ljava/lang/Class;"), (0, .class_ 364), (0, u "java/lang/Comparable"), (0, .class_ 366), (0, u "java/lang/constant/Constable"), (0, .class_ 368), (0, u "java/lang/constant/ConstantDesc"), (0, u "MIN_VALUE"), (1, u "MAX_VALUE"), (4, u "SIZE"), (0, u "I"), (1, u "BYTES"), (1, u "serialVersionUID")] 142

def k12c0 : Code := { maxStack := 3, maxLocals := 3, code := jdk_35_method_48_code, exceptionTable := #[], attributes := #[] }
def k12m0 : Method := { name := "numberOfLeadingZeros", desc := "(J)I", sig := { parameters := [.long], returnType := some .int }, accessFlags := 9, code := some k12c0 }
/-- java/lang/Long -/
def k12 : Class := { plain "java/lang/Long" (some 8) with
  accessFlags := 49
  interfaces := #[9, 10, 11]
  cf := some (fileOf pool12 1 #[.nestMembers #[235]] #[{ accessFlags := 9, nameIndex := 100, descriptorIndex := 101, attributes := #[] }] 49 271 #[363, 365, 367] #[{ accessFlags := 25, nameIndex := 369, descriptorIndex := 276, attributes := #[] }, { accessFlags := 25, nameIndex := 371, descriptorIndex := 276, attributes := #[] }, { accessFlags := 25, nameIndex := 361, descriptorIndex := 362, attributes := #[] }, { accessFlags := 18, nameIndex := 275, descriptorIndex := 276, attributes := #[] }, { accessFlags := 25, nameIndex := 376, descriptorIndex := 377, attributes := #[] }, { accessFlags := 25, nameIndex := 379, descriptorIndex := 377, attributes := #[] }, { accessFlags := 26, nameIndex := 381, descriptorIndex := 276, attributes := #[] }])
  fields := #[{ name := "MIN_VALUE", type := .long, accessFlags := 25, slot := 0, constantValue := 0 }, { name := "MAX_VALUE", type := .long, accessFlags := 25, slot := 1, constantValue := 0 }, { name := "TYPE", type := (.object "java/lang/Class"), accessFlags := 25, slot := 2, constantValue := 0 }, { name := "value", type := .long, accessFlags := 18, slot := 0, constantValue := 0 }, { name := "SIZE", type := .int, accessFlags := 25, slot := 3, constantValue := 0 }, { name := "BYTES", type := .int, accessFlags := 25, slot := 4, constantValue := 0 }, { name := "serialVersionUID", type := .long, accessFlags := 26, slot := 5, constantValue := 0 }]
  methods := #[k12m0]
  instanceTypes := #[.long]
  staticTypes := #[.long, .long, (.object "java/lang/Class"), .int, .int, .long]
  resolved := Array.replicate 524 none
  statics := none }

def pool13 : Array CpInfo := pool [(1, .class_ 2), (0, u "java/lang/Integer"), (16, u "digits"), (0, u "[C"), (32, u "numberOfLeadingZeros"), (0, u "(I)I"), (30, u "DigitOnes"), (0, u "[B"), (2, u "DigitTens"), (99, .class_ 190), (0, u "java/lang/Integer$IntegerCache"), (3, u "I"), (8, .class_ 204), (0, u "java/lang/Number"), (2, u "value"), (56, .integer 65536), (37, u "TYPE"), (0, u "Ljava/lang/Class;"), (0, .class_ 305), (0, u "java/lang/Comparable"), (0, .class_ 307), (0, u "java/lang/constant/Constable"), (0, .class_ 309), (0, u "java/lang/constant/ConstantDesc"), (0, u "MIN_VALUE"), (1, u "MAX_VALUE"), (3, u "SIZE"), (1, u "BYTES"), (1, u "serialVersionUID"), (0, u "J")] 131

def k13c0 : Code := { maxStack := 3, maxLocals := 2, code := jdk_33_method_47_code, exceptionTable := #[], attributes := #[] }
def k13m0 : Method := { name := "numberOfLeadingZeros", desc := "(I)I", sig := { parameters := [.int], returnType := some .int }, accessFlags := 9, code := some k13c0 }
/-- java/lang/Integer -/
def k13 : Class := { plain "java/lang/Integer" (some 8) with
  accessFlags := 49
  interfaces := #[9, 10, 11]
  cf := some (fileOf pool13 1 #[.nestMembers #[189]] #[{ accessFlags := 9, nameIndex := 53, descriptorIndex := 54, attributes := #[] }] 49 203 #[304, 306, 308] #[{ accessFlags := 25, nameIndex := 310, descriptorIndex := 194, attributes := #[] }, { accessFlags := 25, nameIndex := 312, descriptorIndex := 194, attributes := #[] }, { accessFlags := 25, nameIndex := 302, descriptorIndex := 303, attributes := #[] }, { accessFlags := 24, nameIndex := 19, descriptorIndex := 20, attributes := #[] }, { accessFlags := 24, nameIndex := 89, descriptorIndex := 86, attributes := #[] }, { accessFlags := 24, nameIndex := 85, descriptorIndex := 86, attributes := #[] }, { accessFlags := 18, nameIndex := 207, descriptorIndex := 194, attributes := #[] }, { accessFlags := 25, nameIndex := 316, descriptorIndex := 194, attributes := #[] }, { accessFlags := 25, nameIndex := 318, descriptorIndex := 194, attributes := #[] }, { accessFlags := 26, nameIndex := 320, descriptorIndex := 321, attributes := #[] }])
  fields := #[{ name := "MIN_VALUE", type := .int, accessFlags := 25, slot := 0, constantValue := 0 }, { name := "MAX_VALUE", type := .int, accessFlags := 25, slot := 1, constantValue := 0 }, { name := "TYPE", type := (.object "java/lang/Class"), accessFlags := 25, slot := 2, constantValue := 0 }, { name := "digits", type := (.array .char), accessFlags := 24, slot := 3, constantValue := 0 }, { name := "DigitTens", type := (.array .byte), accessFlags := 24, slot := 4, constantValue := 0 }, { name := "DigitOnes", type := (.array .byte), accessFlags := 24, slot := 5, constantValue := 0 }, { name := "value", type := .int, accessFlags := 18, slot := 0, constantValue := 0 }, { name := "SIZE", type := .int, accessFlags := 25, slot := 6, constantValue := 0 }, { name := "BYTES", type := .int, accessFlags := 25, slot := 7, constantValue := 0 }, { name := "serialVersionUID", type := .long, accessFlags := 26, slot := 8, constantValue := 0 }]
  methods := #[k13m0]
  instanceTypes := #[.int]
  staticTypes := #[.int, .int, (.object "java/lang/Class"), (.array .char), (.array .byte), (.array .byte), .int, .int, .long]
  resolved := Array.replicate 453 none
  statics := none }

def pool14 : Array CpInfo := pool [(1, .class_ 2), (0, u "java/lang/Math"), (1, .class_ 6), (1, u "java/lang/Object"), (0, u "<init>"), (0, u "()V"), (89, .class_ 100), (1, u "java/lang/Math$RandomNumberGeneratorHolder"), (20, u "(JJ)J"), (50, u "negativeZeroFloatBits"), (0, u "J"), (2, u "negativeZeroDoubleBits"), (21, u "max"), (46, u "$assertionsDisabled"), (0, u "Z"), (91, u "twoToTheDoubleScaleDown"), (0, u "D"), (4, u "twoToTheDoubleScaleUp"), (9, u "E"), (3, u "PI"), (2, u "TAU"), (2, u "DEGREES_TO_RADIANS"), (0, u "RADIANS_TO_DEGREES")] 94

def k14m0 : Method := { name := "<init>", desc := "()V", sig := { parameters := [], returnType := none }, accessFlags := 2, code := none }
def k14c1 : Code := { maxStack := 4, maxLocals := 4, code := jdk_29_method_66_code, exceptionTable := #[], attributes := #[] }
def k14m1 : Method := { name := "max", desc := "(JJ)J", sig := { parameters := [.long, .long], returnType := some .long }, accessFlags := 9, code := some k14c1 }
/-- java/lang/Math -/
def k14 : Class := { plain "java/lang/Math" (some 0) with
  accessFlags := 49
  interfaces := #[]
  cf := some (fileOf pool14 1 #[.nestMembers #[98]] #[{ accessFlags := 2, nameIndex := 7, descriptorIndex := 8, attributes := #[] }, { accessFlags := 9, nameIndex := 198, descriptorIndex := 121, attributes := #[] }] 49 4 #[] #[{ accessFlags := 25, nameIndex := 354, descriptorIndex := 339, attributes := #[] }, { accessFlags := 25, nameIndex := 358, descriptorIndex := 339, attributes := #[] }, { accessFlags := 25, nameIndex := 361, descriptorIndex := 339, attributes := #[] }, { accessFlags := 26, nameIndex := 364, descriptorIndex := 339, attributes := #[] }, { accessFlags := 26, nameIndex := 365, descriptorIndex := 339, attributes := #[] }, { accessFlags := 26, nameIndex := 172, descriptorIndex := 173, attributes := #[] }, { accessFlags := 26, nameIndex := 176, descriptorIndex := 173, attributes := #[] }, { accessFlags := 8, nameIndex := 344, descriptorIndex := 339, attributes := #[] }, { accessFlags := 8, nameIndex := 338, descriptorIndex := 339, attributes := #[] }, { accessFlags := 4120, nameIndex := 245, descriptorIndex := 246, attributes := #[] }])
  fields := #[{ name := "E", type := .double, accessFlags := 25, slot := 0, constantValue := 0 }, { name := "PI", type := .double, accessFlags := 25, slot := 1, constantValue := 0 }, { name := "TAU", type := .double, accessFlags := 25, slot := 2, constantValue := 0 }, { name := "DEGREES_TO_RADIANS", type := .double, accessFlags := 26, slot := 3, constantValue := 0 }, { name := "RADIANS_TO_DEGREES", type := .double, accessFlags := 26, slot := 4, constantValue := 0 }, { name := "negativeZeroFloatBits", type := .long, accessFlags := 26, slot := 5, constantValue := 0 }, { name := "negativeZeroDoubleBits", type := .long, accessFlags := 26, slot := 6, constantValue := 0 }, { name := "twoToTheDoubleScaleUp", type := .double, accessFlags := 8, slot := 7, constantValue := 0 }, { name := "twoToTheDoubleScaleDown", type := .double, accessFlags := 8, slot := 8, constantValue := 0 }, { name := "$assertionsDisabled", type := .boolean, accessFlags := 4120, slot := 9, constantValue := 0 }]
  methods := #[k14m0, k14m1]
  instanceTypes := #[]
  staticTypes := #[.double, .double, .double, .double, .double, .long, .long, .double, .double, .boolean]
  resolved := Array.replicate 460 none
  statics := none }

def pool15 : Array CpInfo := pool [(1, u "java/lang/Cloneable"), (0, .class_ 1), (0, u "java/lang/Object"), (0, .class_ 3)] 3

/-- java/lang/Cloneable -/
def k15 : Class := { plain "java/lang/Cloneable" (some 0) with
  accessFlags := 1537
  interfaces := #[]
  cf := some (fileOf pool15 2 #[] #[] 1537 4 #[] #[])
  fields := #[]
  methods := #[]
  instanceTypes := #[]
  staticTypes := #[]
  resolved := Array.replicate 8 none
  statics := none }

/-- the primitive byte -/
def k16 : Class := { plain "byte" none with kind := .primitive 'B', accessFlags := 0x411 }
/-- [B -/
def k17 : Class := { plain "[B" (some 0) with kind := .array 16 .byte, interfaces := #[15, 7], accessFlags := 1041 }

/-- the primitive int -/
def k18 : Class := { plain "int" none with kind := .primitive 'I', accessFlags := 0x411 }
/-- [I -/
def k19 : Class := { plain "[I" (some 0) with kind := .array 18 .int, interfaces := #[15, 7], accessFlags := 1041 }

/-- the primitive long -/
def k20 : Class := { plain "long" none with kind := .primitive 'J', accessFlags := 0x411 }
/-- [J -/
def k21 : Class := { plain "[J" (some 0) with kind := .array 20 .long, interfaces := #[15, 7], accessFlags := 1041 }

/-- [Lcom/example/carillon/carillon/Chain$Node; -/
def k22 : Class := { plain "[Lcom/example/carillon/carillon/Chain$Node;" (some 0) with kind := .array 4 (.object "com/example/carillon/carillon/Chain$Node"), interfaces := #[15, 7], accessFlags := 1041 }

/-- [Lcom/example/carillon/carillon/Message; -/
def k23 : Class := { plain "[Lcom/example/carillon/carillon/Message;" (some 0) with kind := .array 2 (.object "com/example/carillon/carillon/Message"), interfaces := #[15, 7], accessFlags := 1041 }

def heap : Heap := #[]
def classes : Array Class := #[k0, k1, k2, k3, k4, k5, k6, k7, k8, k9, k10, k11, k12, k13, k14, k15, k16, k17, k18, k19, k20, k21, k22, k23]
def interned : List (Array UInt16 × Addr) := []
def slotsUsed : Nat := 0
def theMethod : MethodId := ⟨1, 3⟩
def args0 : Array Value := #[.long 5, .long 7, .long 6, .int 3, .int 1]
def aboutOver (below : List Frame) : State where
  vm := { classes := classes, interned := interned.toArray }
  heap := heap
  slotsUsed := slotsUsed
  threads := #[{ frames := .invoking theMethod args0 :: below }]
def below0 : List Frame := [.native { method := ⟨0, 0⟩, args := #[] }]
def about1 : State := aboutOver below0
def p0 : Program := .bare "" "" ""
def e0 : Env := launch0.env 0 0 0
theorem w_frames : about1.frames = Frame.invoking theMethod args0 :: below0 := rfl
set_option maxRecDepth 65536 in
theorem w_args : argsFit about1.vm theMethod args0 = true := by decide +kernel
set_option maxRecDepth 65536 in
theorem w_heap : heapFits about1 = true := by decide +kernel
set_option maxRecDepth 65536 in
theorem w_runnable : about1.curStatus? = some .runnable := by decide +kernel
set_option maxRecDepth 65536 in
theorem w_alone : about1.alone = true := by decide +kernel
set_option maxRecDepth 65536 in
theorem w_named : about1.methodNamed? x = some theMethod := by decide +kernel
set_option maxRecDepth 65536 in
theorem w_hears : about1.hears theMethod below0 = true := by decide +kernel
set_option maxRecDepth 65536 in
theorem w_ripe : about1.ripe theMethod args0 below0 = true := by decide +kernel
theorem w_running : about1.status = .running := rfl
set_option maxRecDepth 65536 in
theorem w_room : about1.hasRoom e0.platform room_1 = true :=
  launch0.hasRoom_least _ room_1 (by decide +kernel) (by decide +kernel) (by decide +kernel) (by decide +kernel) (by decide +kernel) (by decide +kernel)
theorem allAtoms_all (ts : List Jvm.Cond) (a : Array Jvm.Value) (st : Jvm.State) : (allAtoms ts).before a st = ts.all (fun c => c.before a st) := by
  induction ts with
  | nil => rfl
  | cons c t ih =>
    show (Jvm.Cond.and c (allAtoms t)).before a st = _
    rw [Jvm.Cond.before_and, ih, List.all_cons]
def words1 : List Jvm.Cond := Jvm.Cond.code x code maxLocals ret :: tables_1
/-- a 'code' word, met by the world's own term for the bytes: nothing is compared byte by byte -/
theorem code_word {y : MethodName} {bytes : ByteArray} {mx : Nat} {rt : Option FieldType} {a : Array Value} {s : State} {m : MethodId} {meth : Method} {c : Code} (h1 : s.methodNamed? y = some m) (h2 : s.vm.method? m = some meth) (h3 : meth.code = some c) (h4 : c.code = bytes)
    (h5 : (c.maxLocals == mx && c.exceptionTable.isEmpty && decide (c.maxStack ≤ mostOperands) && decide (meth.sig.returnType = rt) && !meth.locks && decide (parseMethodDescriptor y.desc = some meth.sig)) = true) : (Jvm.Cond.code y bytes mx rt).before a s = true := by
  simp only [Bool.and_eq_true, beq_iff_eq, Bool.not_eq_true', decide_eq_true_eq] at h5
  obtain ⟨⟨⟨⟨⟨g1, g2⟩, g3⟩, g4⟩, g5⟩, g6⟩ := h5
  simp [Cond.before, Cond.holds, Cond.value, h1, h2, h3, h4, g1, g2, g3, g4, g5, g6]
def isCode : Jvm.Cond → Bool
  | .code _ _ _ _ => true
  | _ => false
theorem all_split {L : List Jvm.Cond} {P : Jvm.Cond → Bool} (h1 : L.all (fun c => isCode c || P c) = true) (h2 : ∀ c ∈ L.filter isCode, P c = true) : L.all P = true := by
  refine List.all_eq_true.mpr fun c hc => ?_
  have h := List.all_eq_true.mp h1 c hc
  rcases Bool.eq_false_or_eq_true (isCode c) with hi | hi
  · exact h2 c (List.mem_filter.mpr ⟨hc, hi⟩)
  · simpa [hi] using h
set_option maxRecDepth 65536 in
theorem w_c0 : (Jvm.Cond.code x code maxLocals ret).before args0 about1 = true := code_word (m := ⟨1, 3⟩) (meth := k1m3) (c := k1c3) (by decide +kernel) rfl rfl rfl (by decide +kernel)
set_option maxRecDepth 65536 in
theorem w_c1 : (Jvm.Cond.code ({ cls := "com/example/carillon/carillon/Message", name := "<init>", desc := "()V" } : Jvm.MethodName) prog_15_method_1_code (1 : Nat) (Option.none : Option Jvm.ClassFile.FieldType)).before args0 about1 = true := code_word (m := ⟨2, 0⟩) (meth := k2m0) (c := k2c0) (by decide +kernel) rfl rfl rfl (by decide +kernel)
set_option maxRecDepth 65536 in
theorem w_c2 : (Jvm.Cond.code ({ cls := "java/lang/Object", name := "<init>", desc := "()V" } : Jvm.MethodName) object_method_1_code (1 : Nat) (Option.none : Option Jvm.ClassFile.FieldType)).before args0 about1 = true := code_word (m := ⟨0, 0⟩) (meth := k0m0) (c := k0c0) (by decide +kernel) rfl rfl rfl (by decide +kernel)
set_option maxRecDepth 65536 in
theorem w_c3 : (Jvm.Cond.code ({ cls := "com/example/carillon/carillon/ChainTakePinLaw", name := "fill", desc := "(Lcom/example/carillon/carillon/Message;JZ)V" } : Jvm.MethodName) method_3_code (4 : Nat) (Option.none : Option Jvm.ClassFile.FieldType)).before args0 about1 = true := code_word (m := ⟨1, 2⟩) (meth := k1m2) (c := k1c2) (by decide +kernel) rfl rfl rfl (by decide +kernel)
set_option maxRecDepth 65536 in
theorem w_c4 : (Jvm.Cond.code ({ cls := "com/example/carillon/carillon/Chain", name := "<init>", desc := "()V" } : Jvm.MethodName) prog_2_method_1_code (1 : Nat) (Option.none : Option Jvm.ClassFile.FieldType)).before args0 about1 = true := code_word (m := ⟨3, 0⟩) (meth := k3m0) (c := k3c0) (by decide +kernel) rfl rfl rfl (by decide +kernel)
set_option maxRecDepth 65536 in
theorem w_c5 : (Jvm.Cond.code ({ cls := "com/example/carillon/carillon/Backlog", name := "<init>", desc := "()V" } : Jvm.MethodName) prog_1_method_1_code (1 : Nat) (Option.none : Option Jvm.ClassFile.FieldType)).before args0 about1 = true := code_word (m := ⟨5, 0⟩) (meth := k5m0) (c := k5c0) (by decide +kernel) rfl rfl rfl (by decide +kernel)
set_option maxRecDepth 65536 in
theorem w_c6 : (Jvm.Cond.code ({ cls := "com/example/carillon/carillon/Chain", name := "insert", desc := "(Lcom/example/carillon/carillon/Message;)V" } : Jvm.MethodName) prog_2_method_10_code (2 : Nat) (Option.none : Option Jvm.ClassFile.FieldType)).before args0 about1 = true := code_word (m := ⟨3, 7⟩) (meth := k3m7) (c := k3c7) (by decide +kernel) rfl rfl rfl (by decide +kernel)
set_option maxRecDepth 65536 in
theorem w_c7 : (Jvm.Cond.code ({ cls := "com/example/carillon/carillon/Chain", name := "placeAll", desc := "()V" } : Jvm.MethodName) prog_2_method_9_code (1 : Nat) (Option.none : Option Jvm.ClassFile.FieldType)).before args0 about1 = true := code_word (m := ⟨3, 6⟩) (meth := k3m6) (c := k3c6) (by decide +kernel) rfl rfl rfl (by decide +kernel)
set_option maxRecDepth 65536 in
theorem w_c8 : (Jvm.Cond.code ({ cls := "com/example/carillon/carillon/Chain", name := "placeAheadOf", desc := "(Lcom/example/carillon/carillon/Message;)Z" } : Jvm.MethodName) prog_2_method_8_code (3 : Nat) (Option.some Jvm.ClassFile.FieldType.boolean)).before args0 about1 = true := code_word (m := ⟨3, 5⟩) (meth := k3m5) (c := k3c5) (by decide +kernel) rfl rfl rfl (by decide +kernel)
set_option maxRecDepth 65536 in
theorem w_c9 : (Jvm.Cond.code ({ cls := "com/example/carillon/carillon/Chain", name := "clearFinger", desc := "()V" } : Jvm.MethodName) prog_2_method_16_code (1 : Nat) (Option.none : Option Jvm.ClassFile.FieldType)).before args0 about1 = true := code_word (m := ⟨3, 13⟩) (meth := k3m13) (c := k3c13) (by decide +kernel) rfl rfl rfl (by decide +kernel)
set_option maxRecDepth 65536 in
theorem w_c10 : (Jvm.Cond.code ({ cls := "java/util/Arrays", name := "fill", desc := "([Ljava/lang/Object;Ljava/lang/Object;)V" } : Jvm.MethodName) jdk_65_method_117_code (4 : Nat) (Option.none : Option Jvm.ClassFile.FieldType)).before args0 about1 = true := code_word (m := ⟨6, 1⟩) (meth := k6m1) (c := k6c1) (by decide +kernel) rfl rfl rfl (by decide +kernel)
set_option maxRecDepth 65536 in
theorem w_c11 : (Jvm.Cond.code ({ cls := "com/example/carillon/carillon/Backlog", name := "isEmpty", desc := "()Z" } : Jvm.MethodName) prog_1_method_2_code (1 : Nat) (Option.some Jvm.ClassFile.FieldType.boolean)).before args0 about1 = true := code_word (m := ⟨5, 1⟩) (meth := k5m1) (c := k5c1) (by decide +kernel) rfl rfl rfl (by decide +kernel)
set_option maxRecDepth 65536 in
theorem w_c12 : (Jvm.Cond.code ({ cls := "com/example/carillon/carillon/Chain", name := "link", desc := "(Lcom/example/carillon/carillon/Message;)V" } : Jvm.MethodName) prog_2_method_11_code (2 : Nat) (Option.none : Option Jvm.ClassFile.FieldType)).before args0 about1 = true := code_word (m := ⟨3, 8⟩) (meth := k3m8) (c := k3c8) (by decide +kernel) rfl rfl rfl (by decide +kernel)
set_option maxRecDepth 65536 in
theorem w_c13 : (Jvm.Cond.code ({ cls := "com/example/carillon/carillon/Chain", name := "insertBehindFinger", desc := "(Lcom/example/carillon/carillon/Message;)V" } : Jvm.MethodName) prog_2_method_12_code (2 : Nat) (Option.none : Option Jvm.ClassFile.FieldType)).before args0 about1 = true := code_word (m := ⟨3, 9⟩) (meth := k3m9) (c := k3c9) (by decide +kernel) rfl rfl rfl (by decide +kernel)
set_option maxRecDepth 65536 in
theorem w_c14 : (Jvm.Cond.code ({ cls := "com/example/carillon/carillon/Chain", name := "append", desc := "(Lcom/example/carillon/carillon/Message;)V" } : Jvm.MethodName) prog_2_method_13_code (3 : Nat) (Option.none : Option Jvm.ClassFile.FieldType)).before args0 about1 = true := code_word (m := ⟨3, 10⟩) (meth := k3m10) (c := k3c10) (by decide +kernel) rfl rfl rfl (by decide +kernel)
set_option maxRecDepth 65536 in
theorem w_c15 : (Jvm.Cond.code ({ cls := "com/example/carillon/carillon/Chain", name := "drawLanes", desc := "()I" } : Jvm.MethodName) prog_2_method_25_code (3 : Nat) (Option.some Jvm.ClassFile.FieldType.int)).before args0 about1 = true := code_word (m := ⟨3, 20⟩) (meth := k3m20) (c := k3c20) (by decide +kernel) rfl rfl rfl (by decide +kernel)
set_option maxRecDepth 65536 in
theorem w_c16 : (Jvm.Cond.code ({ cls := "java/lang/Long", name := "numberOfLeadingZeros", desc := "(J)I" } : Jvm.MethodName) jdk_35_method_48_code (3 : Nat) (Option.some Jvm.ClassFile.FieldType.int)).before args0 about1 = true := code_word (m := ⟨12, 0⟩) (meth := k12m0) (c := k12c0) (by decide +kernel) rfl rfl rfl (by decide +kernel)
set_option maxRecDepth 65536 in
theorem w_c17 : (Jvm.Cond.code ({ cls := "java/lang/Integer", name := "numberOfLeadingZeros", desc := "(I)I" } : Jvm.MethodName) jdk_33_method_47_code (2 : Nat) (Option.some Jvm.ClassFile.FieldType.int)).before args0 about1 = true := code_word (m := ⟨13, 0⟩) (meth := k13m0) (c := k13c0) (by decide +kernel) rfl rfl rfl (by decide +kernel)
set_option maxRecDepth 65536 in
theorem w_c18 : (Jvm.Cond.code ({ cls := "com/example/carillon/carillon/Chain", name := "linkNodes", desc := "(Lcom/example/carillon/carillon/Message;I[Lcom/example/carillon/carillon/Chain$Node;)V" } : Jvm.MethodName) prog_2_method_15_code (8 : Nat) (Option.none : Option Jvm.ClassFile.FieldType)).before args0 about1 = true := code_word (m := ⟨3, 12⟩) (meth := k3m12) (c := k3c12) (by decide +kernel) rfl rfl rfl (by decide +kernel)
set_option maxRecDepth 65536 in
theorem w_c19 : (Jvm.Cond.code ({ cls := "com/example/carillon/carillon/Chain", name := "newNode", desc := "(Lcom/example/carillon/carillon/Message;)Lcom/example/carillon/carillon/Chain$Node;" } : Jvm.MethodName) prog_2_method_24_code (3 : Nat) (Option.some (Jvm.ClassFile.FieldType.object "com/example/carillon/carillon/Chain$Node"))).before args0 about1 = true := code_word (m := ⟨3, 19⟩) (meth := k3m19) (c := k3c19) (by decide +kernel) rfl rfl rfl (by decide +kernel)
set_option maxRecDepth 65536 in
theorem w_c20 : (Jvm.Cond.code ({ cls := "com/example/carillon/carillon/Chain$Node", name := "<init>", desc := "()V" } : Jvm.MethodName) prog_3_method_1_code (1 : Nat) (Option.none : Option Jvm.ClassFile.FieldType)).before args0 about1 = true := code_word (m := ⟨4, 0⟩) (meth := k4m0) (c := k4c0) (by decide +kernel) rfl rfl rfl (by decide +kernel)
set_option maxRecDepth 65536 in
theorem w_c21 : (Jvm.Cond.code ({ cls := "com/example/carillon/carillon/Chain", name := "linkAfter", desc := "(ILcom/example/carillon/carillon/Chain$Node;Lcom/example/carillon/carillon/Chain$Node;)V" } : Jvm.MethodName) prog_2_method_22_code (4 : Nat) (Option.none : Option Jvm.ClassFile.FieldType)).before args0 about1 = true := code_word (m := ⟨3, 17⟩) (meth := k3m17) (c := k3c17) (by decide +kernel) rfl rfl rfl (by decide +kernel)
set_option maxRecDepth 65536 in
theorem w_c22 : (Jvm.Cond.code ({ cls := "com/example/carillon/carillon/Chain", name := "goesBehind", desc := "(Lcom/example/carillon/carillon/Message;Lcom/example/carillon/carillon/Message;)Z" } : Jvm.MethodName) prog_2_method_5_code (2 : Nat) (Option.some Jvm.ClassFile.FieldType.boolean)).before args0 about1 = true := code_word (m := ⟨3, 4⟩) (meth := k3m4) (c := k3c4) (by decide +kernel) rfl rfl rfl (by decide +kernel)
set_option maxRecDepth 65536 in
theorem w_c23 : (Jvm.Cond.code ({ cls := "com/example/carillon/carillon/Chain", name := "linkBySearch", desc := "(Lcom/example/carillon/carillon/Message;)V" } : Jvm.MethodName) prog_2_method_14_code (8 : Nat) (Option.none : Option Jvm.ClassFile.FieldType)).before args0 about1 = true := code_word (m := ⟨3, 11⟩) (meth := k3m11) (c := k3c11) (by decide +kernel) rfl rfl rfl (by decide +kernel)
set_option maxRecDepth 65536 in
theorem w_c24 : (Jvm.Cond.code ({ cls := "com/example/carillon/carillon/Chain", name := "orderOf", desc := "(Lcom/example/carillon/carillon/Message;)J" } : Jvm.MethodName) prog_2_method_4_code (1 : Nat) (Option.some Jvm.ClassFile.FieldType.long)).before args0 about1 = true := code_word (m := ⟨3, 3⟩) (meth := k3m3) (c := k3c3) (by decide +kernel) rfl rfl rfl (by decide +kernel)
set_option maxRecDepth 65536 in
theorem w_c25 : (Jvm.Cond.code ({ cls := "com/example/carillon/carillon/Chain", name := "first", desc := "()Lcom/example/carillon/carillon/Message;" } : Jvm.MethodName) prog_2_method_2_code (1 : Nat) (Option.some (Jvm.ClassFile.FieldType.object "com/example/carillon/carillon/Message"))).before args0 about1 = true := code_word (m := ⟨3, 1⟩) (meth := k3m1) (c := k3c1) (by decide +kernel) rfl rfl rfl (by decide +kernel)
set_option maxRecDepth 65536 in
theorem w_c26 : (Jvm.Cond.code ({ cls := "com/example/carillon/carillon/Chain", name := "take", desc := "(Lcom/example/carillon/carillon/Message;Lcom/example/carillon/carillon/Message;)Lcom/example/carillon/carillon/Message;" } : Jvm.MethodName) prog_2_method_17_code (4 : Nat) (Option.some (Jvm.ClassFile.FieldType.object "com/example/carillon/carillon/Message"))).before args0 about1 = true := code_word (m := ⟨3, 14⟩) (meth := k3m14) (c := k3c14) (by decide +kernel) rfl rfl rfl (by decide +kernel)
set_option maxRecDepth 65536 in
theorem w_c27 : (Jvm.Cond.code ({ cls := "com/example/carillon/carillon/Chain", name := "unlinkFromLaneZero", desc := "(Lcom/example/carillon/carillon/Message;Lcom/example/carillon/carillon/Message;)V" } : Jvm.MethodName) prog_2_method_19_code (3 : Nat) (Option.none : Option Jvm.ClassFile.FieldType)).before args0 about1 = true := code_word (m := ⟨3, 16⟩) (meth := k3m16) (c := k3c16) (by decide +kernel) rfl rfl rfl (by decide +kernel)
set_option maxRecDepth 65536 in
theorem w_c28 : (Jvm.Cond.code ({ cls := "com/example/carillon/carillon/Chain", name := "lastOrder", desc := "()J" } : Jvm.MethodName) prog_2_method_3_code (3 : Nat) (Option.some Jvm.ClassFile.FieldType.long)).before args0 about1 = true := code_word (m := ⟨3, 2⟩) (meth := k3m2) (c := k3c2) (by decide +kernel) rfl rfl rfl (by decide +kernel)
set_option maxRecDepth 65536 in
theorem w_c29 : (Jvm.Cond.code ({ cls := "com/example/carillon/carillon/Backlog", name := "highestOrder", desc := "()J" } : Jvm.MethodName) prog_1_method_5_code (1 : Nat) (Option.some Jvm.ClassFile.FieldType.long)).before args0 about1 = true := code_word (m := ⟨5, 2⟩) (meth := k5m2) (c := k5c2) (by decide +kernel) rfl rfl rfl (by decide +kernel)
set_option maxRecDepth 65536 in
theorem w_c30 : (Jvm.Cond.code ({ cls := "java/lang/Math", name := "max", desc := "(JJ)J" } : Jvm.MethodName) jdk_29_method_66_code (4 : Nat) (Option.some Jvm.ClassFile.FieldType.long)).before args0 about1 = true := code_word (m := ⟨14, 1⟩) (meth := k14m1) (c := k14c1) (by decide +kernel) rfl rfl rfl (by decide +kernel)
set_option maxRecDepth 65536 in
theorem w_c31 : (Jvm.Cond.code ({ cls := "com/example/carillon/carillon/ChainTakePinLaw", name := "ord", desc := "(Lcom/example/carillon/carillon/Message;)J" } : Jvm.MethodName) method_2_code (1 : Nat) (Option.some Jvm.ClassFile.FieldType.long)).before args0 about1 = true := code_word (m := ⟨1, 1⟩) (meth := k1m1) (c := k1c1) (by decide +kernel) rfl rfl rfl (by decide +kernel)
set_option maxRecDepth 65536 in
theorem w_c32 : (Jvm.Cond.code ({ cls := "com/example/carillon/carillon/Chain", name := "unlinkNodesBySearch", desc := "(Lcom/example/carillon/carillon/Message;)V" } : Jvm.MethodName) prog_2_method_18_code (7 : Nat) (Option.none : Option Jvm.ClassFile.FieldType)).before args0 about1 = true := code_word (m := ⟨3, 15⟩) (meth := k3m15) (c := k3c15) (by decide +kernel) rfl rfl rfl (by decide +kernel)
set_option maxRecDepth 65536 in
theorem w_c33 : (Jvm.Cond.code ({ cls := "com/example/carillon/carillon/Chain", name := "unlinkNode", desc := "(ILcom/example/carillon/carillon/Chain$Node;Lcom/example/carillon/carillon/Chain$Node;)V" } : Jvm.MethodName) prog_2_method_23_code (4 : Nat) (Option.none : Option Jvm.ClassFile.FieldType)).before args0 about1 = true := code_word (m := ⟨3, 18⟩) (meth := k3m18) (c := k3c18) (by decide +kernel) rfl rfl rfl (by decide +kernel)
def codes1 : List Jvm.Cond := [Jvm.Cond.code x code maxLocals ret, Jvm.Cond.code ({ cls := "com/example/carillon/carillon/Message", name := "<init>", desc := "()V" } : Jvm.MethodName) prog_15_method_1_code (1 : Nat) (Option.none : Option Jvm.ClassFile.FieldType), Jvm.Cond.code ({ cls := "java/lang/Object", name := "<init>", desc := "()V" } : Jvm.MethodName) object_method_1_code (1 : Nat) (Option.none : Option Jvm.ClassFile.FieldType), Jvm.Cond.code ({ cls := "com/example/carillon/carillon/ChainTakePinLaw", name := "fill", desc := "(Lcom/example/carillon/carillon/Message;JZ)V" } : Jvm.MethodName) method_3_code (4 : Nat) (Option.none : Option Jvm.ClassFile.FieldType), Jvm.Cond.code ({ cls := "com/example/carillon/carillon/Chain", name := "<init>", desc := "()V" } : Jvm.MethodName) prog_2_method_1_code (1 : Nat) (Option.none : Option Jvm.ClassFile.FieldType), Jvm.Cond.code ({ cls := "com/example/carillon/carillon/Backlog", name := "<init>", desc := "()V" } : Jvm.MethodName) prog_1_method_1_code (1 : Nat) (Option.none : Option Jvm.ClassFile.FieldType), Jvm.Cond.code ({ cls := "com/example/carillon/carillon/Chain", name := "insert", desc := "(Lcom/example/carillon/carillon/Message;)V" } : Jvm.MethodName) prog_2_method_10_code (2 : Nat) (Option.none : Option Jvm.ClassFile.FieldType), Jvm.Cond.code ({ cls := "com/example/carillon/carillon/Chain", name := "placeAll", desc := "()V" } : Jvm.MethodName) prog_2_method_9_code (1 : Nat) (Option.none : Option Jvm.ClassFile.FieldType), Jvm.Cond.code ({ cls := "com/example/carillon/carillon/Chain", name := "placeAheadOf", desc := "(Lcom/example/carillon/carillon/Message;)Z" } : Jvm.MethodName) prog_2_method_8_code (3 : Nat) (Option.some Jvm.ClassFile.FieldType.boolean), Jvm.Cond.code ({ cls := "com/example/carillon/carillon/Chain", name := "clearFinger", desc := "()V" } : Jvm.MethodName) prog_2_method_16_code (1 : Nat) (Option.none : Option Jvm.ClassFile.FieldType), Jvm.Cond.code ({ cls := "java/util/Arrays", name := "fill", desc := "([Ljava/lang/Object;Ljava/lang/Object;)V" } : Jvm.MethodName) jdk_65_method_117_code (4 : Nat) (Option.none : Option Jvm.ClassFile.FieldType), Jvm.Cond.code ({ cls := "com/example/carillon/carillon/Backlog", name := "isEmpty", desc := "()Z" } : Jvm.MethodName) prog_1_method_2_code (1 : Nat) (Option.some Jvm.ClassFile.FieldType.boolean), Jvm.Cond.code ({ cls := "com/example/carillon/carillon/Chain", name := "link", desc := "(Lcom/example/carillon/carillon/Message;)V" } : Jvm.MethodName) prog_2_method_11_code (2 : Nat) (Option.none : Option Jvm.ClassFile.FieldType), Jvm.Cond.code ({ cls := "com/example/carillon/carillon/Chain", name := "insertBehindFinger", desc := "(Lcom/example/carillon/carillon/Message;)V" } : Jvm.MethodName) prog_2_method_12_code (2 : Nat) (Option.none : Option Jvm.ClassFile.FieldType), Jvm.Cond.code ({ cls := "com/example/carillon/carillon/Chain", name := "append", desc := "(Lcom/example/carillon/carillon/Message;)V" } : Jvm.MethodName) prog_2_method_13_code (3 : Nat) (Option.none : Option Jvm.ClassFile.FieldType), Jvm.Cond.code ({ cls := "com/example/carillon/carillon/Chain", name := "drawLanes", desc := "()I" } : Jvm.MethodName) prog_2_method_25_code (3 : Nat) (Option.some Jvm.ClassFile.FieldType.int), Jvm.Cond.code ({ cls := "java/lang/Long", name := "numberOfLeadingZeros", desc := "(J)I" } : Jvm.MethodName) jdk_35_method_48_code (3 : Nat) (Option.some Jvm.ClassFile.FieldType.int), Jvm.Cond.code ({ cls := "java/lang/Integer", name := "numberOfLeadingZeros", desc := "(I)I" } : Jvm.MethodName) jdk_33_method_47_code (2 : Nat) (Option.some Jvm.ClassFile.FieldType.int), Jvm.Cond.code ({ cls := "com/example/carillon/carillon/Chain", name := "linkNodes", desc := "(Lcom/example/carillon/carillon/Message;I[Lcom/example/carillon/carillon/Chain$Node;)V" } : Jvm.MethodName) prog_2_method_15_code (8 : Nat) (Option.none : Option Jvm.ClassFile.FieldType), Jvm.Cond.code ({ cls := "com/example/carillon/carillon/Chain", name := "newNode", desc := "(Lcom/example/carillon/carillon/Message;)Lcom/example/carillon/carillon/Chain$Node;" } : Jvm.MethodName) prog_2_method_24_code (3 : Nat) (Option.some (Jvm.ClassFile.FieldType.object "com/example/carillon/carillon/Chain$Node")), Jvm.Cond.code ({ cls := "com/example/carillon/carillon/Chain$Node", name := "<init>", desc := "()V" } : Jvm.MethodName) prog_3_method_1_code (1 : Nat) (Option.none : Option Jvm.ClassFile.FieldType), Jvm.Cond.code ({ cls := "com/example/carillon/carillon/Chain", name := "linkAfter", desc := "(ILcom/example/carillon/carillon/Chain$Node;Lcom/example/carillon/carillon/Chain$Node;)V" } : Jvm.MethodName) prog_2_method_22_code (4 : Nat) (Option.none : Option Jvm.ClassFile.FieldType), Jvm.Cond.code ({ cls := "com/example/carillon/carillon/Chain", name := "goesBehind", desc := "(Lcom/example/carillon/carillon/Message;Lcom/example/carillon/carillon/Message;)Z" } : Jvm.MethodName) prog_2_method_5_code (2 : Nat) (Option.some Jvm.ClassFile.FieldType.boolean), Jvm.Cond.code ({ cls := "com/example/carillon/carillon/Chain", name := "linkBySearch", desc := "(Lcom/example/carillon/carillon/Message;)V" } : Jvm.MethodName) prog_2_method_14_code (8 : Nat) (Option.none : Option Jvm.ClassFile.FieldType), Jvm.Cond.code ({ cls := "com/example/carillon/carillon/Chain", name := "orderOf", desc := "(Lcom/example/carillon/carillon/Message;)J" } : Jvm.MethodName) prog_2_method_4_code (1 : Nat) (Option.some Jvm.ClassFile.FieldType.long), Jvm.Cond.code ({ cls := "com/example/carillon/carillon/Chain", name := "first", desc := "()Lcom/example/carillon/carillon/Message;" } : Jvm.MethodName) prog_2_method_2_code (1 : Nat) (Option.some (Jvm.ClassFile.FieldType.object "com/example/carillon/carillon/Message")), Jvm.Cond.code ({ cls := "com/example/carillon/carillon/Chain", name := "take", desc := "(Lcom/example/carillon/carillon/Message;Lcom/example/carillon/carillon/Message;)Lcom/example/carillon/carillon/Message;" } : Jvm.MethodName) prog_2_method_17_code (4 : Nat) (Option.some (Jvm.ClassFile.FieldType.object "com/example/carillon/carillon/Message")), Jvm.Cond.code ({ cls := "com/example/carillon/carillon/Chain", name := "unlinkFromLaneZero", desc := "(Lcom/example/carillon/carillon/Message;Lcom/example/carillon/carillon/Message;)V" } : Jvm.MethodName) prog_2_method_19_code (3 : Nat) (Option.none : Option Jvm.ClassFile.FieldType), Jvm.Cond.code ({ cls := "com/example/carillon/carillon/Chain", name := "lastOrder", desc := "()J" } : Jvm.MethodName) prog_2_method_3_code (3 : Nat) (Option.some Jvm.ClassFile.FieldType.long), Jvm.Cond.code ({ cls := "com/example/carillon/carillon/Backlog", name := "highestOrder", desc := "()J" } : Jvm.MethodName) prog_1_method_5_code (1 : Nat) (Option.some Jvm.ClassFile.FieldType.long), Jvm.Cond.code ({ cls := "java/lang/Math", name := "max", desc := "(JJ)J" } : Jvm.MethodName) jdk_29_method_66_code (4 : Nat) (Option.some Jvm.ClassFile.FieldType.long), Jvm.Cond.code ({ cls := "com/example/carillon/carillon/ChainTakePinLaw", name := "ord", desc := "(Lcom/example/carillon/carillon/Message;)J" } : Jvm.MethodName) method_2_code (1 : Nat) (Option.some Jvm.ClassFile.FieldType.long), Jvm.Cond.code ({ cls := "com/example/carillon/carillon/Chain", name := "unlinkNodesBySearch", desc := "(Lcom/example/carillon/carillon/Message;)V" } : Jvm.MethodName) prog_2_method_18_code (7 : Nat) (Option.none : Option Jvm.ClassFile.FieldType), Jvm.Cond.code ({ cls := "com/example/carillon/carillon/Chain", name := "unlinkNode", desc := "(ILcom/example/carillon/carillon/Chain$Node;Lcom/example/carillon/carillon/Chain$Node;)V" } : Jvm.MethodName) prog_2_method_23_code (4 : Nat) (Option.none : Option Jvm.ClassFile.FieldType)]
set_option maxRecDepth 65536 in
theorem codes_eq : words1.filter isCode = codes1 := rfl
theorem w_codes : ∀ c ∈ words1.filter isCode, c.before args0 about1 = true := by
  rw [codes_eq]
  intro c hc
  simp only [codes1, List.mem_cons, List.not_mem_nil, or_false] at hc
  rcases hc with rfl | rfl | rfl | rfl | rfl | rfl | rfl | rfl | rfl | rfl | rfl | rfl | rfl | rfl | rfl | rfl | rfl | rfl | rfl | rfl | rfl | rfl | rfl | rfl | rfl | rfl | rfl | rfl | rfl | rfl | rfl | rfl | rfl | rfl
  · exact w_c0
  · exact w_c1
  · exact w_c2
  · exact w_c3
  · exact w_c4
  · exact w_c5
  · exact w_c6
  · exact w_c7
  · exact w_c8
  · exact w_c9
  · exact w_c10
  · exact w_c11
  · exact w_c12
  · exact w_c13
  · exact w_c14
  · exact w_c15
  · exact w_c16
  · exact w_c17
  · exact w_c18
  · exact w_c19
  · exact w_c20
  · exact w_c21
  · exact w_c22
  · exact w_c23
  · exact w_c24
  · exact w_c25
  · exact w_c26
  · exact w_c27
  · exact w_c28
  · exact w_c29
  · exact w_c30
  · exact w_c31
  · exact w_c32
  · exact w_c33
set_option maxRecDepth 65536 in
theorem w_t1 : (words1.take 24).all (fun c => isCode c || c.before args0 about1) = true := by decide +kernel
set_option maxRecDepth 65536 in
theorem w_t2 : ((words1.drop 24).take 24).all (fun c => isCode c || c.before args0 about1) = true := by decide +kernel
set_option maxRecDepth 65536 in
theorem w_t3 : (((words1.drop 24).drop 24).take 24).all (fun c => isCode c || c.before args0 about1) = true := by decide +kernel
set_option maxRecDepth 65536 in
theorem w_t4 : ((((words1.drop 24).drop 24).drop 24).take 24).all (fun c => isCode c || c.before args0 about1) = true := by decide +kernel
set_option maxRecDepth 65536 in
theorem w_t5 : (((((words1.drop 24).drop 24).drop 24).drop 24).take 24).all (fun c => isCode c || c.before args0 about1) = true := by decide +kernel
set_option maxRecDepth 65536 in
theorem w_t6 : ((((((words1.drop 24).drop 24).drop 24).drop 24).drop 24).take 24).all (fun c => isCode c || c.before args0 about1) = true := by decide +kernel
set_option maxRecDepth 65536 in
theorem w_t7 : (((((((words1.drop 24).drop 24).drop 24).drop 24).drop 24).drop 24).take 24).all (fun c => isCode c || c.before args0 about1) = true := by decide +kernel
set_option maxRecDepth 65536 in
theorem w_t8 : ((((((((words1.drop 24).drop 24).drop 24).drop 24).drop 24).drop 24).drop 24).take 24).all (fun c => isCode c || c.before args0 about1) = true := by decide +kernel
set_option maxRecDepth 65536 in
theorem w_t9 : ((((((((words1.drop 24).drop 24).drop 24).drop 24).drop 24).drop 24).drop 24).drop 24).all (fun c => isCode c || c.before args0 about1) = true := by decide +kernel
theorem w_tables : (allAtoms (Jvm.Cond.code x code maxLocals ret :: tables_1)).before args0 about1 = true := by
  rw [allAtoms_all]
  show words1.all (fun c => c.before args0 about1) = true
  refine all_split ?_ w_codes
  rw [← List.take_append_drop 24 words1, List.all_append, w_t1, ← List.take_append_drop 24 (words1.drop 24), List.all_append, w_t2, ← List.take_append_drop 24 ((words1.drop 24).drop 24), List.all_append, w_t3, ← List.take_append_drop 24 (((words1.drop 24).drop 24).drop 24), List.all_append, w_t4, ← List.take_append_drop 24 ((((words1.drop 24).drop 24).drop 24).drop 24), List.all_append, w_t5, ← List.take_append_drop 24 (((((words1.drop 24).drop 24).drop 24).drop 24).drop 24), List.all_append, w_t6, ← List.take_append_drop 24 ((((((words1.drop 24).drop 24).drop 24).drop 24).drop 24).drop 24), List.all_append, w_t7, ← List.take_append_drop 24 (((((((words1.drop 24).drop 24).drop 24).drop 24).drop 24).drop 24).drop 24), List.all_append, w_t8, w_t9]
  rfl
set_option maxRecDepth 65536 in
theorem w_case : (Jvm.Cond.and given_1 narrow_1).before args0 about1 = true := by decide +kernel
theorem w_applies : (headSpec (Jvm.Cond.code x code maxLocals ret :: tables_1) room_1).applies x e0.platform about1 = true :=
  (Spec.applies_iff w_frames).mpr ⟨w_running, w_runnable, w_alone, w_named, w_hears, w_ripe, w_room, w_tables⟩
theorem atStart : AtStart classFile x code maxLocals ret World_1 tables_1 room_1 Calls_1 rest_1 Pre_1 launch0 p0 e0 about1 theMethod args0 below0 :=
  ⟨lists_1, trivial, launch0.admits_env _ _ _, launch0.least_env, fairChoices_fair.cas, fairChoices_fair.clock, w_frames, w_args, w_heap, w_applies, trivial, trivial, w_case⟩
end start1
theorem witness_1 : WitnessClaimed_1 := ⟨start1.p0, start1.e0, start1.about1, start1.theMethod, start1.args0, start1.below0, start1.atStart⟩
end Jvm.Pilot.@@N@@
